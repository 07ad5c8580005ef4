import Derived.Test.Qxb6602218aDoorRows
import Derived.Test.Qxb6602218aDoorKey
import Derived.WalkKit
import Derived.ProofKit
import Derived.OpenShut
import Derived.ShutString
import Derived.ChangeOld
import Derived.Below
import Derived.Lay
import Derived.Lib.LaidTab
import Derived.MakeChecks
import Derived.Stop.Joined
namespace Go.Proofs.Qxb6602218aDoor
open Go.ChangeShapes Go.WideShapes Go.ChangeAt Go.RowKit Go.Deep
set_option linter.unusedVariables false

theorem own : ownKnob Tryd.prog.godebug = none := by kernel_rfl
theorem laidOut : laidOutB Tryd.prog = true := by kernel_rfl
theorem cells9 : Tryd.prog.cellsOf 9 = 1 := by kernel_rfl

section
variable {H : Type} {enc : TypeId × Value → H} {W : World} {base : Nat} {spare : Nat → Bool} {held : Bool}
/-- A slice of strings, out of its reading. -/
theorem open_strS {ao : Option Addr} {n c fuel : Nat} {x : DataW H × List MemPlace} (h : DataW.trod enc Tryd.prog W base spare held fuel 22 [.slice ao n c] = some x) : (∃ ss, StrS W ao n ss) ∧ n ≤ maxLen := by
  rcases open_slice1 Tryd.underlying22 cells9 h with ⟨hcs, _⟩ | ⟨a, len, cap, m, k, V, D, Pl, hcs, hb, hl, hm, hmm, _, hx⟩
  · simp at hcs
    obtain ⟨rfl, rfl, rfl⟩ := hcs
    exact ⟨⟨[], rfl, Or.inl rfl⟩, by simp [maxLen]⟩
  · simp at hcs
    obtain ⟨rfl, rfl, rfl⟩ := hcs
    have hlm : n ≤ m := by rw [hmm]; split <;> omega
    obtain ⟨f, hfn⟩ := choose_lt (n := n) (p := fun i (s : ByteArray) => W.cell? (a.add i) = some (.string s)) (fun i hi => by
      obtain ⟨h1, h2⟩ := hx i (by omega)
      obtain ⟨s, e, _⟩ := DataW.trod_string Tryd.underlying9 h2
      simp at e
      rw [e] at h1
      exact ⟨s, h1⟩)
    refine ⟨⟨(List.range n).map f, by simp, ?_⟩, by omega⟩
    by_cases hn : n = 0
    · exact Or.inl hn
    · right
      obtain ⟨b, o, spot⟩ := a
      have hspot : spot = none := by simpa [Addr.add] using World.cell?_spot (hfn 0 (by omega))
      subst hspot
      refine ⟨b, o, rfl, fun i s hs => ?_⟩
      have hi : i < n := by have := (List.getElem?_eq_some_iff.1 hs).1; simpa using this
      have e : s = f i := by simp [hi] at hs; exact hs.symm
      subst e
      have := hfn i hi
      rwa [add_plain] at this
end

/-- The three listed tables. -/
def laid3 : List (String × DataW Unit) := Rows.fnKeyInjectiveRow.laid
theorem powType : (Tryd.prog.globals[0]?).map (·.type) = some 52 := by kernel_rfl
theorem powData : Rows.laid_internal_strconv_uint64pow10 (H := Unit) = Lib.tabData .u64 Lib.pow10Tab := rfl
theorem tabIs_of_laid {W : World} (h : laidMet Tryd.prog laid3 W) : Lib.TabIs Tryd.prog W Tryd.powName .u64 Lib.pow10Tab := by
  obtain ⟨ps, ⟨g0, t0, cs0, f0, p0, q0, hg0, ht0, hv0, hd0, ⟨g1, t1, cs1, f1, p1, q1, hg1, ht1, hv1, hd1, ⟨g2, t2, cs2, f2, p2, q2, hg2, ht2, hv2, hd2, _, _⟩, _⟩, _⟩, _⟩ := h
  obtain rfl := Option.some.inj (globalPow.symm.trans hg2)
  obtain rfl := Option.some.inj (powType.symm.trans ht2)
  rw [powData] at hd2
  have hc := Lib.cells_of_tab Tryd.underlying52 Tryd.underlying45 (by kernel_rfl) (by kernel_rfl) hd2
  exact hv2.trans (congrArg some (by rw [← hc]))
theorem tab_of_laid {W : World} (h : laidMetH Tryd.prog laid3 W) : Tab W := by
  rw [MakeChecks.laidMetH_plain _ _ _ (by kernel_rfl)] at h
  have hT := tabIs_of_laid h
  exact ⟨hT, World.block_lt_of_cell? W ⟨0, 0, none⟩ (hT.cell globalPow 0 (by decide))⟩
theorem laid_world_met (os : Os) (args : Array Value) : laidMetH Tryd.prog laid3 ((World.laidAll Tryd.prog os laid3).forCall (fun _ _ => 0) ⟨#[], args, []⟩).memory := by
  rw [MakeChecks.laidMetH_plain _ _ _ (by kernel_rfl)]
  exact laidMet_laidAll _ (by kernel_rfl) (by kernel_rfl)
end Go.Proofs.Qxb6602218aDoor
