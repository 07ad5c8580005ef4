import Derived.Test.Qxb6602218aDoorProg
import Derived.WalkKit
import Derived.WalkSpells
import Derived.WalkLawsBesides
import Derived.BigQuiet
import Derived.Outline
import Derived.Deep.AppendLies
import Derived.Deep.Slices
namespace Go.Proofs.Qxb6602218aDoor
open Go.RowKit Go.Deep
set_option linter.unusedVariables false
theorem Tryd.info9 : (Tryd.prog.info? 9).map (fun i => (i.zero, i.size, i.bytes)) = some (some (.string ByteArray.empty), 1, 16) := by kernel_rfl

/-- A slice of strings, read. -/
def StrS (w : World) (ao : Option Addr) (n : Nat) (ss : List ByteArray) : Prop :=
  ss.length = n ∧ (n = 0 ∨ ∃ b o, ao = some ⟨b, o, none⟩ ∧ ∀ i s, ss[i]? = some s → w.cell? ⟨b, o + i, none⟩ = some (.string s))
theorem StrS.below {w w' : World} {ao : Option Addr} {n : Nat} {ss : List ByteArray} (h : StrS w ao n ss) (bel : Below w.heap.size w w') : StrS w' ao n ss := by
  refine ⟨h.1, ?_⟩
  rcases h.2 with h0 | ⟨b, o, ha, hc⟩
  · exact Or.inl h0
  · exact Or.inr ⟨b, o, ha, fun i t ht => (bel.cell (p := ⟨b, o + i, none⟩) (World.block_lt_of_cell? w _ (hc i t ht))).trans (hc i t ht)⟩
theorem StrS.at {w : World} {ao : Option Addr} {n : Nat} {ss : List ByteArray} (h : StrS w ao n ss) {k : Nat} (hk : k < n) :
    ∃ b o s, ao = some ⟨b, o, none⟩ ∧ Hid (ss[k]? = some s) ∧ w.cell? ⟨b, o + k, none⟩ = some (.string s) := by
  obtain ⟨hl, h0 | ⟨b, o, ha, hc⟩⟩ := h
  · omega
  · have hk' : k < ss.length := by omega
    exact ⟨b, o, ss[k], ha, List.getElem?_eq_getElem hk', hc k _ (List.getElem?_eq_getElem hk')⟩

/-- A row of strings of the call's own. -/
structure Rw (w : World) (g n cap : Nat) (ss : List ByteArray) : Prop where
  own : w.ownsRow 0 9 1 (.slice (some ⟨g, 0, none⟩) n cap) n (ss.map Value.string)
theorem Rw.len {w : World} {g n cap : Nat} {ss : List ByteArray} (h : Rw w g n cap ss) : ss.length = n := by have := h.own.1; simpa using this
theorem Rw.block {w : World} {g n cap : Nat} {ss : List ByteArray} (h : Rw w g n cap ss) : ∃ cur, w.heap[g]? = some (.cells cur 9 (0, 0)) := by
  rcases h.own.2 with ⟨h', _⟩ | ⟨g', cap', cur, h', _, hg, _⟩
  · simp at h'
  · simp only [Value.slice.injEq, Option.some.injEq, Addr.mk.injEq, and_true, true_and] at h'
    obtain ⟨rfl, rfl⟩ := h'
    exact ⟨cur, hg⟩
theorem Rw.lt {w : World} {g n cap : Nat} {ss : List ByteArray} (h : Rw w g n cap ss) : g < w.heap.size := (h.own.lt g rfl).2
theorem Rw.cell {w : World} {g n cap : Nat} {ss : List ByteArray} (h : Rw w g n cap ss) {k : Nat} {s : ByteArray} (hs : ss[k]? = some s) : w.cell? ⟨g, k, none⟩ = some (.string s) := by
  have hk := (List.getElem?_eq_some_iff.1 hs).1
  have hl := h.len
  rw [h.own.cellAt k (by omega)]
  simp [hs]
theorem Rw.frozen {w : World} {g n cap : Nat} {ss : List ByteArray} (h : Rw w g n cap ss) (k : Nat) : w.frozen? ⟨g, k, none⟩ = false := h.own.frozenAt k
theorem Rw.of_block {w w' : World} {g n cap : Nat} {ss : List ByteArray} (h : Rw w g n cap ss) (e : w'.heap[g]? = w.heap[g]?) : Rw w' g n cap ss := by
  refine ⟨⟨h.own.1, ?_⟩⟩
  rcases h.own.2 with ⟨h', _⟩ | ⟨g', cap', cur, h', hb, hg, r⟩
  · simp at h'
  · have h2 := h'
    simp only [Value.slice.injEq, Option.some.injEq, Addr.mk.injEq, and_true, true_and] at h2
    obtain ⟨rfl, rfl⟩ := h2
    exact Or.inr ⟨g, cap, cur, rfl, hb, by rw [e]; exact hg, r⟩
theorem Rw.below {w w' : World} {B g n cap : Nat} {ss : List ByteArray} (h : Rw w g n cap ss) (hg : g < B) (bel : Below B w w') : Rw w' g n cap ss := h.of_block (bel.block g hg)
theorem Rw.strs {w : World} {g n cap : Nat} {ss : List ByteArray} (h : Rw w g n cap ss) : StrS w (some ⟨g, 0, none⟩) n ss :=
  ⟨h.len, Or.inr ⟨g, 0, rfl, fun i s hs => by rw [Nat.zero_add]; exact h.cell hs⟩⟩
theorem Rw.store {w : World} {g n cap : Nat} {ss : List ByteArray} (h : Rw w g n cap ss) (k : Nat) (s : ByteArray) : Rw (w.setCell ⟨g, k, none⟩ (.string s)) g n cap (ss.set k s) :=
  ⟨by rw [List.map_set]; exact (h.own.stored k (.string s)).1⟩
theorem rw_of_owns {w : World} {base g n cap : Nat} {ss : List ByteArray} (h : w.ownsRow base 9 1 (.slice (some ⟨g, 0, none⟩) n cap) n (ss.map Value.string)) : Rw w g n cap ss := by
  refine ⟨⟨h.1, ?_⟩⟩
  rcases h.2 with h' | ⟨g', cap', cur, h', hb, r⟩
  · exact Or.inl h'
  · exact Or.inr ⟨g', cap', cur, h', Nat.zero_le _, r⟩

end Go.Proofs.Qxb6602218aDoor
