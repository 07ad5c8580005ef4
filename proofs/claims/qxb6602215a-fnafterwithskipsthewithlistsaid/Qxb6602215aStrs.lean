import Derived.Test.Qxb6602215aLeaves
import Derived.Test.Qxb6602215aModes
import Derived.Deep.AppendLies
import Derived.Deep.Light
namespace Go.Proofs.Qxb6602215a
open Go.RowKit Go.Deep
set_option linter.unusedVariables false
theorem Try.info9 : (Try.prog.info? 9).map (fun i => (i.zero, i.size, i.bytes)) = some (some (.string ByteArray.empty), 1, 16) := by kernel_rfl

/-- A slice of strings that the call builds by append. -/
structure StrW (w wr : World) (v : Value) (ss : List ByteArray) : Prop where
  own : wr.ownsRow w.heap.size 9 1 v ss.length (ss.map Value.string)
  bel : Below w.heap.size w wr
  nil : v = .slice none 0 0 ↔ ss = []

theorem strW_start (w : World) : StrW w w (.slice none 0 0) [] := ⟨World.ownsRow_nil _ _ _ _, Below.refl _ _, by simp⟩
theorem StrW.alloc {w wr : World} {v : Value} {ss : List ByteArray} (S : StrW w wr v ss) (o : Obj) : StrW w (wr.alloc o) v ss :=
  ⟨S.own.alloc o, S.bel.alloc S.bel.size o, S.nil⟩
theorem StrW.push {w W w1 : World} {v v' : Value} {ss : List ByteArray} {s : ByteArray} (S : StrW w W v ss)
    (ho : w1.ownsRow w.heap.size 9 1 v' (ss.length + 1) (ss.map Value.string ++ [.string s])) (hg : W.grownBy w1 v.ownBlock) (hn : v' = .slice none 0 0 ↔ v = .slice none 0 0 ∧ (1 : Nat) = 0) : StrW w w1 v' (ss ++ [s]) := by
  refine ⟨?_, S.bel.grown hg S.bel.size (fun g h => (S.own.lt g h).1), ?_⟩
  · rw [List.length_append, List.map_append]; exact ho
  · rw [hn]; simp
theorem one_new {W : World} {a : Value} {t : TypeId} {g : Nat} (hg : W.heap.size = g) : ∀ (j : Nat) (u : Value), [a][j]? = some u → (W.alloc (.cells #[a] t)).cell? ((⟨g, 0, none⟩ : Addr).add j) = some u := by
  subst hg
  exact World.news_of_block (heap_alloc_new W _)
theorem one_str {s : ByteArray} : ∀ u ∈ [Value.string s], u.oneCell' = true := by
  intro u hu
  simp at hu
  subst hu
  rfl

/-- A slice of strings, read. -/
def StrSl (w : World) (ao : Option Addr) (n : Nat) (ss : List ByteArray) : Prop :=
  ss.length = n ∧ (ao = none ↔ ss = []) ∧ (n = 0 ∨ ∃ b o, ao = some ⟨b, o, none⟩ ∧ ∀ i s, ss[i]? = some s → w.cell? ⟨b, o + i, none⟩ = some (.string s))

theorem StrSl.below {w w' : World} {ao : Option Addr} {n : Nat} {ss : List ByteArray} (h : StrSl w ao n ss) (bel : Below w.heap.size w w') : StrSl w' ao n ss := by
  refine ⟨h.1, h.2.1, ?_⟩
  rcases h.2.2 with h0 | ⟨b, o, ha, hc⟩
  · exact Or.inl h0
  · exact Or.inr ⟨b, o, ha, fun i t ht => (bel.cell (p := ⟨b, o + i, none⟩) (World.block_lt_of_cell? w _ (hc i t ht))).trans (hc i t ht)⟩

theorem StrW.sl {w w' : World} {v : Value} {ss : List ByteArray} (S : StrW w w' v ss) : ∃ ao c, v = .slice ao ss.length c ∧ StrSl w' ao ss.length ss := by
  obtain ⟨⟨hl, ho⟩, hb, hn⟩ := S
  rcases ho with ⟨rfl, hz⟩ | ⟨g, cap, cur, rfl, hg, hh, hle, _, hs, htk⟩
  · have : ss = [] := hn.1 rfl
    subst this
    exact ⟨none, 0, rfl, rfl, by simp, Or.inl rfl⟩
  · have hne : ss ≠ [] := fun h => by have := hn.2 h; cases this
    refine ⟨some ⟨g, 0, none⟩, cap, rfl, rfl, by simp [hne], Or.inr ⟨g, 0, rfl, fun i s hs' => ?_⟩⟩
    have hi := (List.getElem?_eq_some_iff.1 hs').1
    have g0 : (ss.map Value.string)[i]? = some (.string s) := by simp [hs']
    rw [← htk, List.getElem?_take, if_pos (by omega)] at g0
    rw [Nat.zero_add, cell_of_row w' g _ cur 9 (0, 0) hh]
    simpa using g0

theorem StrSl.at {w : World} {a : Addr} {n : Nat} {ss : List ByteArray} (h : StrSl w (some a) n ss) {k : Nat} (hk : k < n) :
    ∃ b o s, a = ⟨b, o, none⟩ ∧ Hid (ss[k]? = some s) ∧ w.cell? ⟨b, o + k, none⟩ = some (.string s) := by
  obtain ⟨hl, _, h0 | ⟨b, o, ha, hc⟩⟩ := h
  · omega
  · have hk' : k < ss.length := by omega
    exact ⟨b, o, ss[k], Option.some.inj ha, List.getElem?_eq_getElem hk', hc k _ (List.getElem?_eq_getElem hk')⟩

def TrueB (w : World) (e : Ending) (w' : World) : Prop := e = .returned (.bool true) ∧ Below w.heap.size w w'
theorem trueB_mk {w w' : World} (h : Below w.heap.size w w') : TrueB w (.returned (.bool true)) w' := ⟨rfl, h⟩

set_option maxRecDepth 100000 in
set_option maxHeartbeats 1000000 in
/-- sameStrings at two slices of the same strings. -/
theorem sameStrings_any (a1 a2 : Option Addr) (n c1 c2 : Nat) (w : World) (ss : List ByteArray) (h1 : StrSl w a1 n ss) (h2 : StrSl w a2 n ss) (hm : n ≤ 1048576) :
    Calls Try.prog 15 #[.slice a1 n c1, .slice a2 n c2] w (TrueB w) := by
  by_cases hn : n = 0
  · subst hn
    have e1 : a1 = none := h1.2.1.2 (List.eq_nil_of_length_eq_zero h1.1)
    have e2 : a2 = none := h2.2.1.2 (List.eq_nil_of_length_eq_zero h2.1)
    subst e1 e2
    clear h1 h2
    have hq1 := fun wx c => Lib.run_eql_slice_nil (P := Try.prog) wx 24 9 none 0 c 0 0 Try.underlying24
    go_enter Try.func15, Try.ntmps15
    go_wp2
    go_loop [5] (fun i => i = .int .i64 0) (fun _ => 0)
    case atStart => rfl
    case round =>
      subst hrel
      go_wp2
      go_ret
      exact trueB_mk (Below.refl _ _)
  · obtain ⟨x1, e1⟩ : ∃ x, a1 = some x := by
      rcases h1.2.2 with h | ⟨b, o, h, _⟩
      · exact absurd h hn
      · exact ⟨_, h⟩
    obtain ⟨x2, e2⟩ : ∃ x, a2 = some x := by
      rcases h2.2.2 with h | ⟨b, o, h, _⟩
      · exact absurd h hn
      · exact ⟨_, h⟩
    subst e1 e2
    have H1 : Hid (StrSl w (some x1) n ss) := h1
    have H2 : Hid (StrSl w (some x2) n ss) := h2
    clear h1 h2
    have hq1 := fun wx c => Lib.run_eql_slice_nil (P := Try.prog) wx 24 9 (some x1) n c 0 0 Try.underlying24
    have hq2 := fun wx c => Lib.run_eql_slice_nil (P := Try.prog) wx 24 9 (some x2) n c 0 0 Try.underlying24
    go_enter Try.func15, Try.ntmps15
    go_wp2
    clear hq1 hq2
    go_loopw [5] (fun i wr => ∃ k : Nat, k ≤ n ∧ i = .int .i64 k ∧ Below w.heap.size w wr) (fun i _ => n - (intOf i).toNat)
    case atStart => exact ⟨0, Nat.zero_le _, rfl, Below.refl _ _⟩
    case round =>
      obtain ⟨k, hk, rfl, hbel⟩ := hrel
      by_cases hlt : k < n
      · obtain ⟨b, o, s, ha, hs, d0⟩ := (H1.out.below hbel).at hlt
        obtain ⟨b', o', s', ha', hs', d1⟩ := (H2.out.below hbel).at hlt
        have es : s' = s := Option.some.inj (hs'.out.symm.trans hs.out)
        subst es ha ha'
        clear hs hs'
        have hlt' : (k : Int) < (n : Int) := by omega
        have hk0 : (0 : Int) ≤ (k : Int) := by omega
        go_wp2
        go_quiet (fail)
        go_wp2
        go_roundw
        case rel => exact ⟨k + 1, by omega, by go_num, below_drewN hbel _⟩
        case measure => simp [intOf]; omega
      · go_wp2
        go_ret
        exact trueB_mk hbel
end Go.Proofs.Qxb6602215a
