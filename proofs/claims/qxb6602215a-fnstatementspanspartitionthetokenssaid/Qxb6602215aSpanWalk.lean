import Derived.Test.Qxb6602215aLeaves
import Derived.Test.Qxb6602215aSpans
import Derived.Test.Qxb6602215aCopies
import Derived.Deep.AppendLies
namespace Go.Proofs.Qxb6602215a
open Go.RowKit Go.Deep
set_option linter.unusedVariables false
theorem Try.info54 : (Try.prog.info? 54).map (fun i => (i.zero, i.size, i.bytes)) = some (some (.agg #[.int .i64 0, .int .i64 0]), 2, 16) := by kernel_rfl

/-- What the loop carries of the world: the spans are owned, nothing old has turned. -/
structure SpW (w wr : World) (v : Value) (sp : List (Nat × Nat)) : Prop where
  own : wr.ownsRow w.heap.size 54 2 v sp.length (spRow sp)
  bel : Below w.heap.size w wr

def Spanned (w : World) (ts : List Tk) (e : Ending) (w' : World) : Prop := ∃ v sp, e = .returned v ∧ SpFin ts sp ∧ SpW w w' v sp

theorem SpW.alloc {w wr : World} {v : Value} {sp : List (Nat × Nat)} (S : SpW w wr v sp) (o : Obj) : SpW w (wr.alloc o) v sp :=
  ⟨S.own.alloc o, S.bel.alloc S.bel.size o⟩
theorem SpW.drewN {w wr : World} {v : Value} {sp : List (Nat × Nat)} (S : SpW w wr v sp) (n : Nat) : SpW w (wr.drewN n) v sp :=
  ⟨S.own, below_drewN S.bel n⟩
theorem SpW.push {w W w1 : World} {v v' : Value} {sp : List (Nat × Nat)} {f : Int} {k : Nat} (S : SpW w W v sp) (hf : 0 ≤ f)
    (ho : w1.ownsRow w.heap.size 54 2 v' (sp.length + 1) (spRow sp ++ [.int .i64 f, .int .i64 k])) (hg : W.grownBy w1 v.ownBlock) : SpW w w1 v' (sp ++ [(f.toNat, k)]) := by
  refine ⟨?_, S.bel.grown hg S.bel.size (fun g h => (S.own.lt g h).1)⟩
  rw [spRow_snoc, spCells, List.length_append]
  simp only [Int.toNat_of_nonneg hf]
  exact ho
theorem two_new {W : World} {a b : Value} {t : TypeId} {g : Nat} (hg : W.heap.size = g) : ∀ (j : Nat) (u : Value), [a, b][j]? = some u → (W.alloc (.cells #[a, b] t)).cell? ((⟨g, 0, none⟩ : Addr).add j) = some u := by
  subst hg
  exact World.news_of_block (heap_alloc_new W _)
theorem two_one {a b : Int} : ∀ u ∈ [Value.int .i64 a, Value.int .i64 b], u.oneCell' = true := by
  intro u hu
  simp at hu
  rcases hu with rfl | rfl <;> rfl

theorem semi_of {ts : List Tk} {k : Nat} {t : Tk} (ht : Hid (ts[k]? = some t)) (hw : t.word = false) (hs : t.text.toList = [59]) : semi ts k = true := by
  have hk := (List.getElem?_eq_some_iff.1 ht.out).1
  have e : ts.getD k Tk.zero = t := by simp [List.getD, ht.out]
  have h1 : decide ((0 : Int) ≤ (k : Int)) = true := by simp
  have h2 : decide ((k : Int) < ts.length) = true := by simp; omega
  simp only [semi, isPunctL, h1, h2, Int.toNat_natCast, Bool.true_and, e, hw, hs]
  rfl

set_option maxRecDepth 100000 in
set_option maxHeartbeats 4000000 in
theorem spans_any (ao : Option Addr) (n c : Nat) (w : World) (ts : List Tk) (h : Toks w ao n ts) (hm : n ≤ 1048576) :
    Calls Try.prog 30 #[.slice ao n c] w (Spanned w ts) := by
  have H : Hid (Toks w ao n ts) := h
  clear h
  obtain ⟨i0, hi, hz0, hz1, hz2⟩ := info_parts Try.info54
  go_enter Try.func30, Try.ntmps30
  go_wp2
  go_loopw [3, 4, 5, 6, 11] (fun v f p b i wr => ∃ (k : Nat) (sp : List (Nat × Nat)) (fi : Int), k ≤ n ∧ i = .int .i64 k ∧ f = .int .i64 fi ∧ (∃ q, p = .int .i64 q) ∧ (∃ q, b = .int .i64 q) ∧ SpInv ts k sp fi ∧ SpW w wr v sp) (fun _ _ _ _ i _ => n - (intOf i).toNat)
  case atStart => exact ⟨0, [], -1, Nat.zero_le _, rfl, rfl, ⟨_, rfl⟩, ⟨_, rfl⟩, spInv_start ts, World.ownsRow_nil _ _ _ _, Below.refl _ _⟩
  case round =>
    obtain ⟨k, sp, fi, hk, rfl, rfl, ⟨qp, rfl⟩, ⟨qb, rfl⟩, I, S⟩ := hrel
    have hsl := I.len
    by_cases hlt : k < n
    · obtain ⟨b, o, t, hao, ht, T0⟩ : ∃ b o t, ao = some ⟨b, o, none⟩ ∧ Hid (ts[k]? = some t) ∧ TkAt w b (o + k * 5) t := by
        obtain ⟨hl, h0 | ⟨b, o, ha, hc⟩⟩ := H.out
        · omega
        · have hk' : k < ts.length := by omega
          exact ⟨b, o, ts[k], ha, List.getElem?_eq_getElem hk', hc k _ (List.getElem?_eq_getElem hk')⟩
      subst hao
      obtain ⟨c0, c1, c2, c3, c4⟩ := T0.below T0.lt S.bel
      clear T0
      cases hw : t.word
      · rw [hw] at c0
        have HW : Hid (t.word = false) := hw
        clear hw
        go_wp2_with (first
          | (at_builtin; refine wpList_append_own _ rfl (.tmp 34) (.tmp 38) 51 rfl w.heap.size 54 i0 _ 2 16 Try.underlying51 hi hz0 hz1 hz2 rfl (by decide) _ _ _ rfl ((S.alloc _).alloc _).own ⟨wr.heap.size + 1, 0, none⟩ 1 1 [.int .i64 fi, .int .i64 k] rfl rfl (two_new (by simp)) two_one (by unfold maxLen; omega) (by omega) ((S.alloc _).alloc _).bel.size ?_; intro v' w1 hown' hgrow _; have P := ((S.alloc _).alloc _).push (by assumption) hown' hgrow; clear hown' hgrow))
        all_goals
          go_roundw
          case rel => first
            | exact ⟨k + 1, _, -1, by omega, by go_num, rfl, ⟨_, rfl⟩, ⟨_, rfl⟩, spInv_push I ‹0 ≤ fi› (semi_of ht HW.out ‹t.text.toList = [59]›), P⟩
            | exact ⟨k + 1, _, -1, by omega, by go_num, rfl, ⟨_, rfl⟩, ⟨_, rfl⟩, spInv_skip I ‹fi < 0› (semi_of ht HW.out ‹t.text.toList = [59]›), S.alloc _⟩
            | exact ⟨k + 1, _, _, by omega, by go_num, rfl, ⟨_, rfl⟩, ⟨_, rfl⟩, spInv_open I ‹fi < 0›, S.alloc _⟩
            | exact ⟨k + 1, _, _, by omega, by go_num, rfl, ⟨_, rfl⟩, ⟨_, rfl⟩, spInv_stay I ‹0 ≤ fi›, S.alloc _⟩
          case measure => simp [intOf]; omega
      · rw [hw] at c0
        clear hw
        go_wp2_with (first
          | (go_at_call 32; refine (isWord_any _ _ _ _ _ _ ts (H.out.below (S.alloc _).bel)).mono ?_; rintro e w' ⟨rfl, rfl⟩))
        all_goals
          go_roundw
          case rel => first
            | exact ⟨k + 1, _, _, by omega, by go_num, rfl, ⟨_, rfl⟩, ⟨_, rfl⟩, spInv_open I ‹fi < 0›, S.alloc _⟩
            | exact ⟨k + 1, _, _, by omega, by go_num, rfl, ⟨_, rfl⟩, ⟨_, rfl⟩, spInv_stay I ‹0 ≤ fi›, S.alloc _⟩
          case measure => simp [intOf]; omega
    · have e : k = ts.length := by have := H.out.1; omega
      subst e
      by_cases hf : 0 ≤ fi
      · go_wp2_with (first
          | (at_builtin; refine wpList_append_own _ rfl (.tmp 117) (.tmp 122) 51 rfl w.heap.size 54 i0 _ 2 16 Try.underlying51 hi hz0 hz1 hz2 rfl (by decide) _ _ _ rfl (S.alloc _).own ⟨wr.heap.size, 0, none⟩ 1 1 [.int .i64 fi, .int .i64 n] rfl rfl (two_new rfl) two_one (by unfold maxLen; omega) (by omega) (S.alloc _).bel.size ?_; intro v' w1 hown' hgrow _; have P := (S.alloc _).push hf hown' hgrow; clear hown' hgrow))
        go_ret
        exact ⟨_, _, rfl, spFin_push I hf, by rw [H.out.1]; exact P⟩
      · go_wp2
        go_ret
        exact ⟨_, _, rfl, spFin_none I (by omega), S⟩
end Go.Proofs.Qxb6602215a
