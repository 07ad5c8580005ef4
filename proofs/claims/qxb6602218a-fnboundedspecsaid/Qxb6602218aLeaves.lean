import Derived.Test.Qxb6602218aRowsOf
namespace Go.Proofs.Qxb6602218a
open Go.RowKit Go.Deep
set_option linter.unusedVariables false

/-- What a guard answers. -/
def Guarded (n m : Nat) (w : World) (e : Ending) (w' : World) : Prop := ∃ b, e = .returned (.bool b) ∧ (b = true → n ≤ m) ∧ w' = w
theorem guarded_mk {n m : Nat} {w : World} {b : Bool} (h : b = true → n ≤ m) : Guarded n m w (.returned (.bool b)) w := ⟨b, rfl, h, rfl⟩
theorem guarded_no {n m : Nat} (w : World) : Guarded n m w (.returned (.bool false)) w := ⟨false, rfl, by simp, rfl⟩

set_option maxHeartbeats 1000000 in
theorem zz5_any (ao : Option Addr) (n c : Nat) (w : World) (ss : List ByteArray) (h : StrS w ao n ss) (hm : n ≤ maxLen) :
    Calls Try.prog 5 #[.slice ao n c] w (Guarded n 1048576 w) := by
  unfold maxLen at hm
  by_cases hbig : n ≤ 1048576
  · clear hm
    have H : Hid (StrS w ao n ss) := h
    clear h
    go_enter Try.func5, Try.ntmps5
    go_wp2
    go_loop [3, 4] (fun z i => (∃ q : Int, z = .int .i64 q) ∧ ∃ k : Nat, k ≤ n ∧ i = .int .i64 k) (fun _ i => n - (intOf i).toNat)
    case atStart => exact ⟨⟨_, rfl⟩, 0, Nat.zero_le _, rfl⟩
    case round =>
      obtain ⟨⟨q, rfl⟩, k, hk, rfl⟩ := hrel
      by_cases hlt : k < n
      · obtain ⟨b, o, s, hao, hs, c0⟩ := H.out.at hlt
        subst hao
        go_wp2
        all_goals first
          | (go_ret; exact guarded_no _)
          | (go_round
             case rel => exact ⟨⟨_, rfl⟩, k + 1, by omega, by go_num⟩
             case measure => simp [intOf]; omega)
      · go_wp2
        go_ret
        exact guarded_mk (fun _ => hbig)
  · clear h
    go_enter Try.func5, Try.ntmps5
    go_wp2
    go_ret
    exact guarded_no _

/-- bytesOf answers some number and turns nothing. -/
def SomeInt (w : World) (e : Ending) (w' : World) : Prop := ∃ z : Int, e = .returned (.int .i64 z) ∧ w' = w
set_option maxHeartbeats 1000000 in
theorem bytesOf_any (ao : Option Addr) (n c : Nat) (w : World) (ss : List ByteArray) (h : StrS w ao n ss) (hm : n ≤ 1048576) :
    Calls Try.prog 6 #[.slice ao n c] w (SomeInt w) := by
  have H : Hid (StrS w ao n ss) := h
  clear h
  go_enter Try.func6, Try.ntmps6
  go_wp2
  go_loop [3, 4] (fun z i => (∃ q : Int, z = .int .i64 q) ∧ ∃ k : Nat, k ≤ n ∧ i = .int .i64 k) (fun _ i => n - (intOf i).toNat)
  case atStart => exact ⟨⟨_, rfl⟩, 0, Nat.zero_le _, rfl⟩
  case round =>
    obtain ⟨⟨q, rfl⟩, k, hk, rfl⟩ := hrel
    by_cases hlt : k < n
    · obtain ⟨b, o, s, hao, hs, c0⟩ := H.out.at hlt
      subst hao
      go_wp2
      all_goals first
        | (go_ret; exact ⟨_, rfl, rfl⟩)
        | (go_round
           case rel => exact ⟨⟨_, rfl⟩, k + 1, by omega, by go_num⟩
           case measure => simp [intOf]; omega)
    · go_wp2
      go_ret
      exact ⟨_, rfl, rfl⟩

/-- What cloneStrings leaves. -/
def Cloned (a : Option Addr) (n : Nat) (ss : List ByteArray) (w : World) (e : Ending) (w' : World) : Prop :=
  (a = none ∧ n = 0 ∧ e = .returned (.slice none 0 0) ∧ w' = w) ∨ (∃ x, a = some x) ∧ ∃ g, e = .returned (.slice (some ⟨g, 0, none⟩) n n) ∧ w.heap.size ≤ g ∧ Rw w' g n n ss ∧ Below w.heap.size w w'

/-- A made row, k strings of it filled. -/
structure Fil (w wr : World) (g n k : Nat) (ss : List ByteArray) : Prop where
  bel : Below w.heap.size w wr
  glt : w.heap.size ≤ g
  own : ∃ xs : List ByteArray, Rw wr g n n xs ∧ ∀ i, i < k → xs[i]? = ss[i]?
theorem fil_start {w w1 : World} {n : Nat} {ss : List ByteArray} (hown : w1.ownsRow w.heap.size 9 1 (.slice (some ⟨w.heap.size, 0, none⟩) n n) n (madeCells #[Value.string ByteArray.empty] n).toList) (hg : w.grownBy w1 none) : Fil w w1 w.heap.size n 0 ss := by
  refine ⟨(Below.refl _ _).grown hg (Nat.le_refl _) (by simp), Nat.le_refl _, List.replicate n ByteArray.empty, rw_of_owns (base := w.heap.size) ?_, fun i hi => by omega⟩
  rw [toList_madeCells_one] at hown
  simpa using hown
theorem fil_step {w wr : World} {g n k : Nat} {ss : List ByteArray} {s : ByteArray} (F : Fil w wr g n k ss) (hk : k < n) (hs : Hid (ss[k]? = some s)) : Fil w (wr.setCell ⟨g, k, none⟩ (.string s)) g n (k + 1) ss := by
  obtain ⟨xs, R, hx⟩ := F.own
  have hl := R.len
  refine ⟨F.bel.setCell F.glt _, F.glt, xs.set k s, R.store k s, fun i hi => ?_⟩
  by_cases hik : i = k
  · subst hik
    rw [hs.out, List.getElem?_set_self (by omega)]
  · rw [List.getElem?_set_ne (by omega)]
    exact hx i (by omega)
theorem fil_end {w wr : World} {g n k : Nat} {ss : List ByteArray} (F : Fil w wr g n k ss) (hl : ss.length = n) (hk : n ≤ k) : Rw wr g n n ss := by
  obtain ⟨xs, R, hx⟩ := F.own
  have hxl := R.len
  have e : xs = ss := List.ext_getElem? fun i => by
    by_cases hi : i < n
    · exact hx i (by omega)
    · rw [List.getElem?_eq_none (by omega), List.getElem?_eq_none (by omega)]
  rw [← e]; exact R
theorem Fil.slot {w wr : World} {g n k : Nat} {ss : List ByteArray} (F : Fil w wr g n k ss) (hk : k < n) : (∃ u, wr.cell? ⟨g, k, none⟩ = some u) ∧ wr.frozen? ⟨g, k, none⟩ = false := by
  obtain ⟨xs, R, _⟩ := F.own
  have hl := R.len
  exact ⟨⟨_, R.cell (List.getElem?_eq_getElem (by omega))⟩, R.frozen k⟩

set_option maxHeartbeats 1000000 in
theorem clone_some (a : Addr) (n c : Nat) (w : World) (ss : List ByteArray) (h : StrS w (some a) n ss) (hm : n ≤ 1048576) :
    Calls Try.prog 7 #[.slice (some a) n c] w (Cloned (some a) n ss w) := by
  have H : Hid (StrS w (some a) n ss) := h
  clear h
  obtain ⟨i0, hi, hz0, hz1, hz2⟩ := info_parts Try.info9
  have hbytes : i0.bytes * n ≤ 281474976710656 := by rw [hz2]; omega
  have hq := fun wx => Lib.run_eql_slice_nil (P := Try.prog) wx 22 9 (some a) n c 0 0 Try.underlying22
  go_enter Try.func7, Try.ntmps7
  go_wp2_with (at_make; refine wpList_make_full _ rfl _ _ 22 rfl w.heap.size 9 i0 _ 1 Try.underlying22 hi hz0 hz1 _ _ _ _ n rfl rfl rfl rfl hbytes (by unfold maxLen; omega) (Nat.le_refl _) ?_)
  intro w1 hown hgrow
  have F0 : Fil w w1 w.heap.size n 0 ss := fil_start hown hgrow
  clear hown hgrow hq hi hz0 hz1 hz2 hbytes
  go_wp2
  go_loopw [4] (fun i wr => ∃ k : Nat, k ≤ n ∧ i = .int .i64 k ∧ Fil w wr w.heap.size n k ss) (fun i _ => n - (intOf i).toNat)
  case atStart => exact ⟨0, Nat.zero_le _, rfl, F0⟩
  case round =>
    obtain ⟨k, hk, rfl, F⟩ := hrel
    by_cases hlt : k < n
    · obtain ⟨b, o, s, hao, hs, c0⟩ := (H.out.below F.bel).at hlt
      simp only [Option.some.injEq] at hao
      subst hao
      obtain ⟨⟨u, d0⟩, f0⟩ := F.slot hlt
      have FH : Hid (Fil w wr w.heap.size n k ss) := F
      clear F
      go_wp2
      go_roundw
      case rel => exact ⟨k + 1, by omega, by go_num, fil_step FH.out hlt hs⟩
      case measure => simp [intOf]; omega
    · go_wp2
      go_ret
      exact Or.inr ⟨⟨a, rfl⟩, w.heap.size, rfl, F.glt, fil_end F H.out.1 (by omega), F.bel⟩

set_option maxHeartbeats 1000000 in
theorem clone_nil (n c : Nat) (w : World) (ss : List ByteArray) (h : StrS w none n ss) :
    Calls Try.prog 7 #[.slice none n c] w (Cloned none n ss w) := by
  obtain ⟨hl, h0 | ⟨b, o, ha, hc⟩⟩ := h
  · subst h0
    have hq := fun wx => Lib.run_eql_slice_nil (P := Try.prog) wx 22 9 none 0 c 0 0 Try.underlying22
    go_enter Try.func7, Try.ntmps7
    go_wp2
    go_ret
    exact Or.inl ⟨rfl, rfl, rfl, rfl⟩
  · cases ha
theorem clone_any (ao : Option Addr) (n c : Nat) (w : World) (ss : List ByteArray) (h : StrS w ao n ss) (hm : n ≤ 1048576) :
    Calls Try.prog 7 #[.slice ao n c] w (Cloned ao n ss w) := by
  cases ao with
  | none => exact clone_nil n c w ss h
  | some a => exact clone_some a n c w ss h hm
end Go.Proofs.Qxb6602218a
