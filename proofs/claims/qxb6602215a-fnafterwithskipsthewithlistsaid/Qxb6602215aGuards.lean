import Derived.Test.Qxb6602215aLeaves
namespace Go.Proofs.Qxb6602215a
open Go.RowKit Go.Deep
set_option linter.unusedVariables false

/-- What a guard answers: a bool; where it is yes the length is bounded; the world is as it was. -/
def Guarded (n m : Nat) (w : World) (e : Ending) (w' : World) : Prop := ∃ b, e = .returned (.bool b) ∧ (b = true → n ≤ m) ∧ w' = w
theorem guarded_mk {n m : Nat} {w : World} {b : Bool} (h : b = true → n ≤ m) : Guarded n m w (.returned (.bool b)) w := ⟨b, rfl, h, rfl⟩
theorem guarded_no {n m : Nat} (w : World) : Guarded n m w (.returned (.bool false)) w := ⟨false, rfl, by simp, rfl⟩

set_option maxHeartbeats 1000000 in
theorem zz10_any (ao : Option Addr) (n c : Nat) (w : World) (ts : List Tk) (h : Toks w ao n ts) (hm : n ≤ maxLen) :
    Calls Try.prog 10 #[.slice ao n c] w (Guarded n 1048576 w) := by
  unfold maxLen at hm
  by_cases hbig : n ≤ 1048576
  · clear hm
    have H : Hid (Toks w ao n ts) := h
    clear h
    go_enter Try.func10, Try.ntmps10
    go_wp2
    go_loop [3, 4] (fun z i => (∃ q : Int, z = .int .i64 q) ∧ ∃ k : Nat, k ≤ n ∧ i = .int .i64 k) (fun _ i => n - (intOf i).toNat)
    case atStart => exact ⟨⟨_, rfl⟩, 0, Nat.zero_le _, rfl⟩
    case round =>
      obtain ⟨⟨q, rfl⟩, k, hk, rfl⟩ := hrel
      by_cases hlt : k < n
      · obtain ⟨b, o, hao, c0, c1, c2, _, _⟩ := H.out.at hlt
        generalize ts.getD k Tk.zero = t at *
        subst hao
        go_wp2
        all_goals first
          | (go_ret; exact guarded_no _)
          | (go_round
             case rel => exact ⟨⟨_, rfl⟩, k + 1, by omega, by go_num⟩
             case measure => simp [intOf]; omega)
      · go_wp2
        go_ret
        exact guarded_mk (fun _ => hbig)
  · clear h
    go_enter Try.func10, Try.ntmps10
    go_wp2
    go_ret
    exact guarded_no _

set_option maxHeartbeats 1000000 in
theorem zz21_any (ao : Option Addr) (n c : Nat) (w : World) (ts : List Tk) (h : Toks w ao n ts) (hm : n ≤ maxLen) :
    Calls Try.prog 21 #[.slice ao n c] w (Guarded n 1048576 w) := by
  unfold maxLen at hm
  by_cases hbig : n ≤ 1048576
  · clear hm
    have H : Hid (Toks w ao n ts) := h
    clear h
    go_enter Try.func21, Try.ntmps21
    go_wp2
    go_loop [3, 4] (fun z i => (∃ q : Int, z = .int .i64 q) ∧ ∃ k : Nat, k ≤ n ∧ i = .int .i64 k) (fun _ i => n - (intOf i).toNat)
    case atStart => exact ⟨⟨_, rfl⟩, 0, Nat.zero_le _, rfl⟩
    case round =>
      obtain ⟨⟨q, rfl⟩, k, hk, rfl⟩ := hrel
      by_cases hlt : k < n
      · obtain ⟨b, o, hao, c0, c1, c2, _, _⟩ := H.out.at hlt
        generalize ts.getD k Tk.zero = t at *
        subst hao
        go_wp2
        all_goals first
          | (go_ret; exact guarded_no _)
          | (go_round
             case rel => exact ⟨⟨_, rfl⟩, k + 1, by omega, by go_num⟩
             case measure => simp [intOf]; omega)
      · go_wp2
        go_ret
        exact guarded_mk (fun _ => hbig)
  · clear h
    go_enter Try.func21, Try.ntmps21
    go_wp2
    go_ret
    exact guarded_no _

set_option maxHeartbeats 1000000 in
theorem zz27_any (ao : Option Addr) (n c : Nat) (i past : Int) (w : World) (ts : List Tk) (h : Toks w ao n ts) (hm : n ≤ maxLen) :
    Calls Try.prog 27 #[.slice ao n c, .int .i64 i, .int .i64 past] w (Guarded n 1048576 w) := by
  unfold maxLen at hm
  by_cases hbig : n ≤ 1048576
  · clear hm
    have H : Hid (Toks w ao n ts) := h
    clear h
    go_enter Try.func27, Try.ntmps27
    go_wp2
    go_loop [7, 8] (fun z i => (∃ q : Int, z = .int .i64 q) ∧ ∃ k : Nat, k ≤ n ∧ i = .int .i64 k) (fun _ i => n - (intOf i).toNat)
    case atStart => exact ⟨⟨_, rfl⟩, 0, Nat.zero_le _, rfl⟩
    case round =>
      obtain ⟨⟨q, rfl⟩, k, hk, rfl⟩ := hrel
      by_cases hlt : k < n
      · obtain ⟨b, o, hao, c0, c1, c2, _, _⟩ := H.out.at hlt
        generalize ts.getD k Tk.zero = t at *
        subst hao
        go_wp2
        all_goals first
          | (go_ret; exact guarded_no _)
          | (go_round
             case rel => exact ⟨⟨_, rfl⟩, k + 1, by omega, by go_num⟩
             case measure => simp [intOf]; omega)
      · go_wp2
        go_ret
        exact guarded_mk (fun _ => hbig)
  · clear h
    go_enter Try.func27, Try.ntmps27
    go_wp2
    go_ret
    exact guarded_no _

def GuardedB (n m : Nat) (w : World) (e : Ending) (w' : World) : Prop := ∃ b, e = .returned (.bool b) ∧ (b = true → n ≤ m) ∧ Below w.heap.size w w'
theorem guardedB_mk {n m : Nat} {w w' : World} {b : Bool} (h : b = true → n ≤ m) (hb : Below w.heap.size w w') : GuardedB n m w (.returned (.bool b)) w' := ⟨b, rfl, h, hb⟩

set_option maxHeartbeats 1000000 in
theorem tokFits_any (ao : Option Addr) (n c : Nat) (w : World) (ts : List Tk) (h : Toks w ao n ts) (hm : n ≤ maxLen) :
    Calls Try.prog 11 #[.slice ao n c] w (GuardedB n 16384 w) := by
  unfold maxLen at hm
  by_cases hbig : n ≤ 16384
  · clear hm
    have H : Hid (Toks w ao n ts) := h
    clear h
    go_enter Try.func11, Try.ntmps11
    go_wp2
    go_loopw [3, 4] (fun z i wr => (∃ q : Int, z = .int .i64 q) ∧ (∃ k : Nat, k ≤ n ∧ i = .int .i64 k) ∧ Below w.heap.size w wr) (fun _ i _ => n - (intOf i).toNat)
    case atStart => exact ⟨⟨_, rfl⟩, ⟨0, Nat.zero_le _, rfl⟩, Below.refl _ _⟩
    case round =>
      obtain ⟨⟨q, rfl⟩, ⟨k, hk, rfl⟩, hbel⟩ := hrel
      by_cases hlt : k < n
      · obtain ⟨b, o, hao, c0, c1, c2, _, _⟩ := (H.out.below hbel).at hlt
        generalize ts.getD k Tk.zero = t at *
        subst hao
        have hlt' : (k : Int) < (n : Int) := by omega
        have hk0 : (0 : Int) ≤ (k : Int) := by omega
        go_wp2
        go_quiet (fail)
        go_wp2
        · go_ret
          exact guardedB_mk (by simp) (below_drewN hbel _)
        · go_roundw
          case rel => exact ⟨⟨_, rfl⟩, ⟨k + 1, by omega, by go_num⟩, below_drewN hbel _⟩
          case measure => simp [intOf]; omega
      · go_wp2
        go_ret
        exact guardedB_mk (fun _ => hbig) hbel
  · clear h
    go_enter Try.func11, Try.ntmps11
    go_wp2
    go_ret
    exact guardedB_mk (by simp) (Below.refl _ _)
end Go.Proofs.Qxb6602215a
