import Derived.Test.Qxb6602215aProg
import Derived.Test.Qxb6602215aToks
import Derived.WalkKit
import Derived.WalkSpells
import Derived.WalkLawsBesides
import Derived.BigQuiet
import Derived.Outline
namespace Go.Proofs.Qxb6602215a
open Go.RowKit Go.Deep
set_option linter.unusedVariables false

theorem Toks.at {w : World} {ao : Option Addr} {n : Nat} {ts : List Tk} (h : Toks w ao n ts) {k : Nat} (hk : k < n) :
    ∃ b o, ao = some ⟨b, o, none⟩ ∧ TkAt w b (o + k * 5) (ts.getD k Tk.zero) := by
  obtain ⟨hl, h0 | ⟨b, o, ha, hc⟩⟩ := h
  · omega
  · refine ⟨b, o, ha, hc k _ ?_⟩
    have hk' : k < ts.length := by omega
    simp [List.getD, hk']

theorem isWordL_lo {ts : List Tk} {i : Int} {s : List UInt8} (h : i < 0) : isWordL ts i s = false := by
  have : decide (0 ≤ i) = false := by simp; omega
  simp [isWordL, this]
theorem isWordL_hi {ts : List Tk} {i : Int} {s : List UInt8} (h : (ts.length : Int) ≤ i) : isWordL ts i s = false := by
  have : decide (i < ts.length) = false := by simp; omega
  simp [isWordL, this]
theorem isPunctL_lo {ts : List Tk} {i : Int} {s : List UInt8} (h : i < 0) : isPunctL ts i s = false := by
  have : decide (0 ≤ i) = false := by simp; omega
  simp [isPunctL, this]
theorem isPunctL_hi {ts : List Tk} {i : Int} {s : List UInt8} (h : (ts.length : Int) ≤ i) : isPunctL ts i s = false := by
  have : decide (i < ts.length) = false := by simp; omega
  simp [isPunctL, this]
theorem isWordL_in {ts : List Tk} {k : Nat} {s : List UInt8} (h : k < ts.length) : isWordL ts k s = ((ts.getD k Tk.zero).word && ((ts.getD k Tk.zero).text.toList == s)) := by
  have h1 : decide ((0 : Int) ≤ (k : Int)) = true := by simp
  have h2 : decide ((k : Int) < ts.length) = true := by simp; omega
  simp only [isWordL, h1, h2, Int.toNat_natCast, Bool.true_and]
theorem isPunctL_in {ts : List Tk} {k : Nat} {s : List UInt8} (h : k < ts.length) : isPunctL ts k s = (!(ts.getD k Tk.zero).word && ((ts.getD k Tk.zero).text.toList == s)) := by
  have h1 : decide ((0 : Int) ≤ (k : Int)) = true := by simp
  have h2 : decide ((k : Int) < ts.length) = true := by simp; omega
  simp only [isPunctL, h1, h2, Int.toNat_natCast, Bool.true_and]

theorem ret_bool {a b : Bool} (h : a = b) : Ending.returned (.bool a) = .returned (.bool b) := by rw [h]

set_option maxHeartbeats 400000 in
theorem isWord_any (ao : Option Addr) (n c : Nat) (i : Int) (s : ByteArray) (w : World) (ts : List Tk) (h : Toks w ao n ts) :
    Calls Try.prog 32 #[.slice ao n c, .int .i64 i, .string s] w fun e w' => e = .returned (.bool (isWordL ts i s.toList)) ∧ w' = w := by
  have hl := h.1
  by_cases hlo : i < 0
  · rw [isWordL_lo hlo]
    clear h hl
    go_enter Try.func32, Try.ntmps32
    go_wp2
    go_ret
    exact ⟨rfl, rfl⟩
  by_cases hhi : (n : Int) ≤ i
  · rw [isWordL_hi (by omega)]
    clear h hl
    go_enter Try.func32, Try.ntmps32
    go_wp2
    go_ret
    exact ⟨rfl, rfl⟩
  obtain ⟨k, rfl⟩ := Int.eq_ofNat_of_zero_le (show 0 ≤ i by omega)
  have hk : k < n := by omega
  obtain ⟨b, o, rfl, c0, c1, _, _, _⟩ := h.at hk
  rw [isWordL_in (by omega)]
  generalize ts.getD k Tk.zero = t at *
  clear h hl hlo hhi
  cases hw : t.word
  all_goals
    rw [hw] at c0
    clear hw
    go_enter Try.func32, Try.ntmps32
    go_wp2
    go_ret
    exact ⟨rfl, rfl⟩

set_option maxHeartbeats 400000 in
theorem isPunct_any (ao : Option Addr) (n c : Nat) (i : Int) (s : ByteArray) (w : World) (ts : List Tk) (h : Toks w ao n ts) :
    Calls Try.prog 33 #[.slice ao n c, .int .i64 i, .string s] w fun e w' => e = .returned (.bool (isPunctL ts i s.toList)) ∧ w' = w := by
  have hl := h.1
  by_cases hlo : i < 0
  · rw [isPunctL_lo hlo]
    clear h hl
    go_enter Try.func33, Try.ntmps33
    go_wp2
    go_ret
    exact ⟨rfl, rfl⟩
  by_cases hhi : (n : Int) ≤ i
  · rw [isPunctL_hi (by omega)]
    clear h hl
    go_enter Try.func33, Try.ntmps33
    go_wp2
    go_ret
    exact ⟨rfl, rfl⟩
  obtain ⟨k, rfl⟩ := Int.eq_ofNat_of_zero_le (show 0 ≤ i by omega)
  have hk : k < n := by omega
  obtain ⟨b, o, rfl, c0, c1, _, _, _⟩ := h.at hk
  rw [isPunctL_in (by omega)]
  generalize ts.getD k Tk.zero = t at *
  clear h hl hlo hhi
  cases hw : t.word
  all_goals
    rw [hw] at c0
    clear hw
    go_enter Try.func33, Try.ntmps33
    go_wp2
    go_ret
    exact ⟨rfl, rfl⟩

set_option maxHeartbeats 400000 in
theorem isPunctTok_any (ao : Option Addr) (n c : Nat) (i : Int) (s : ByteArray) (w : World) (ts : List Tk) (h : Toks w ao n ts) :
    Calls Try.prog 23 #[.slice ao n c, .int .i64 i, .string s] w fun e w' => e = .returned (.bool (isPunctL ts i s.toList)) ∧ w' = w := by
  have hl := h.1
  by_cases hlo : i < 0
  · rw [isPunctL_lo hlo]
    clear h hl
    go_enter Try.func23, Try.ntmps23
    go_wp2
    go_ret
    exact ⟨rfl, rfl⟩
  by_cases hhi : (n : Int) ≤ i
  · rw [isPunctL_hi (by omega)]
    clear h hl
    go_enter Try.func23, Try.ntmps23
    go_wp2
    go_ret
    exact ⟨rfl, rfl⟩
  obtain ⟨k, rfl⟩ := Int.eq_ofNat_of_zero_le (show 0 ≤ i by omega)
  have hk : k < n := by omega
  obtain ⟨b, o, rfl, c0, c1, _, _, _⟩ := h.at hk
  rw [isPunctL_in (by omega)]
  generalize ts.getD k Tk.zero = t at *
  clear h hl hlo hhi
  cases hw : t.word
  all_goals
    rw [hw] at c0
    clear hw
    go_enter Try.func23, Try.ntmps23
    go_wp2
    go_ret
    exact ⟨rfl, rfl⟩

end Go.Proofs.Qxb6602215a
