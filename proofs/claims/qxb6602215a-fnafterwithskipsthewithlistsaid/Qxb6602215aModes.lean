import Derived.Test.Qxb6602215aToks
namespace Go.Proofs.Qxb6602215a
open Go.RowKit Go.Deep

def kIso : List UInt8 := [105, 115, 111, 108, 97, 116, 105, 111, 110]
def kLevel : List UInt8 := [108, 101, 118, 101, 108]
def kSer : List UInt8 := [115, 101, 114, 105, 97, 108, 105, 122, 97, 98, 108, 101]
def kRep : List UInt8 := [114, 101, 112, 101, 97, 116, 97, 98, 108, 101]
def kRead : List UInt8 := [114, 101, 97, 100]
def kCom : List UInt8 := [99, 111, 109, 109, 105, 116, 116, 101, 100]
def kUnc : List UInt8 := [117, 110, 99, 111, 109, 109, 105, 116, 116, 101, 100]
def kOnly : List UInt8 := [111, 110, 108, 121]
def kWrite : List UInt8 := [119, 114, 105, 116, 101]
def kDef : List UInt8 := [100, 101, 102, 101, 114, 114, 97, 98, 108, 101]
def kNot : List UInt8 := [110, 111, 116]
def mRO : ByteArray := ⟨#[82, 69, 65, 68, 32, 79, 78, 76, 89]⟩
def mRW : ByteArray := ⟨#[82, 69, 65, 68, 32, 87, 82, 73, 84, 69]⟩
def mD : ByteArray := ⟨#[68, 69, 70, 69, 82, 82, 65, 66, 76, 69]⟩
def mND : ByteArray := ⟨#[78, 79, 84, 32, 68, 69, 70, 69, 82, 82, 65, 66, 76, 69]⟩

/-- The word of a token: nothing where it is no word. -/
def wordOf (t : Tk) : List UInt8 := if t.word then t.text.toList else []
def commaOf (t : Tk) : Bool := !t.word && (t.text.toList == [44])
def wordAt (ts : List Tk) (k : Nat) : List UInt8 := wordOf (ts.getD k Tk.zero)
def commaAt (ts : List Tk) (k : Nat) : Bool := commaOf (ts.getD k Tk.zero)

/-- The automaton: its state, the modes named, whether the last level is serializable. -/
structure MS where
  st : Int
  out : List ByteArray
  ser : Bool

def mhead (o : List ByteArray) (s : Bool) (w : List UInt8) : MS :=
  if w == kIso then ⟨3, o, s⟩ else if w == kRead then ⟨7, o, s⟩ else if w == kNot then ⟨8, o, s⟩ else if w == kDef then ⟨2, o ++ [mD], s⟩ else ⟨9, o, s⟩

def mstep (m : MS) (w : List UInt8) (comma : Bool) : MS :=
  if m.st = 0 then mhead m.out m.ser w
  else if m.st = 1 then mhead m.out m.ser w
  else if m.st = 2 then (if comma then ⟨1, m.out, m.ser⟩ else mhead m.out m.ser w)
  else if m.st = 3 then (if w == kLevel then ⟨4, m.out, m.ser⟩ else ⟨9, m.out, m.ser⟩)
  else if m.st = 4 then (if w == kSer then ⟨2, m.out, true⟩ else if w == kRep then ⟨5, m.out, m.ser⟩ else if w == kRead then ⟨6, m.out, m.ser⟩ else ⟨9, m.out, m.ser⟩)
  else if m.st = 5 then (if w == kRead then ⟨2, m.out, false⟩ else ⟨9, m.out, m.ser⟩)
  else if m.st = 6 then (if w == kCom then ⟨2, m.out, false⟩ else if w == kUnc then ⟨2, m.out, false⟩ else ⟨9, m.out, m.ser⟩)
  else if m.st = 7 then (if w == kOnly then ⟨2, m.out ++ [mRO], m.ser⟩ else if w == kWrite then ⟨2, m.out ++ [mRW], m.ser⟩ else ⟨9, m.out, m.ser⟩)
  else if m.st = 8 then (if w == kDef then ⟨2, m.out ++ [mND], m.ser⟩ else ⟨9, m.out, m.ser⟩)
  else ⟨9, m.out, m.ser⟩

def mrun (ts : List Tk) : Nat → MS
  | 0 => ⟨0, [], false⟩
  | k + 1 => mstep (mrun ts k) (wordAt ts k) (commaAt ts k)

/-- What the automaton answers at its end. -/
def mfin (m : MS) : List ByteArray × Bool × Bool := if m.st = 0 ∨ m.st = 2 then (m.out, m.ser, true) else ([], false, false)

theorem mrun_succ (ts : List Tk) (k : Nat) : mrun ts (k + 1) = mstep (mrun ts k) (wordAt ts k) (commaAt ts k) := rfl

/-- The dead state stays. -/
theorem mstep_dead {m : MS} (h : m.st = 9) (w : List UInt8) (c : Bool) : (mstep m w c).st = 9 := by
  simp [mstep, h]
theorem mrun_dead {ts : List Tk} {k : Nat} (h : (mrun ts k).st = 9) (j : Nat) : (mrun ts (k + j)).st = 9 := by
  induction j with
  | zero => exact h
  | succ j ih => rw [← Nat.add_assoc, mrun_succ]; exact mstep_dead ih _ _
theorem mfin_dead {ts : List Tk} {k n : Nat} (h : (mrun ts k).st = 9) (hk : k ≤ n) : mfin (mrun ts n) = ([], false, false) := by
  have := mrun_dead h (n - k)
  rw [show k + (n - k) = n by omega] at this
  simp [mfin, this]

theorem ite_P {P : MS → Prop} {c : Prop} {a b : MS} (d : Decidable c) (ha : P a) (hb : P b) : P (@ite MS c d a b) := by
  by_cases h : c
  · rw [if_pos h]; exact ha
  · rw [if_neg h]; exact hb
def StOk (m : MS) : Prop := 0 ≤ m.st ∧ m.st ≤ 9
theorem mstep_st (m : MS) (w : List UInt8) (c : Bool) : StOk (mstep m w c) := by
  unfold mstep mhead
  repeat' (refine ite_P _ ?_ ?_)
  all_goals exact ⟨by simp, by simp⟩
theorem mrun_st (ts : List Tk) (k : Nat) : 0 ≤ (mrun ts k).st ∧ (mrun ts k).st ≤ 9 := by
  cases k with
  | zero => simp [mrun]
  | succ k => rw [mrun_succ]; exact mstep_st _ _ _
def OutOk (n : Nat) (m : MS) : Prop := m.out.length ≤ n + 1
theorem mstep_out (m : MS) (w : List UInt8) (c : Bool) : OutOk m.out.length (mstep m w c) := by
  unfold mstep mhead
  repeat' (refine ite_P _ ?_ ?_)
  all_goals (unfold OutOk; simp)
theorem mrun_out (ts : List Tk) (k : Nat) : (mrun ts k).out.length ≤ k := by
  induction k with
  | zero => simp [mrun]
  | succ k ih => rw [mrun_succ]; have h := mstep_out (mrun ts k) (wordAt ts k) (commaAt ts k); unfold OutOk at h; omega

/-- isWord by the word at the place. -/
theorem isWordL_wordAt (ts : List Tk) (k : Nat) (a : UInt8) (s : List UInt8) : isWordL ts k (a :: s) = (wordAt ts k == (a :: s)) := by
  by_cases hk : k < ts.length
  · have h1 : decide ((0 : Int) ≤ (k : Int)) = true := by simp
    have h2 : decide ((k : Int) < ts.length) = true := by simp; omega
    simp only [isWordL, h1, h2, Int.toNat_natCast, Bool.true_and, wordAt, wordOf]
    cases (ts.getD k Tk.zero).word <;> simp
  · have h2 : decide ((k : Int) < ts.length) = false := by simp; omega
    have e : ts.getD k Tk.zero = Tk.zero := by simp [List.getD, show ts.length ≤ k by omega]
    have e2 : wordAt ts k = [] := by rw [wordAt, e]; rfl
    rw [e2]
    simp only [isWordL, h2, Bool.and_false, Bool.false_and]
    rfl

theorem wordAt_out {ts : List Tk} {k : Nat} (h : ts.length ≤ k) : wordAt ts k = [] := by
  have e : ts.getD k Tk.zero = Tk.zero := by simp [List.getD, h]
  rw [wordAt, e]; rfl
theorem commaAt_out {ts : List Tk} {k : Nat} (h : ts.length ≤ k) : commaAt ts k = false := by
  have e : ts.getD k Tk.zero = Tk.zero := by simp [List.getD, h]
  rw [commaAt, e]
  simp [commaOf, Tk.zero]

end Go.Proofs.Qxb6602215a
