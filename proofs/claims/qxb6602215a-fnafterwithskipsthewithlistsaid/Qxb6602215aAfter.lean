import Derived.Test.Qxb6602215aToks
namespace Go.Proofs.Qxb6602215a
open Go.RowKit Go.Deep
set_option linter.unusedVariables false

/-- closing, with fuel: from place j at depth d. -/
def closeF (ts : List Tk) : Nat → Nat → Int → Option Nat
  | 0, _, _ => none
  | f + 1, j, d =>
    if isPunctL ts j [40] then closeF ts f (j + 1) (d + 1)
    else if isPunctL ts j [41] then (if d - 1 = 0 then some j else closeF ts f (j + 1) (d - 1))
    else closeF ts f (j + 1) d
/-- The place of the next opening parenthesis from i on, or past. -/
def scanF (ts : List Tk) (p : Nat) : Nat → Nat → Nat
  | 0, i => i
  | f + 1, i => if i < p then (if isPunctL ts i [40] then i else scanF ts p f (i + 1)) else i
def asBefore (ts : List Tk) (j : Nat) : Bool := isWordL ts ((j : Int) - 1) [97, 115] || isWordL ts ((j : Int) - 1) [109, 97, 116, 101, 114, 105, 97, 108, 105, 122, 101, 100]
/-- afterWith's loop, with fuel. -/
def awF (ts : List Tk) (p : Nat) : Nat → Nat → Nat
  | 0, _ => p
  | f + 1, i =>
    if i < p then
      match closeF ts (ts.length - scanF ts p (p - i) i) (scanF ts p (p - i) i) 0 with
      | none => p
      | some e => if asBefore ts (scanF ts p (p - i) i) then (if isPunctL ts ((e : Int) + 1) [44] then awF ts p f (e + 2) else e + 1) else awF ts p f (e + 1)
    else p

theorem closeF_ge (ts : List Tk) : ∀ (f j : Nat) (d : Int) (e : Nat), closeF ts f j d = some e → j ≤ e ∧ e < j + f ∧ isPunctL ts e [41] = true
  | 0, j, d, e, h => by simp [closeF] at h
  | f + 1, j, d, e, h => by
    unfold closeF at h
    split at h
    · have := closeF_ge ts f _ _ _ h; exact ⟨by omega, by omega, this.2.2⟩
    · split at h
      · split at h
        · simp at h; subst h; exact ⟨Nat.le_refl _, by omega, by assumption⟩
        · have := closeF_ge ts f _ _ _ h; exact ⟨by omega, by omega, this.2.2⟩
      · have := closeF_ge ts f _ _ _ h; exact ⟨by omega, by omega, this.2.2⟩

theorem scanF_ge (ts : List Tk) (p : Nat) : ∀ (f i : Nat), i ≤ p → i ≤ scanF ts p f i ∧ scanF ts p f i ≤ p
  | 0, i, h => by simp [scanF, h]
  | f + 1, i, h => by
    unfold scanF
    split
    · split
      · exact ⟨Nat.le_refl _, h⟩
      · have := scanF_ge ts p f (i + 1) (by omega); omega
    · exact ⟨Nat.le_refl _, h⟩

/-- Where afterWith's answer lies. -/
theorem awF_bounds (ts : List Tk) (p : Nat) (hp : p ≤ ts.length) : ∀ (f i : Nat), awF ts p f i = p ∨ (i + 1 ≤ awF ts p f i ∧ awF ts p f i ≤ ts.length ∧ isPunctL ts ((awF ts p f i : Int) - 1) [41] = true ∧ isPunctL ts (awF ts p f i : Int) [44] = false)
  | 0, i => Or.inl rfl
  | f + 1, i => by
    unfold awF
    split
    · rename_i hi
      have hs := scanF_ge ts p (p - i) i (by omega)
      split
      · exact Or.inl rfl
      · rename_i e he
        obtain ⟨g1, g2, g3⟩ := closeF_ge ts _ _ _ _ he
        split
        · split
          · have := awF_bounds ts p hp f (e + 2)
            rcases this with h | h
            · exact Or.inl h
            · exact Or.inr ⟨by omega, h.2⟩
          · rename_i hc
            refine Or.inr ⟨by omega, by omega, ?_, ?_⟩
            · rw [show (((e + 1 : Nat) : Int)) - 1 = (e : Int) by omega]; exact g3
            · rw [show (((e + 1 : Nat) : Int)) = (e : Int) + 1 by omega]; simpa using hc
        · have := awF_bounds ts p hp f (e + 1)
          rcases this with h | h
          · exact Or.inl h
          · exact Or.inr ⟨by omega, h.2⟩
    · exact Or.inl rfl

theorem awF_out {ts : List Tk} {p f i : Nat} (h : p ≤ i) : awF ts p f i = p := by
  cases f with
  | zero => rfl
  | succ f => unfold awF; rw [if_neg (by omega)]
end Go.Proofs.Qxb6602215a
