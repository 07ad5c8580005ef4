import Derived.Test.Qxb6602215aToks
namespace Go.Proofs.Qxb6602215a
open Go.RowKit Go.Deep

/-- A semicolon. -/
def semi (ts : List Tk) (j : Nat) : Bool := isPunctL ts j [59]

/-- What holds of the spans and of 'first' when k tokens have been read. -/
structure SpInv (ts : List Tk) (k : Nat) (sp : List (Nat × Nat)) (f : Int) : Prop where
  len : sp.length ≤ k
  ok : ∀ (j : Nat) (x : Nat × Nat), sp[j]? = some x → x.1 < x.2 ∧ x.2 < k ∧ semi ts x.2 = true
  ord : ∀ (j : Nat) (x y : Nat × Nat), sp[j]? = some x → sp[j + 1]? = some y → x.2 < y.1
  fr : f = -1 ∨ ∃ m : Nat, f = m ∧ m < k ∧ ∀ (j : Nat) (x : Nat × Nat), sp[j]? = some x → x.2 < m
  cov : ∀ j, j < k → (f < 0 ∨ (j : Int) < f) → semi ts j = true ∨ ∃ (i : Nat) (x : Nat × Nat), sp[i]? = some x ∧ x.1 ≤ j ∧ j < x.2

/-- What the answer is good for. -/
structure SpFin (ts : List Tk) (sp : List (Nat × Nat)) : Prop where
  len : sp.length ≤ ts.length + 1
  ok : ∀ (j : Nat) (x : Nat × Nat), sp[j]? = some x → x.1 < x.2 ∧ x.2 ≤ ts.length ∧ (x.2 < ts.length → semi ts x.2 = true)
  ord : ∀ (j : Nat) (x y : Nat × Nat), sp[j]? = some x → sp[j + 1]? = some y → x.2 < y.1
  cov : ∀ j, j < ts.length → semi ts j = true ∨ ∃ (i : Nat) (x : Nat × Nat), sp[i]? = some x ∧ x.1 ≤ j ∧ j < x.2

theorem spInv_start (ts : List Tk) : SpInv ts 0 [] (-1) := by
  refine ⟨by simp, ?_, ?_, Or.inl rfl, ?_⟩ <;> simp

theorem getElem?_snoc_cases {α : Type} {l : List α} {a x : α} {j : Nat} (h : (l ++ [a])[j]? = some x) : l[j]? = some x ∨ (j = l.length ∧ x = a) := by
  by_cases hj : j < l.length
  · left; rwa [List.getElem?_append_left hj] at h
  · right
    have hlt := (List.getElem?_eq_some_iff.1 h).1
    simp at hlt
    have e : j = l.length := by omega
    subst e
    simp at h
    exact ⟨rfl, h.symm⟩

theorem spInv_push {ts : List Tk} {k : Nat} {sp : List (Nat × Nat)} {f : Int} (I : SpInv ts k sp f) (hf : 0 ≤ f) (hs : semi ts k = true) : SpInv ts (k + 1) (sp ++ [(f.toNat, k)]) (-1) := by
  obtain ⟨m, rfl, hm, hlt⟩ : ∃ m : Nat, f = m ∧ m < k ∧ ∀ (j : Nat) (x : Nat × Nat), sp[j]? = some x → x.2 < m := by
    rcases I.fr with h | h
    · omega
    · exact h
  rw [Int.toNat_natCast]
  refine ⟨by simp; exact I.len, ?_, ?_, Or.inl rfl, ?_⟩
  · intro j x hx
    rcases getElem?_snoc_cases hx with h | ⟨_, rfl⟩
    · have := I.ok j x h; exact ⟨this.1, by omega, this.2.2⟩
    · exact ⟨hm, Nat.lt_succ_self _, hs⟩
  · intro j x y hx hy
    rcases getElem?_snoc_cases hy with h | ⟨hj, rfl⟩
    · have hj := (List.getElem?_eq_some_iff.1 h).1
      rw [List.getElem?_append_left (by omega)] at hx
      exact I.ord j x y hx h
    · rw [List.getElem?_append_left (by omega)] at hx
      exact hlt j x hx
  · intro j hj _
    by_cases hjk : j = k
    · subst hjk; exact Or.inl hs
    · by_cases hjm : j < m
      · rcases I.cov j (by omega) (Or.inr (by omega)) with h | ⟨i, x, h, h1⟩
        · exact Or.inl h
        · exact Or.inr ⟨i, x, by rw [List.getElem?_append_left (List.getElem?_eq_some_iff.1 h).1]; exact h, h1⟩
      · exact Or.inr ⟨sp.length, (m, k), by simp, by show m ≤ j; omega, by show j < k; omega⟩

theorem spInv_skip {ts : List Tk} {k : Nat} {sp : List (Nat × Nat)} {f : Int} (I : SpInv ts k sp f) (hf : f < 0) (hs : semi ts k = true) : SpInv ts (k + 1) sp (-1) := by
  refine ⟨by have := I.len; omega, ?_, I.ord, Or.inl rfl, ?_⟩
  · intro j x hx
    have := I.ok j x hx; exact ⟨this.1, by omega, this.2.2⟩
  · intro j hj _
    by_cases hjk : j = k
    · subst hjk; exact Or.inl hs
    · exact I.cov j (by omega) (Or.inl hf)

theorem spInv_stay {ts : List Tk} {k : Nat} {sp : List (Nat × Nat)} {f : Int} (I : SpInv ts k sp f) (hf : 0 ≤ f) : SpInv ts (k + 1) sp f := by
  refine ⟨by have := I.len; omega, ?_, I.ord, ?_, ?_⟩
  · intro j x hx
    have := I.ok j x hx; exact ⟨this.1, by omega, this.2.2⟩
  · rcases I.fr with h | ⟨m, h, hm, hl⟩
    · omega
    · exact Or.inr ⟨m, h, by omega, hl⟩
  · intro j hj hjf
    refine I.cov j ?_ hjf
    rcases I.fr with h | ⟨m, h, hm, hl⟩ <;> omega

theorem spInv_open {ts : List Tk} {k : Nat} {sp : List (Nat × Nat)} {f : Int} (I : SpInv ts k sp f) (hf : f < 0) : SpInv ts (k + 1) sp (k : Int) := by
  refine ⟨by have := I.len; omega, ?_, I.ord, Or.inr ⟨k, rfl, by omega, fun j x hx => (I.ok j x hx).2.1⟩, ?_⟩
  · intro j x hx
    have := I.ok j x hx; exact ⟨this.1, by omega, this.2.2⟩
  · intro j hj hjf
    exact I.cov j (by omega) (Or.inl hf)

theorem spFin_none {ts : List Tk} {sp : List (Nat × Nat)} {f : Int} (I : SpInv ts ts.length sp f) (hf : f < 0) : SpFin ts sp :=
  ⟨by have := I.len; omega, fun j x hx => ⟨(I.ok j x hx).1, by have := (I.ok j x hx).2.1; omega, fun _ => (I.ok j x hx).2.2⟩, I.ord, fun j hj => I.cov j hj (Or.inl hf)⟩

theorem spFin_push {ts : List Tk} {sp : List (Nat × Nat)} {f : Int} (I : SpInv ts ts.length sp f) (hf : 0 ≤ f) : SpFin ts (sp ++ [(f.toNat, ts.length)]) := by
  obtain ⟨m, rfl, hm, hlt⟩ : ∃ m : Nat, f = m ∧ m < ts.length ∧ ∀ (j : Nat) (x : Nat × Nat), sp[j]? = some x → x.2 < m := by
    rcases I.fr with h | h
    · omega
    · exact h
  rw [Int.toNat_natCast]
  refine ⟨by simp; exact I.len, ?_, ?_, ?_⟩
  · intro j x hx
    rcases getElem?_snoc_cases hx with h | ⟨_, rfl⟩
    · have := I.ok j x h; exact ⟨this.1, by omega, fun _ => this.2.2⟩
    · exact ⟨hm, Nat.le_refl _, fun h => absurd h (Nat.lt_irrefl _)⟩
  · intro j x y hx hy
    rcases getElem?_snoc_cases hy with h | ⟨hj, rfl⟩
    · have hj := (List.getElem?_eq_some_iff.1 h).1
      rw [List.getElem?_append_left (by omega)] at hx
      exact I.ord j x y hx h
    · rw [List.getElem?_append_left (by omega)] at hx
      exact hlt j x hx
  · intro j hj
    by_cases hjm : j < m
    · rcases I.cov j hj (Or.inr (by omega)) with h | ⟨i, x, h, h1⟩
      · exact Or.inl h
      · exact Or.inr ⟨i, x, by rw [List.getElem?_append_left (List.getElem?_eq_some_iff.1 h).1]; exact h, h1⟩
    · exact Or.inr ⟨sp.length, (m, ts.length), by simp, by show m ≤ j; omega, hj⟩

/-- The cells of one span; of a list of spans. -/
def spCells (x : Nat × Nat) : List Value := [.int .i64 x.1, .int .i64 x.2]
def spRow (sp : List (Nat × Nat)) : List Value := sp.flatMap spCells
theorem spRow_snoc (sp : List (Nat × Nat)) (x : Nat × Nat) : spRow (sp ++ [x]) = spRow sp ++ spCells x := by simp [spRow]
theorem spRow_length (sp : List (Nat × Nat)) : (spRow sp).length = sp.length * 2 := by
  induction sp with
  | nil => rfl
  | cons a l ih => simp [spRow, spCells] at ih ⊢; omega
theorem spRow_get (sp : List (Nat × Nat)) (j : Nat) (x : Nat × Nat) (h : sp[j]? = some x) : (spRow sp)[j * 2]? = some (.int .i64 x.1) ∧ (spRow sp)[j * 2 + 1]? = some (.int .i64 x.2) := by
  induction sp generalizing j with
  | nil => simp at h
  | cons a l ih =>
    cases j with
    | zero => simp at h; subst h; simp [spRow, spCells]
    | succ j =>
      have := ih j (by simpa using h)
      rw [show (j + 1) * 2 = j * 2 + 2 by omega, show j * 2 + 2 + 1 = (j * 2 + 1) + 2 by omega]
      simpa [spRow, spCells] using this

end Go.Proofs.Qxb6602215a
