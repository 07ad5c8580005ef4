import Derived.Test.Qxb6602218aDoorKey
namespace Go.Proofs.Qxb6602218aDoor
open Go.RowKit Go.Deep
set_option linter.unusedVariables false

/-- What a row of digits spells. -/
def valL (l : List UInt8) : Nat := l.foldl (fun v d => v * 10 + (d.toNat - 48)) 0
theorem valL_snoc (l : List UInt8) (d : UInt8) : valL (l ++ [d]) = valL l * 10 + (d.toNat - 48) := by simp [valL]
theorem digit_nat {d : Nat} (h : d < 10) : (UInt8.ofNat (48 + d)).toNat = 48 + d := by
  rw [UInt8.toNat_ofNat']; omega
theorem valL_dec (u : Nat) : valL (Lib.decDigits u) = u := by
  induction u using Nat.strongRecOn with
  | _ u ih =>
    rw [Lib.decDigits]
    split
    · rename_i h
      have := digit_nat h
      show 0 * 10 + ((UInt8.ofNat (48 + u)).toNat - 48) = u
      omega
    · rename_i h
      rw [valL_snoc, ih (u / 10) (by omega)]
      have := digit_nat (d := u % 10) (by omega)
      omega
theorem dec_digit (u : Nat) : ∀ d ∈ Lib.decDigits u, 48 ≤ d.toNat ∧ d.toNat ≤ 57 := by
  induction u using Nat.strongRecOn with
  | _ u ih =>
    rw [Lib.decDigits]
    split
    · rename_i h
      intro d hd
      have := digit_nat h
      simp only [List.mem_singleton] at hd
      subst hd
      omega
    · rename_i h
      intro d hd
      have := digit_nat (d := u % 10) (by omega)
      rcases List.mem_append.1 hd with hd | hd
      · exact ih (u / 10) (by omega) d hd
      · simp only [List.mem_singleton] at hd
        subst hd
        omega
theorem dec_ne58 (u : Nat) : ∀ d ∈ Lib.decDigits u, d ≠ 58 := by
  intro d hd e
  have := dec_digit u d hd
  subst e
  have : (58 : UInt8).toNat = 58 := rfl
  omega
theorem dec_inj {u v : Nat} (h : Lib.decDigits u = Lib.decDigits v) : u = v := by rw [← valL_dec u, h, valL_dec]

theorem sep_unique : ∀ {x y u v : List UInt8}, (∀ d ∈ x, d ≠ 58) → (∀ d ∈ y, d ≠ 58) → x ++ 58 :: u = y ++ 58 :: v → x = y ∧ u = v
  | [], [], u, v, _, _, h => by simpa using h
  | [], b :: y, u, v, _, hy, h => by
    simp only [List.nil_append, List.cons_append, List.cons.injEq] at h
    exact absurd h.1.symm (hy b (by simp))
  | a :: x, [], u, v, hx, _, h => by
    simp only [List.nil_append, List.cons_append, List.cons.injEq] at h
    exact absurd h.1 (hx a (by simp))
  | a :: x, b :: y, u, v, hx, hy, h => by
    simp only [List.cons_append, List.cons.injEq] at h
    have := sep_unique (fun d hd => hx d (List.mem_cons_of_mem _ hd)) (fun d hd => hy d (List.mem_cons_of_mem _ hd)) h.2
    exact ⟨by rw [h.1, this.1], this.2⟩
theorem keyL_cons (s : ByteArray) (l : List ByteArray) : keyL (s :: l) = Lib.decDigits s.size ++ 58 :: (s.data.toList ++ keyL l) := by
  simp [keyL, fieldL]
theorem keyL_inj : ∀ {a b : List ByteArray}, keyL a = keyL b → a = b
  | [], [], _ => rfl
  | [], s :: l, h => by rw [keyL_cons] at h; simp [keyL] at h
  | s :: l, [], h => by rw [keyL_cons] at h; simp [keyL] at h
  | s :: l, t :: m, h => by
    rw [keyL_cons, keyL_cons] at h
    obtain ⟨h1, h2⟩ := sep_unique (dec_ne58 _) (dec_ne58 _) h
    have hz := dec_inj h1
    obtain ⟨h3, h4⟩ := List.append_inj h2 (by rw [size_toList, size_toList, hz])
    have : s = t := by
      cases s; cases t
      simp only [ByteArray.mk.injEq]
      exact Array.toList_inj.1 h3
    rw [this, keyL_inj h4]
theorem keyL_beq (a b : List ByteArray) : ((⟨(keyL a).toArray⟩ : ByteArray).toList == (⟨(keyL b).toArray⟩ : ByteArray).toList) = decide (a = b) := by
  rw [Bool.eq_iff_iff]
  simp only [beq_iff_eq, decide_eq_true_eq, ByteArray.toList_eq]
  exact ⟨fun h => keyL_inj (by simpa using h), fun h => by rw [h]⟩
end Go.Proofs.Qxb6602218aDoor
