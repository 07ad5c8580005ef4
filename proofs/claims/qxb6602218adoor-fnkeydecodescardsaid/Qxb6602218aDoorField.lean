import Derived.Test.Qxb6602218aDoorLaw
namespace Go.Proofs.Qxb6602218aDoor
open Go.RowKit Go.Deep
set_option linter.unusedVariables false

theorem keyL_append (a b : List ByteArray) : keyL (a ++ b) = keyL a ++ keyL b := by simp [keyL]
theorem key_split {ss : List ByteArray} {k : Nat} {s : ByteArray} (h : ss[k]? = some s) : keyL ss = keyL (ss.take k) ++ (Lib.decDigits s.size ++ 58 :: (s.data.toList ++ keyL (ss.drop (k + 1)))) := by
  have hk := (List.getElem?_eq_some_iff.1 h).1
  have e : ss[k] = s := (List.getElem?_eq_some_iff.1 h).2
  have e2 : ss = ss.take k ++ s :: ss.drop (k + 1) := by
    have := List.take_append_drop k ss
    rw [List.drop_eq_getElem_cons hk, e] at this
    exact this.symm
  have := congrArg keyL e2
  rw [keyL_append, keyL_cons] at this
  exact this

/-- What the first t digits spell. -/
def dv (u t : Nat) : Nat := valL ((Lib.decDigits u).take t)
theorem foldl_ge (l : List UInt8) : ∀ v : Nat, v ≤ l.foldl (fun v d => v * 10 + (d.toNat - 48)) v := by
  induction l with
  | nil => intro v; exact Nat.le_refl _
  | cons a l ih =>
    intro v
    have := ih (v * 10 + (a.toNat - 48))
    simp only [List.foldl_cons]
    omega
theorem dv_le (u t : Nat) : dv u t ≤ u := by
  have h := congrArg valL (List.take_append_drop t (Lib.decDigits u))
  rw [valL_dec] at h
  unfold dv
  have h2 : valL ((Lib.decDigits u).take t) ≤ valL ((Lib.decDigits u).take t ++ (Lib.decDigits u).drop t) := by
    simp only [valL, List.foldl_append]
    exact foldl_ge _ _
  omega
theorem dv_zero (u : Nat) : dv u 0 = 0 := rfl
theorem dv_full (u : Nat) : dv u (Lib.nDigits u) = u := by
  unfold dv
  rw [List.take_of_length_le (by rw [Lib.decDigits_length]; exact Nat.le_refl _), valL_dec]
theorem dv_step {u t : Nat} {d : UInt8} (h : (Lib.decDigits u)[t]? = some d) : dv u (t + 1) = dv u t * 10 + (d.toNat - 48) := by
  have hk := (List.getElem?_eq_some_iff.1 h).1
  have e : (Lib.decDigits u)[t] = d := (List.getElem?_eq_some_iff.1 h).2
  unfold dv
  rw [List.take_succ_eq_append_getElem hk, valL_snoc, e]
theorem head_dec (u : Nat) : 1 ≤ u → ∃ d, (Lib.decDigits u)[0]? = some d ∧ d.toNat ≠ 48 := by
  induction u using Nat.strongRecOn with
  | _ u ih =>
    intro h1
    by_cases h : u < 10
    · rw [Lib.decDigits, dif_pos h]
      exact ⟨_, rfl, by have := digit_nat h; omega⟩
    · obtain ⟨d, hd, hn⟩ := ih (u / 10) (by omega) (by omega)
      rw [Lib.decDigits, dif_neg h]
      exact ⟨d, by rw [List.getElem?_append_left (List.getElem?_eq_some_iff.1 hd).1]; exact hd, hn⟩

/-- A field of a key, as the reader meets it. -/
structure Field (kk : ByteArray) (p m u : Nat) (s : ByteArray) : Prop where
  us : u = s.size
  room : p + m + 1 + u ≤ kk.size
  one : 1 ≤ m
  digit : ∀ t, t < m → ∃ d : Nat, kk.data.toList[p + t]? = some (UInt8.ofNat d) ∧ 48 ≤ d ∧ d ≤ 57 ∧ dv u (t + 1) = dv u t * 10 + (d - 48) ∧ (t = 0 → d = 48 → m = 1)
  colon : kk.data.toList[p + m]? = some 58
  piece : kk.extract (p + m + 1) (p + m + 1 + u) = s
  full : dv u m = u

theorem ofNat_toNat (d : UInt8) : UInt8.ofNat d.toNat = d := by simp
theorem field_of {ss : List ByteArray} {k : Nat} {s : ByteArray} (h : ss[k]? = some s) :
    Field ⟨(keyL ss).toArray⟩ (keyL (ss.take k)).length (Lib.nDigits s.size) s.size s := by
  have hs := key_split h
  have hdl := Lib.decDigits_length s.size
  have hsz := size_toList s
  generalize keyL (ss.take k) = A at hs
  generalize keyL (ss.drop (k + 1)) = R at hs
  rw [hs]
  refine ⟨rfl, ?_, Lib.nDigits_pos _, ?_, ?_, ?_, dv_full _⟩
  · show _ ≤ (A ++ _).toArray.size
    simp only [List.size_toArray, List.length_append, List.length_cons]
    omega
  · intro t ht
    have htl : t < (Lib.decDigits s.size).length := by omega
    refine ⟨((Lib.decDigits s.size)[t]).toNat, ?_, ?_, ?_, dv_step (List.getElem?_eq_getElem htl), ?_⟩
    · rw [ofNat_toNat]
      show (A ++ _)[A.length + t]? = _
      rw [List.getElem?_append_right (by omega), Nat.add_sub_cancel_left, List.getElem?_append_left htl, List.getElem?_eq_getElem htl]
    · exact (dec_digit _ _ (List.getElem_mem htl)).1
    · exact (dec_digit _ _ (List.getElem_mem htl)).2
    · intro h0 h48
      subst h0
      by_cases hz : s.size = 0
      · rw [hz, Lib.nDigits_small (by omega)]
      · obtain ⟨d, hd, hn⟩ := head_dec s.size (by omega)
        rw [List.getElem?_eq_getElem htl] at hd
        exact absurd (Option.some.inj hd ▸ h48) hn
  · show (A ++ _)[A.length + Lib.nDigits s.size]? = _
    rw [List.getElem?_append_right (by omega), Nat.add_sub_cancel_left, List.getElem?_append_right (by omega), hdl, Nat.sub_self]
    rfl
  · rw [ByteArray.extract_mk]
    cases s with
    | mk d =>
      congr 1
      have e1 : (A ++ (Lib.decDigits (ByteArray.size ⟨d⟩) ++ 58 :: (d.toList ++ R))).drop (A.length + Lib.nDigits (ByteArray.size ⟨d⟩) + 1) = d.toList ++ R := by
        rw [Nat.add_assoc, List.drop_append, List.drop_eq_nil_of_le (by omega), List.nil_append, Nat.add_sub_cancel_left, List.drop_append, List.drop_eq_nil_of_le (by omega), List.nil_append, hdl, Nat.add_sub_cancel_left]
        rfl
      rw [e1, Nat.add_sub_cancel_left]
      have e2 : (ByteArray.size ⟨d⟩) = d.toList.length := hsz.symm
      rw [e2, List.take_left]
theorem field_next {kk : ByteArray} {ss : List ByteArray} {k : Nat} {s : ByteArray} (h : ss[k]? = some s) : (keyL (ss.take (k + 1))).length = (keyL (ss.take k)).length + Lib.nDigits s.size + 1 + s.size := by
  rw [keyL_take h]
  simp only [fieldL, List.length_append, List.length_cons, List.length_nil, Lib.decDigits_length, size_toList]
  omega

theorem run_idx {kk : ByteArray} {i : Nat} {d : UInt8} (h : kk.data.toList[i]? = some d) (wx : World) : (Instr.index 9 (.string kk) (.int .i64 (i : Int))).run Tryd.prog wx = .ok (.int .u8 d.toNat) wx := by
  have hi : i < kk.data.toList.length := (List.getElem?_eq_some_iff.1 h).1
  have hs : i < kk.size := by rw [size_toList] at hi; exact hi
  have e : kk[i] = d := by
    have := (List.getElem?_eq_some_iff.1 h).2
    rw [Array.getElem_toList] at this
    exact this
  rw [run_index_string wx 9 kk .i64 i Tryd.underlying9, dif_pos ⟨by omega, by omega⟩]
  simp only [Int.toNat_natCast, e]
theorem run_idx_nat {kk : ByteArray} {i d : Nat} (h : kk.data.toList[i]? = some (UInt8.ofNat d)) (hd : d ≤ 57) (wx : World) : (Instr.index 9 (.string kk) (.int .i64 (i : Int))).run Tryd.prog wx = .ok (.int .u8 (d : Int)) wx := by
  rw [run_idx h wx, show (UInt8.ofNat d).toNat = d by rw [UInt8.toNat_ofNat']; omega]
end Go.Proofs.Qxb6602218aDoor
