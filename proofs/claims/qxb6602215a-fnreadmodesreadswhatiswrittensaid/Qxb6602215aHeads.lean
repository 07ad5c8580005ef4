import Derived.Test.Qxb6602215aModes
namespace Go.Proofs.Qxb6602215a
open Go.RowKit Go.Deep
set_option linter.unusedVariables false

theorem isW_yes {ts : List Tk} {j : Nat} {i : Int} {a : UInt8} {l : List UInt8} (hi : i = (j : Int)) (hx : wordAt ts j = a :: l) : isWordL ts i (a :: l) = true := by
  subst hi; rw [isWordL_wordAt, hx]; simp
theorem isW_no {ts : List Tk} {j : Nat} {i : Int} {a : UInt8} {l : List UInt8} (hi : i = (j : Int)) (hx : ¬ wordAt ts j = a :: l) : isWordL ts i (a :: l) = false := by
  subst hi; rw [isWordL_wordAt]; simpa using hx
theorem ne_of {a b c : List UInt8} (h : a = b) (hne : (b == c) = false) : ¬ a = c := by
  subst h; simpa using hne

/-- A loop's head of readModes. -/
structure Head (ts : List Tk) (n k : Nat) (m : MS) : Prop where
  run : mrun ts k = m
  st : m.st = 0 ∨ m.st = 1 ∨ m.st = 2
  nc : m.st = 2 → commaAt ts k = false
  ne : n ≤ k → m.st ≠ 1

theorem head_start (ts : List Tk) (n : Nat) : Head ts n 0 ⟨0, [], false⟩ := ⟨rfl, Or.inl rfl, by simp, by simp⟩

theorem head_next {ts : List Tk} {n k : Nat} {m : MS} (h : Head ts n k m) : mrun ts (k + 1) = mhead m.out m.ser (wordAt ts k) := by
  rw [mrun_succ, h.run]
  unfold mstep
  rcases h.st with e | e | e
  · simp [e]
  · simp [e]
  · simp [e, h.nc e]

/-- Behind a mode, no comma. -/
theorem head_plain {ts : List Tk} {n j : Nat} {o : List ByteArray} {r : Bool} (h : mrun ts j = ⟨2, o, r⟩) (hc : commaAt ts j = false) : Head ts n j ⟨2, o, r⟩ :=
  ⟨h, Or.inr (Or.inr rfl), fun _ => hc, by simp⟩
/-- Behind a mode and a comma, something follows. -/
theorem head_comma {ts : List Tk} {n j : Nat} {o : List ByteArray} {r : Bool} (h : mrun ts j = ⟨2, o, r⟩) (hc : commaAt ts j = true) (hj : j + 1 < n) : Head ts n (j + 1) ⟨1, o, r⟩ :=
  ⟨by rw [mrun_succ, h, hc]; rfl, Or.inr (Or.inl rfl), by simp, fun hh => by omega⟩
/-- Behind a mode and a comma, nothing follows. -/
theorem fail_comma {ts : List Tk} {n j : Nat} {o : List ByteArray} {r : Bool} (h : mrun ts j = ⟨2, o, r⟩) (hc : commaAt ts j = true) (hj : j + 1 = n) : mfin (mrun ts n) = ([], false, false) := by
  subst hj
  rw [mrun_succ, h, hc]; rfl

theorem fail_at {ts : List Tk} {n j : Nat} (hj : j ≤ n) (h0 : (mrun ts j).st ≠ 0) (h2 : (mrun ts j).st ≠ 2) (hd : (mrun ts (j + 1)).st = 9) : mfin (mrun ts n) = ([], false, false) := by
  by_cases e : j = n
  · subst e; simp [mfin, h0, h2]
  · exact mfin_dead hd (by omega)

theorem lt_of_word {ts : List Tk} {j : Nat} {a : UInt8} {l : List UInt8} (h : wordAt ts j = a :: l) : j < ts.length := by
  by_cases hj : j < ts.length
  · exact hj
  · rw [wordAt_out (by omega)] at h; cases h

section
variable {ts : List Tk} {n k : Nat} {s : Int} {o : List ByteArray} {r : Bool}

theorem st_iso (h : Head ts n k ⟨s, o, r⟩) (w0 : wordAt ts k = kIso) : mrun ts (k + 1) = ⟨3, o, r⟩ := by rw [head_next h, w0]; rfl
theorem st_level (h : Head ts n k ⟨s, o, r⟩) (w0 : wordAt ts k = kIso) (w1 : wordAt ts (k + 1) = kLevel) : mrun ts (k + 2) = ⟨4, o, r⟩ := by
  rw [mrun_succ, st_iso h w0, w1]; rfl
theorem leaf_ser (h : Head ts n k ⟨s, o, r⟩) (w0 : wordAt ts k = kIso) (w1 : wordAt ts (k + 1) = kLevel) (w2 : wordAt ts (k + 2) = kSer) : mrun ts (k + 3) = ⟨2, o, true⟩ := by
  rw [mrun_succ, st_level h w0 w1, w2]; rfl
theorem st_rep (h : Head ts n k ⟨s, o, r⟩) (w0 : wordAt ts k = kIso) (w1 : wordAt ts (k + 1) = kLevel) (w2 : wordAt ts (k + 2) = kRep) : mrun ts (k + 3) = ⟨5, o, r⟩ := by
  rw [mrun_succ, st_level h w0 w1, w2]; rfl
theorem st_lread (h : Head ts n k ⟨s, o, r⟩) (w0 : wordAt ts k = kIso) (w1 : wordAt ts (k + 1) = kLevel) (w2 : wordAt ts (k + 2) = kRead) : mrun ts (k + 3) = ⟨6, o, r⟩ := by
  rw [mrun_succ, st_level h w0 w1, w2]; rfl
theorem leaf_rep (h : Head ts n k ⟨s, o, r⟩) (w0 : wordAt ts k = kIso) (w1 : wordAt ts (k + 1) = kLevel) (w2 : wordAt ts (k + 2) = kRep) (w3 : wordAt ts (k + 3) = kRead) : mrun ts (k + 4) = ⟨2, o, false⟩ := by
  rw [mrun_succ, st_rep h w0 w1 w2, w3]; rfl
theorem leaf_com (h : Head ts n k ⟨s, o, r⟩) (w0 : wordAt ts k = kIso) (w1 : wordAt ts (k + 1) = kLevel) (w2 : wordAt ts (k + 2) = kRead) (w3 : wordAt ts (k + 3) = kCom) : mrun ts (k + 4) = ⟨2, o, false⟩ := by
  rw [mrun_succ, st_lread h w0 w1 w2, w3]; rfl
theorem leaf_unc (h : Head ts n k ⟨s, o, r⟩) (w0 : wordAt ts k = kIso) (w1 : wordAt ts (k + 1) = kLevel) (w2 : wordAt ts (k + 2) = kRead) (w3 : wordAt ts (k + 3) = kUnc) : mrun ts (k + 4) = ⟨2, o, false⟩ := by
  rw [mrun_succ, st_lread h w0 w1 w2, w3]; rfl
theorem st_read (h : Head ts n k ⟨s, o, r⟩) (w0 : wordAt ts k = kRead) : mrun ts (k + 1) = ⟨7, o, r⟩ := by rw [head_next h, w0]; rfl
theorem leaf_only (h : Head ts n k ⟨s, o, r⟩) (w0 : wordAt ts k = kRead) (w1 : wordAt ts (k + 1) = kOnly) : mrun ts (k + 2) = ⟨2, o ++ [mRO], r⟩ := by
  rw [mrun_succ, st_read h w0, w1]; rfl
theorem leaf_write (h : Head ts n k ⟨s, o, r⟩) (w0 : wordAt ts k = kRead) (w1 : wordAt ts (k + 1) = kWrite) : mrun ts (k + 2) = ⟨2, o ++ [mRW], r⟩ := by
  rw [mrun_succ, st_read h w0, w1]; rfl
theorem leaf_def (h : Head ts n k ⟨s, o, r⟩) (w0 : wordAt ts k = kDef) : mrun ts (k + 1) = ⟨2, o ++ [mD], r⟩ := by rw [head_next h, w0]; rfl
theorem st_not (h : Head ts n k ⟨s, o, r⟩) (w0 : wordAt ts k = kNot) : mrun ts (k + 1) = ⟨8, o, r⟩ := by rw [head_next h, w0]; rfl
theorem leaf_not (h : Head ts n k ⟨s, o, r⟩) (w0 : wordAt ts k = kNot) (w1 : wordAt ts (k + 1) = kDef) : mrun ts (k + 2) = ⟨2, o ++ [mND], r⟩ := by
  rw [mrun_succ, st_not h w0, w1]; rfl

theorem fail_iso (hn : ts.length = n) (h : Head ts n k ⟨s, o, r⟩) (w0 : wordAt ts k = kIso) (w1 : ¬ wordAt ts (k + 1) = kLevel) : mfin (mrun ts n) = ([], false, false) := by
  have := lt_of_word (ts := ts) (j := k) w0
  refine fail_at (j := k + 1) (by omega) ?_ ?_ ?_
  · rw [st_iso h w0]; simp
  · rw [st_iso h w0]; simp
  · rw [mrun_succ, st_iso h w0]; simp [mstep, w1]
theorem fail_level (hn : ts.length = n) (h : Head ts n k ⟨s, o, r⟩) (w0 : wordAt ts k = kIso) (w1 : wordAt ts (k + 1) = kLevel) (w2 : ¬ wordAt ts (k + 2) = kSer) (w2' : ¬ wordAt ts (k + 2) = kRep) (w2'' : ¬ wordAt ts (k + 2) = kRead) : mfin (mrun ts n) = ([], false, false) := by
  have := lt_of_word (ts := ts) (j := k + 1) w1
  refine fail_at (j := k + 2) (by omega) ?_ ?_ ?_
  · rw [st_level h w0 w1]; simp
  · rw [st_level h w0 w1]; simp
  · rw [mrun_succ, st_level h w0 w1]; simp [mstep, w2, w2', w2'']
theorem fail_rep (hn : ts.length = n) (h : Head ts n k ⟨s, o, r⟩) (w0 : wordAt ts k = kIso) (w1 : wordAt ts (k + 1) = kLevel) (w2 : wordAt ts (k + 2) = kRep) (w3 : ¬ wordAt ts (k + 3) = kRead) : mfin (mrun ts n) = ([], false, false) := by
  have := lt_of_word (ts := ts) (j := k + 2) w2
  refine fail_at (j := k + 3) (by omega) ?_ ?_ ?_
  · rw [st_rep h w0 w1 w2]; simp
  · rw [st_rep h w0 w1 w2]; simp
  · rw [mrun_succ, st_rep h w0 w1 w2]; simp [mstep, w3]
theorem fail_lread (hn : ts.length = n) (h : Head ts n k ⟨s, o, r⟩) (w0 : wordAt ts k = kIso) (w1 : wordAt ts (k + 1) = kLevel) (w2 : wordAt ts (k + 2) = kRead) (w3 : ¬ wordAt ts (k + 3) = kCom) (w3' : ¬ wordAt ts (k + 3) = kUnc) : mfin (mrun ts n) = ([], false, false) := by
  have := lt_of_word (ts := ts) (j := k + 2) w2
  refine fail_at (j := k + 3) (by omega) ?_ ?_ ?_
  · rw [st_lread h w0 w1 w2]; simp
  · rw [st_lread h w0 w1 w2]; simp
  · rw [mrun_succ, st_lread h w0 w1 w2]; simp [mstep, w3, w3']
theorem fail_read (hn : ts.length = n) (h : Head ts n k ⟨s, o, r⟩) (w0 : wordAt ts k = kRead) (w1 : ¬ wordAt ts (k + 1) = kOnly) (w1' : ¬ wordAt ts (k + 1) = kWrite) : mfin (mrun ts n) = ([], false, false) := by
  have := lt_of_word (ts := ts) (j := k) w0
  refine fail_at (j := k + 1) (by omega) ?_ ?_ ?_
  · rw [st_read h w0]; simp
  · rw [st_read h w0]; simp
  · rw [mrun_succ, st_read h w0]; simp [mstep, w1, w1']
theorem fail_not (hn : ts.length = n) (h : Head ts n k ⟨s, o, r⟩) (w0 : wordAt ts k = kNot) (w1 : ¬ wordAt ts (k + 1) = kDef) : mfin (mrun ts n) = ([], false, false) := by
  have := lt_of_word (ts := ts) (j := k) w0
  refine fail_at (j := k + 1) (by omega) ?_ ?_ ?_
  · rw [st_not h w0]; simp
  · rw [st_not h w0]; simp
  · rw [mrun_succ, st_not h w0]; simp [mstep, w1]
theorem fail_other (hk : k < n) (h : Head ts n k ⟨s, o, r⟩) (w0 : ¬ wordAt ts k = kIso) (w1 : ¬ wordAt ts k = kRead) (w2 : ¬ wordAt ts k = kNot) (w3 : ¬ wordAt ts k = kDef) : mfin (mrun ts n) = ([], false, false) := by
  refine mfin_dead (k := k + 1) ?_ (by omega)
  rw [head_next h]
  simp [mhead, w0, w1, w2, w3]
end

theorem commaAt_eq {ts : List Tk} {j : Nat} {t : Tk} (h : Hid (ts[j]? = some t)) : commaAt ts j = (!t.word && (t.text.toList == [44])) := by
  have e : ts.getD j Tk.zero = t := by simp [List.getD, h.out]
  rw [commaAt, e]; rfl

end Go.Proofs.Qxb6602215a
