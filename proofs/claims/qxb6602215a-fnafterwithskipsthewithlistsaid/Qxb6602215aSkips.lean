import Derived.Test.Qxb6602215aAfterWalk
import Derived.Test.Qxb6602215aBuild
namespace Go.Proofs.Qxb6602215a
open Go.RowKit Go.Deep
set_option linter.unusedVariables false

def bOpen : ByteArray := ⟨#[40]⟩
def bClose : ByteArray := ⟨#[41]⟩
def bCm : ByteArray := ⟨#[44]⟩
def bAs : ByteArray := ⟨#[97, 115]⟩
def bMat : ByteArray := ⟨#[109, 97, 116, 101, 114, 105, 97, 108, 105, 122, 101, 100]⟩
def bNt : ByteArray := ⟨#[110, 111, 116]⟩
def bSelect : ByteArray := ⟨#[115, 101, 108, 101, 99, 116]⟩
def bF : ByteArray := ⟨#[102]⟩
def b1 : ByteArray := ⟨#[49]⟩
def b2 : ByteArray := ⟨#[50]⟩
def bA : ByteArray := ⟨#[97]⟩
def bB : ByteArray := ⟨#[98]⟩
def bX : ByteArray := ⟨#[120]⟩
def bY : ByteArray := ⟨#[121]⟩
def bZ : ByteArray := ⟨#[122]⟩
def bQ : ByteArray := ⟨#[113]⟩
def bM : ByteArray := ⟨#[109]⟩
def bWith : ByteArray := ⟨#[119, 105, 116, 104]⟩
def bRec : ByteArray := ⟨#[114, 101, 99, 117, 114, 115, 105, 118, 101]⟩

def openT (t : Tk) : Bool := !t.word && (t.text.toList == [40])
def closeT (t : Tk) : Bool := !t.word && (t.text.toList == [41])
def commaT (t : Tk) : Bool := !t.word && (t.text.toList == [44])

/-! ### Looking into a list at a place -/
theorem look_punct (A B : List Tk) (t : Tk) (s : List UInt8) : isPunctL (A ++ t :: B) (A.length : Int) s = (!t.word && (t.text.toList == s)) := by
  have h1 : decide ((0 : Int) ≤ (A.length : Int)) = true := by simp
  have h2 : decide ((A.length : Int) < ((A ++ t :: B).length : Int)) = true := by simp; omega
  have e : (A ++ t :: B).getD A.length Tk.zero = t := by simp [List.getD]
  simp only [isPunctL, h1, h2, Int.toNat_natCast, Bool.true_and, e]
theorem look_word (A B : List Tk) (t : Tk) (s : List UInt8) : isWordL (A ++ t :: B) (A.length : Int) s = (t.word && (t.text.toList == s)) := by
  have h1 : decide ((0 : Int) ≤ (A.length : Int)) = true := by simp
  have h2 : decide ((A.length : Int) < ((A ++ t :: B).length : Int)) = true := by simp; omega
  have e : (A ++ t :: B).getD A.length Tk.zero = t := by simp [List.getD]
  simp only [isWordL, h1, h2, Int.toNat_natCast, Bool.true_and, e]

theorem scan_mid (N : Nat) (o : Tk) (R : List Tk) (ho : openT o = true) : ∀ (mid A ts : List Tk), (∀ t ∈ mid, openT t = false) → ts = A ++ mid ++ o :: R → A.length + mid.length < N → scanF ts N (N - A.length) A.length = A.length + mid.length
  | [], A, ts, _, hts, hN => by
    subst hts
    rw [List.append_nil]
    exact scanF_stop (Or.inr (by rw [look_punct]; exact ho))
  | t :: mid, A, ts, hm, hts, hN => by
    have hN' : A.length + (mid.length + 1) < N := hN
    have hp : isPunctL ts (A.length : Int) [40] = false := by
      rw [hts, List.append_assoc, List.cons_append, look_punct]; exact hm t (by simp)
    rw [scanF_next (by omega) hp]
    have := scan_mid N o R ho mid (A ++ [t]) ts (fun u hu => hm u (by simp [hu])) (by rw [hts]; simp) (by simp; omega)
    simp at this
    rw [this, List.length_cons]
    omega

/-! ### The depth -/
def runs : Int → List Tk → Option Int
  | d, [] => some d
  | d, t :: l => if openT t then runs (d + 1) l else if closeT t then (if d - 1 = 0 then none else runs (d - 1) l) else runs d l

theorem runs_append (a b : List Tk) : ∀ (d d' : Int), runs d a = some d' → runs d (a ++ b) = runs d' b := by
  induction a with
  | nil => intro d d' h; simp [runs] at h; subst h; rfl
  | cons t l ih =>
    intro d d' h
    simp only [runs, List.cons_append] at h ⊢
    split
    · rename_i ho; rw [if_pos ho] at h; exact ih _ _ h
    · rename_i ho
      rw [if_neg ho] at h
      split
      · rename_i hc
        rw [if_pos hc] at h
        split
        · rename_i h0; rw [if_pos h0] at h; cases h
        · rename_i h0; rw [if_neg h0] at h; exact ih _ _ h
      · rename_i hc; rw [if_neg hc] at h; exact ih _ _ h

theorem close_mid (R : List Tk) (f : Nat) : ∀ (inner A ts : List Tk) (d d' : Int), ts = A ++ inner ++ R → runs d inner = some d' → closeF ts (inner.length + f) A.length d = closeF ts f (A.length + inner.length) d'
  | [], A, ts, d, d', hts, h => by simp [runs] at h; subst h; simp
  | t :: l, A, ts, d, d', hts, h => by
    have e1 : isPunctL ts (A.length : Int) [40] = openT t := by rw [hts, List.append_assoc, List.cons_append, look_punct]; rfl
    have e2 : isPunctL ts (A.length : Int) [41] = closeT t := by rw [hts, List.append_assoc, List.cons_append, look_punct]; rfl
    rw [show (t :: l).length + f = (l.length + f) + 1 by simp; omega]
    conv => lhs; unfold closeF
    rw [e1, e2]
    simp only [runs] at h
    have hts' : ts = (A ++ [t]) ++ l ++ R := by rw [hts]; simp
    have hlen : (A ++ [t]).length = A.length + 1 := by simp
    cases ho : openT t with
    | true =>
      rw [ho, if_pos rfl] at h
      have := close_mid R f l (A ++ [t]) ts _ _ hts' h
      rw [hlen] at this
      rw [if_pos rfl, this, List.length_cons, show A.length + 1 + l.length = A.length + (l.length + 1) by omega]
    | false =>
      rw [ho, if_neg (by simp)] at h
      rw [if_neg (by simp)]
      cases hc : closeT t with
      | true =>
        rw [hc, if_pos rfl] at h
        rw [if_pos rfl]
        by_cases h0 : d - 1 = 0
        · rw [if_pos h0] at h; cases h
        · rw [if_neg h0] at h ⊢
          have := close_mid R f l (A ++ [t]) ts _ _ hts' h
          rw [hlen] at this
          rw [this, List.length_cons, show A.length + 1 + l.length = A.length + (l.length + 1) by omega]
      | false =>
        rw [hc, if_neg (by simp)] at h
        rw [if_neg (by simp)]
        have := close_mid R f l (A ++ [t]) ts _ _ hts' h
        rw [hlen] at this
        rw [this, List.length_cons, show A.length + 1 + l.length = A.length + (l.length + 1) by omega]

theorem openT_open : openT (pt bOpen) = true := by simp [openT, pt, bOpen]
theorem closeT_open : closeT (pt bOpen) = false := by simp [closeT, pt, bOpen]
theorem openT_close : openT (pt bClose) = false := by simp [openT, pt, bClose]
theorem closeT_close : closeT (pt bClose) = true := by simp [closeT, pt, bClose]
theorem openT_wt (s : ByteArray) : openT (wt s) = false := rfl
theorem closeT_wt (s : ByteArray) : closeT (wt s) = false := rfl

/-- The parenthesis that closes a group. -/
theorem close_group (A inner Y ts : List Tk) (hts : ts = A ++ pt bOpen :: (inner ++ pt bClose :: Y)) (hr : runs 1 inner = some 1) : closeF ts (ts.length - A.length) A.length 0 = some (A.length + 1 + inner.length) := by
  have hl : ts.length - A.length = (inner.length + (Y.length + 1)) + 1 := by rw [hts]; simp only [List.length_append, List.length_cons]; omega
  rw [hl]
  unfold closeF
  have e1 : isPunctL ts (A.length : Int) [40] = true := by rw [hts, look_punct]; exact openT_open
  rw [e1, if_pos rfl]
  have := close_mid (pt bClose :: Y) (Y.length + 1) inner (A ++ [pt bOpen]) ts 1 1 (by rw [hts]; simp) hr
  rw [show (A ++ [pt bOpen]).length = A.length + 1 by simp] at this
  show closeF ts (inner.length + (Y.length + 1)) (A.length + 1) (0 + 1) = _
  rw [show (0 : Int) + 1 = 1 by rfl, this]
  unfold closeF
  have hts2 : ts = (A ++ pt bOpen :: inner) ++ pt bClose :: Y := by rw [hts]; simp
  have hlen : (A ++ pt bOpen :: inner).length = A.length + 1 + inner.length := by simp; omega
  have e2 : isPunctL ts ((A.length + 1 + inner.length : Nat) : Int) [40] = false := by rw [← hlen, hts2, look_punct]; exact openT_close
  have e3 : isPunctL ts ((A.length + 1 + inner.length : Nat) : Int) [41] = true := by rw [← hlen, hts2, look_punct]; exact closeT_close
  rw [e2, e3]
  simp

theorem asBefore_at (A B : List Tk) (t : Tk) : asBefore (A ++ t :: B) (A.length + 1) = (t.word && (t.text.toList == [97, 115]) || t.word && (t.text.toList == [109, 97, 116, 101, 114, 105, 97, 108, 105, 122, 101, 100])) := by
  unfold asBefore
  rw [show ((A.length + 1 : Nat) : Int) - 1 = (A.length : Int) by omega, look_word, look_word]

/-- One group of parentheses, read by afterWith's loop: the words ahead of it, the last of them 'l'. -/
theorem group_step (X mid inner Y ts : List Tk) (l : Tk) (f : Nat) (hts : ts = X ++ (mid ++ [l]) ++ pt bOpen :: (inner ++ pt bClose :: Y)) (hm : ∀ t ∈ mid ++ [l], openT t = false) (hr : runs 1 inner = some 1) :
    awF ts ts.length (f + 1) X.length =
      if (l.word && (l.text.toList == [97, 115]) || l.word && (l.text.toList == [109, 97, 116, 101, 114, 105, 97, 108, 105, 122, 101, 100])) then
        (if isPunctL ts ((X.length + mid.length + inner.length + 3 : Nat) : Int) [44] then awF ts ts.length f (X.length + mid.length + inner.length + 4) else X.length + mid.length + inner.length + 3)
      else awF ts ts.length f (X.length + mid.length + inner.length + 3) := by
  have hlen : ts.length = X.length + mid.length + inner.length + Y.length + 3 := by rw [hts]; simp; omega
  have hs : scanF ts ts.length (ts.length - X.length) X.length = X.length + (mid.length + 1) := by
    have := scan_mid ts.length (pt bOpen) (inner ++ pt bClose :: Y) openT_open (mid ++ [l]) X ts hm hts (by simp; omega)
    rw [this]; simp
  have hA : (X ++ (mid ++ [l])).length = X.length + (mid.length + 1) := by simp
  have hc : closeF ts (ts.length - (X.length + (mid.length + 1))) (X.length + (mid.length + 1)) 0 = some (X.length + (mid.length + 1) + 1 + inner.length) := by
    have := close_group (X ++ (mid ++ [l])) inner Y ts hts hr
    rwa [hA] at this
  have hab : asBefore ts (X.length + (mid.length + 1)) = (l.word && (l.text.toList == [97, 115]) || l.word && (l.text.toList == [109, 97, 116, 101, 114, 105, 97, 108, 105, 122, 101, 100])) := by
    have e : ts = (X ++ mid) ++ l :: (pt bOpen :: (inner ++ pt bClose :: Y)) := by rw [hts]; simp
    rw [show X.length + (mid.length + 1) = (X ++ mid).length + 1 by simp; omega, e, asBefore_at]
  rw [awF_some (by omega) hs hc, hab]
  rw [show ((X.length + (mid.length + 1) + 1 + inner.length : Nat) : Int) + 1 = ((X.length + mid.length + inner.length + 3 : Nat) : Int) by omega,
    show X.length + (mid.length + 1) + 1 + inner.length + 2 = X.length + mid.length + inner.length + 4 by omega,
    show X.length + (mid.length + 1) + 1 + inner.length + 1 = X.length + mid.length + inner.length + 3 by omega]

/-! ### The entries of a WITH list -/
def opens : Nat → List Tk
  | 0 => []
  | d + 1 => opens d ++ [wt bF, pt bOpen]
def closes : Nat → List Tk
  | 0 => []
  | d + 1 => closes d ++ [pt bClose]
def colsT : List Tk := [pt bOpen, wt bA, pt bCm, wt bB, pt bClose]
def extraT : List Tk := [pt bCm, wt bY, wt bAs, wt bZ]

theorem runs_opens (d : Nat) (x : Int) : runs x (opens d) = some (x + d) := by
  induction d with
  | zero => simp [opens, runs]
  | succ d ih =>
    rw [opens, runs_append _ _ _ _ ih]
    simp only [runs, openT_wt, closeT_wt, openT_open]
    simp
    omega
theorem runs_closes (d : Nat) (x : Int) (hx : 1 ≤ x) : ∀ (y : Int), y = x + d → runs y (closes d) = some x := by
  induction d generalizing x with
  | zero => intro y hy; simp [closes, runs]; omega
  | succ d ih =>
    intro y hy
    rw [closes, runs_append _ _ _ _ (ih (x + 1) (by omega) y (by omega))]
    simp only [runs, openT_close, closeT_close]
    rw [if_neg (by simp), if_pos trivial, if_neg (by omega)]
    simp

/-- What stands between an entry's parentheses. -/
def innerT (dp : Nat) (ex : Bool) : List Tk := [wt bSelect] ++ opens dp ++ [pt b1] ++ closes dp ++ (if ex then extraT else [])
theorem runs_inner (dp : Nat) (ex : Bool) : runs 1 (innerT dp ex) = some 1 := by
  unfold innerT
  have h1 : runs 1 [wt bSelect] = some 1 := by simp [runs, openT_wt, closeT_wt]
  have o1 : openT (pt b1) = false := by simp [openT, pt, b1]
  have c1 : closeT (pt b1) = false := by simp [closeT, pt, b1]
  have h2 : runs 1 ([wt bSelect] ++ opens dp) = some (1 + (dp : Int)) := by rw [runs_append _ _ _ _ h1, runs_opens]
  have h3 : runs 1 ([wt bSelect] ++ opens dp ++ [pt b1]) = some (1 + (dp : Int)) := by
    rw [runs_append _ _ _ _ h2]; simp [runs, o1, c1]
  have h4 : runs 1 ([wt bSelect] ++ opens dp ++ [pt b1] ++ closes dp) = some 1 := by
    rw [runs_append _ _ _ _ h3]; exact runs_closes dp 1 (by omega) _ rfl
  rw [runs_append _ _ _ _ h4]
  have o2 : openT (pt bCm) = false := by simp [openT, pt, bCm]
  have c2 : closeT (pt bCm) = false := by simp [closeT, pt, bCm]
  cases ex
  · rfl
  · simp [extraT, runs, openT_wt, closeT_wt, o2, c2]

/-- The words from AS to the opening parenthesis. -/
def asT (mod : Int) : List Tk := [wt bAs] ++ (if mod = 2 then [wt bNt] else []) ++ (if 1 ≤ mod then [wt bMat] else [])
def entryT (nm : ByteArray) (cols : Bool) (mod : Int) (dp : Nat) (ex : Bool) : List Tk :=
  [wt nm] ++ (if cols then colsT else []) ++ asT mod ++ pt bOpen :: (innerT dp ex ++ [pt bClose])

/-- The last word ahead of the parenthesis says AS or MATERIALIZED. -/
theorem asT_last (mod : Int) : ∃ mid l, asT mod = mid ++ [l] ∧ (l.word && (l.text.toList == [97, 115]) || l.word && (l.text.toList == [109, 97, 116, 101, 114, 105, 97, 108, 105, 122, 101, 100])) = true ∧ (∀ t ∈ asT mod, openT t = false) := by
  unfold asT
  by_cases h2 : mod = 2
  · subst h2
    exact ⟨[wt bAs, wt bNt], wt bMat, rfl, by simp [wt, bMat], by intro t ht; simp at ht; rcases ht with rfl | rfl | rfl <;> rfl⟩
  · by_cases h1 : 1 ≤ mod
    · exact ⟨[wt bAs], wt bMat, by simp [h2, h1], by simp [wt, bMat], by intro t ht; simp [h2, h1] at ht; rcases ht with rfl | rfl <;> rfl⟩
    · exact ⟨[], wt bAs, by simp [h2, h1], by simp [wt, bAs], by intro t ht; simp [h2, h1] at ht; subst ht; rfl⟩

/-- One entry, read by afterWith's loop. -/
theorem entry_step (X Y ts : List Tk) (nm : ByteArray) (cols : Bool) (mod : Int) (dp : Nat) (ex : Bool) (f : Nat) (hts : ts = X ++ entryT nm cols mod dp ex ++ Y)
    (hnm : cols = true → (nm.toList == [97, 115]) = false ∧ (nm.toList == [109, 97, 116, 101, 114, 105, 97, 108, 105, 122, 101, 100]) = false) :
    ∃ f', f ≤ f' ∧ awF ts ts.length (f + 2) X.length = if isPunctL ts ((X.length + (entryT nm cols mod dp ex).length : Nat) : Int) [44] then awF ts ts.length f' (X.length + (entryT nm cols mod dp ex).length + 1) else X.length + (entryT nm cols mod dp ex).length := by
  obtain ⟨mid, l, hml, hl, hno⟩ := asT_last mod
  have hal : (asT mod).length = mid.length + 1 := by rw [hml]; simp
  cases cols with
  | false =>
    refine ⟨f + 1, by omega, ?_⟩
    have hts2 : ts = X ++ (([wt nm] ++ mid) ++ [l]) ++ pt bOpen :: (innerT dp ex ++ pt bClose :: Y) := by
      rw [hts, entryT, hml]; simp
    rw [group_step X ([wt nm] ++ mid) (innerT dp ex) Y ts l (f + 1) hts2 (by
      intro t ht
      simp at ht
      rcases ht with rfl | ht | rfl
      · rfl
      · exact hno t (by rw [hml]; simp [ht])
      · exact hno t (by rw [hml]; simp)) (runs_inner dp ex), hl, if_pos rfl]
    have hlen : (entryT nm false mod dp ex).length = ([wt nm] ++ mid).length + (innerT dp ex).length + 3 := by
      simp [entryT, hal]; omega
    rw [hlen, show X.length + (([wt nm] ++ mid).length + (innerT dp ex).length + 3) = X.length + ([wt nm] ++ mid).length + (innerT dp ex).length + 3 by omega]
  | true =>
    obtain ⟨n1, n2⟩ := hnm rfl
    refine ⟨f, by omega, ?_⟩
    have hrc : runs 1 [wt bA, pt bCm, wt bB] = some 1 := by
      have o2 : openT (pt bCm) = false := by simp [openT, pt, bCm]
      have c2 : closeT (pt bCm) = false := by simp [closeT, pt, bCm]
      simp [runs, openT_wt, closeT_wt, o2, c2]
    have hts1 : ts = X ++ ([] ++ [wt nm]) ++ pt bOpen :: ([wt bA, pt bCm, wt bB] ++ pt bClose :: (asT mod ++ pt bOpen :: (innerT dp ex ++ pt bClose :: Y))) := by
      rw [hts, entryT]; simp [colsT]
    rw [group_step X [] [wt bA, pt bCm, wt bB] _ ts (wt nm) (f + 1) hts1 (by intro t ht; simp at ht; subst ht; rfl) hrc]
    rw [if_neg (by simp only [wt, n1, n2]; decide)]
    have hts2 : ts = (X ++ [wt nm] ++ colsT) ++ (mid ++ [l]) ++ pt bOpen :: (innerT dp ex ++ pt bClose :: Y) := by
      rw [hts, entryT, hml]; simp
    have := group_step (X ++ [wt nm] ++ colsT) mid (innerT dp ex) Y ts l f hts2 (by rw [← hml]; exact hno) (runs_inner dp ex)
    rw [hl, if_pos rfl, show (X ++ [wt nm] ++ colsT).length = X.length + 6 by simp [colsT]] at this
    show awF ts ts.length (f + 1) (X.length + 0 + 3 + 3) = _
    rw [show X.length + 0 + 3 + 3 = X.length + 6 by omega, this]
    have hlen : (entryT nm true mod dp ex).length = 6 + mid.length + (innerT dp ex).length + 3 := by
      simp [entryT, hal, colsT]; omega
    rw [hlen, show X.length + (6 + mid.length + (innerT dp ex).length + 3) = X.length + 6 + mid.length + (innerT dp ex).length + 3 by omega]

/-! ### The whole list -/
/-- How one entry is written. -/
structure Ent where
  nm : ByteArray
  cols : Bool
  mod : Int
  dp : Nat
  ex : Bool
def Ent.toks (e : Ent) : List Tk := entryT e.nm e.cols e.mod e.dp e.ex
def sepT (k : Nat) : List Tk := if 0 < k then [pt bCm] else []
def bodyT (es : Nat → Ent) : Nat → List Tk
  | 0 => []
  | k + 1 => bodyT es k ++ sepT k ++ (es k).toks
/-- A name that stands ahead of a column list is neither AS nor MATERIALIZED. -/
def Ent.ok (e : Ent) : Prop := e.cols = true → (e.nm.toList == [97, 115]) = false ∧ (e.nm.toList == [109, 97, 116, 101, 114, 105, 97, 108, 105, 122, 101, 100]) = false

theorem body_split (es : Nat → Ent) (n : Nat) : ∀ k, k < n → ∃ R, bodyT es n = bodyT es k ++ sepT k ++ (es k).toks ++ R ∧ (k + 1 < n → ∃ R', R = pt bCm :: R') ∧ (k + 1 = n → R = []) := by
  induction n with
  | zero => intro k hk; omega
  | succ n ih =>
    intro k hk
    by_cases hkn : k = n
    · subst hkn
      exact ⟨[], by simp [bodyT], fun h => by omega, fun _ => rfl⟩
    · obtain ⟨R, hR, h1, h2⟩ := ih k (by omega)
      refine ⟨R ++ sepT n ++ (es n).toks, by rw [bodyT, hR]; simp, fun _ => ?_, fun h => by omega⟩
      by_cases hk2 : k + 1 < n
      · obtain ⟨R', rfl⟩ := h1 hk2
        exact ⟨R' ++ sepT n ++ (es n).toks, by simp⟩
      · have := h2 (by omega)
        subst this
        refine ⟨(es n).toks, ?_⟩
        have : sepT n = [pt bCm] := by unfold sepT; rw [if_pos (by omega)]
        rw [this]; rfl

theorem commaT_cm : (!(pt bCm).word && ((pt bCm).text.toList == [44])) = true := by simp [pt, bCm]

/-- From the head of entry k on. -/
theorem rest_step (es : Nat → Ent) (hok : ∀ k, (es k).ok) (n : Nat) (pre tail ts : List Tk) (hts : ts = pre ++ bodyT es n ++ tail) (htail : isPunctL ts ((pre ++ bodyT es n).length : Int) [44] = false) :
    ∀ (r k f : Nat), k + r + 1 = n → 2 * (r + 1) ≤ f → awF ts ts.length f (pre ++ bodyT es k ++ sepT k).length = (pre ++ bodyT es n).length := by
  intro r
  induction r with
  | zero =>
    intro k f hk hf
    obtain ⟨R, hR, _, h2⟩ := body_split es n k (by omega)
    have := h2 (by omega)
    subst this
    rw [List.append_nil] at hR
    obtain ⟨g, rfl⟩ : ∃ g, f = g + 2 := ⟨f - 2, by omega⟩
    obtain ⟨f', _, hstep⟩ := entry_step (pre ++ bodyT es k ++ sepT k) tail ts (es k).nm (es k).cols (es k).mod (es k).dp (es k).ex g (by rw [hts, hR]; simp [Ent.toks]) (hok k)
    have hlen : (pre ++ bodyT es k ++ sepT k).length + (entryT (es k).nm (es k).cols (es k).mod (es k).dp (es k).ex).length = (pre ++ bodyT es n).length := by
      rw [hR, ← List.length_append]; simp [Ent.toks]
    rw [hstep, hlen, htail, if_neg (by simp)]
  | succ r ih =>
    intro k f hk hf
    obtain ⟨R, hR, h1, _⟩ := body_split es n k (by omega)
    obtain ⟨R', rfl⟩ := h1 (by omega)
    obtain ⟨g, rfl⟩ : ∃ g, f = g + 2 := ⟨f - 2, by omega⟩
    obtain ⟨f', hf', hstep⟩ := entry_step (pre ++ bodyT es k ++ sepT k) (pt bCm :: R' ++ tail) ts (es k).nm (es k).cols (es k).mod (es k).dp (es k).ex g (by rw [hts, hR]; simp [Ent.toks]) (hok k)
    have hlen : (pre ++ bodyT es k ++ sepT k).length + (entryT (es k).nm (es k).cols (es k).mod (es k).dp (es k).ex).length = (pre ++ bodyT es (k + 1)).length := by
      rw [bodyT, ← List.length_append]; simp [Ent.toks]
    have hcm : isPunctL ts ((pre ++ bodyT es (k + 1)).length : Int) [44] = true := by
      rw [show ts = (pre ++ bodyT es (k + 1)) ++ pt bCm :: (R' ++ tail) by rw [hts, hR, bodyT]; simp, look_punct]
      exact commaT_cm
    have hnext : (pre ++ bodyT es (k + 1)).length + 1 = (pre ++ bodyT es (k + 1) ++ sepT (k + 1)).length := by
      have : sepT (k + 1) = [pt bCm] := by unfold sepT; rw [if_pos (by omega)]
      rw [this, List.length_append (bs := [pt bCm])]; rfl
    rw [hstep, hlen, hcm, if_pos rfl, hnext]
    exact ih (k + 1) f' (by omega) (by omega)

theorem ent_len (e : Ent) : 2 ≤ e.toks.length := by
  unfold Ent.toks entryT
  simp only [List.length_append, List.length_cons]
  omega
theorem body_len (es : Nat → Ent) (n : Nat) : 2 * n ≤ (bodyT es n).length := by
  induction n with
  | zero => simp [bodyT]
  | succ n ih => have := ent_len (es n); simp only [bodyT, List.length_append]; omega

def preT (rc : Bool) : List Tk := [wt bWith] ++ (if rc then [wt bRec] else [])
def tailT (tl : Bool) : List Tk := if tl then [wt bSelect, pt bOpen, pt b2, pt bClose, pt bCm, wt bX] else []

/-- afterWith skips the WITH list. -/
theorem skips (es : Nat → Ent) (hok : ∀ k, (es k).ok) (hn0 : ((es 0).nm.toList == [114, 101, 99, 117, 114, 115, 105, 118, 101]) = false) (n : Nat) (hn : 0 < n) (rc tl : Bool) :
    awR (preT rc ++ bodyT es n ++ tailT tl) (preT rc ++ bodyT es n ++ tailT tl).length 1 = (preT rc ++ bodyT es n).length := by
  generalize hts : preT rc ++ bodyT es n ++ tailT tl = ts
  have htail : isPunctL ts ((preT rc ++ bodyT es n).length : Int) [44] = false := by
    cases tl
    · have : ts.length = (preT rc ++ bodyT es n).length := by rw [← hts]; simp [tailT]
      rw [← this]
      have h2 : decide ((ts.length : Int) < (ts.length : Int)) = false := by simp
      simp only [isPunctL, h2, Bool.and_false, Bool.false_and]
    · rw [← hts, tailT, if_pos rfl, look_punct]; rfl
  have hlen : 2 * n ≤ ts.length := by rw [← hts]; have := body_len es n; simp only [List.length_append]; omega
  obtain ⟨r, rfl⟩ : ∃ r, n = r + 1 := ⟨n - 1, by omega⟩
  have hmain : awF ts ts.length (ts.length + 1) (preT rc).length = (preT rc ++ bodyT es (r + 1)).length := by
    have := rest_step es hok (r + 1) (preT rc) (tailT tl) ts hts.symm htail r 0 (ts.length + 1) (by omega) (by omega)
    simpa [bodyT, sepT] using this
  unfold awR
  cases rc with
  | true =>
    have : isWordL ts ((1 : Nat) : Int) [114, 101, 99, 117, 114, 115, 105, 118, 101] = true := by
      rw [← hts, show preT true ++ bodyT es (r + 1) ++ tailT tl = [wt bWith] ++ wt bRec :: (bodyT es (r + 1) ++ tailT tl) by simp [preT]]
      have := look_word [wt bWith] (bodyT es (r + 1) ++ tailT tl) (wt bRec) [114, 101, 99, 117, 114, 115, 105, 118, 101]
      rw [show (([wt bWith].length : Nat) : Int) = ((1 : Nat) : Int) by rfl] at this
      rw [this]; simp [wt, bRec]
    rw [this, if_pos rfl]
    exact hmain
  | false =>
    obtain ⟨R, hR, _, _⟩ := body_split es (r + 1) 0 (by omega)
    have : isWordL ts ((1 : Nat) : Int) [114, 101, 99, 117, 114, 115, 105, 118, 101] = false := by
      obtain ⟨Z, hZ⟩ : ∃ Z, ts = [wt bWith] ++ wt (es 0).nm :: Z := ⟨_, by rw [← hts, hR]; simp [preT, bodyT, sepT, Ent.toks, entryT]; rfl⟩
      have := look_word [wt bWith] Z (wt (es 0).nm) [114, 101, 99, 117, 114, 115, 105, 118, 101]
      rw [show (([wt bWith].length : Nat) : Int) = ((1 : Nat) : Int) by rfl] at this
      rw [hZ, this]
      show (true && ((es 0).nm.toList == [114, 101, 99, 117, 114, 115, 105, 118, 101])) = false
      rw [hn0]; rfl
    rw [this, if_neg (by simp)]
    exact hmain
end Go.Proofs.Qxb6602215a
