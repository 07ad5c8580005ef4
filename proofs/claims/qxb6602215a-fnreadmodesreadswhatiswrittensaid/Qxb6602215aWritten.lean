import Derived.Test.Qxb6602215aBuild
import Derived.Test.Qxb6602215aModes
namespace Go.Proofs.Qxb6602215a
open Go.RowKit Go.Deep
set_option linter.unusedVariables false

def bIso : ByteArray := ⟨#[105, 115, 111, 108, 97, 116, 105, 111, 110]⟩
def bLevel : ByteArray := ⟨#[108, 101, 118, 101, 108]⟩
def bSer : ByteArray := ⟨#[115, 101, 114, 105, 97, 108, 105, 122, 97, 98, 108, 101]⟩
def bRep : ByteArray := ⟨#[114, 101, 112, 101, 97, 116, 97, 98, 108, 101]⟩
def bRead : ByteArray := ⟨#[114, 101, 97, 100]⟩
def bCom : ByteArray := ⟨#[99, 111, 109, 109, 105, 116, 116, 101, 100]⟩
def bUnc : ByteArray := ⟨#[117, 110, 99, 111, 109, 109, 105, 116, 116, 101, 100]⟩
def bOnly : ByteArray := ⟨#[111, 110, 108, 121]⟩
def bWrite : ByteArray := ⟨#[119, 114, 105, 116, 101]⟩
def bDef : ByteArray := ⟨#[100, 101, 102, 101, 114, 114, 97, 98, 108, 101]⟩
def bNot : ByteArray := ⟨#[110, 111, 116]⟩
def bComma : ByteArray := ⟨#[44]⟩

def itemToks (z : Int) : List Tk :=
  if z = 0 then [wt bIso, wt bLevel, wt bSer]
  else if z = 1 then [wt bIso, wt bLevel, wt bRep, wt bRead]
  else if z = 2 then [wt bIso, wt bLevel, wt bRead, wt bCom]
  else if z = 3 then [wt bIso, wt bLevel, wt bRead, wt bUnc]
  else if z = 4 then [wt bRead, wt bOnly]
  else if z = 5 then [wt bRead, wt bWrite]
  else if z = 6 then [wt bDef]
  else [wt bNot, wt bDef]
def itemWant (z : Int) : List ByteArray :=
  if z = 4 then [mRO] else if z = 5 then [mRW] else if z = 6 then [mD] else if z = 7 then [mND] else []
def itemSer (z : Int) (r : Bool) : Bool :=
  if z = 0 then true else if z = 1 then false else if z = 2 then false else if z = 3 then false else r

/-- The tokens, the modes and the flag when k items have been written; 'cm k': a comma behind item k. -/
def wToks (zs : Nat → Int) (cm : Nat → Bool) : Nat → List Tk
  | 0 => []
  | k + 1 => wToks zs cm k ++ itemToks (zs k) ++ (if cm k then [pt bComma] else [])
def wWant (zs : Nat → Int) : Nat → List ByteArray
  | 0 => []
  | k + 1 => wWant zs k ++ itemWant (zs k)
def wSer (zs : Nat → Int) : Nat → Bool
  | 0 => false
  | k + 1 => itemSer (zs k) (wSer zs k)

def mfold (m : MS) (l : List Tk) : MS := l.foldl (fun m t => mstep m (wordOf t) (commaOf t)) m
theorem mfold_append (m : MS) (a b : List Tk) : mfold m (a ++ b) = mfold (mfold m a) b := by simp [mfold]
theorem mrun_fold (ts : List Tk) (k : Nat) (hk : k ≤ ts.length) : mrun ts k = mfold ⟨0, [], false⟩ (ts.take k) := by
  induction k with
  | zero => simp [mrun, mfold]
  | succ k ih =>
    have hk' : k < ts.length := by omega
    rw [mrun_succ, ih (by omega), List.take_succ_eq_append_getElem hk', mfold_append]
    have e : ts.getD k Tk.zero = ts[k] := by simp [List.getD, hk']
    simp only [wordAt, commaAt, e]
    rfl
theorem mrun_all (ts : List Tk) : mrun ts ts.length = mfold ⟨0, [], false⟩ ts := by
  rw [mrun_fold ts _ (Nat.le_refl _), List.take_length]

theorem wordOf_wt (s : ByteArray) : wordOf (wt s) = s.toList := rfl
theorem commaOf_wt (s : ByteArray) : commaOf (wt s) = false := rfl

theorem item_fold {s : Int} (o : List ByteArray) (r : Bool) (hs : s = 0 ∨ s = 1 ∨ s = 2) (z : Int) (h0 : 0 ≤ z) (h7 : z ≤ 7) :
    mfold ⟨s, o, r⟩ (itemToks z) = ⟨2, o ++ itemWant z, itemSer z r⟩ := by
  rcases (show z = 0 ∨ z = 1 ∨ z = 2 ∨ z = 3 ∨ z = 4 ∨ z = 5 ∨ z = 6 ∨ z = 7 by omega) with rfl | rfl | rfl | rfl | rfl | rfl | rfl | rfl <;>
  rcases hs with rfl | rfl | rfl <;>
  simp [itemToks, itemWant, itemSer, mfold, mstep, mhead, wordOf_wt, commaOf_wt, bIso, bLevel, bSer, bRep, bRead, bCom, bUnc, bOnly, bWrite, bDef, bNot, kIso, kLevel, kSer, kRep, kRead, kCom, kUnc, kOnly, kWrite, kDef, kNot]

theorem comma_fold (o : List ByteArray) (r : Bool) : mfold ⟨2, o, r⟩ [pt bComma] = ⟨1, o, r⟩ := by
  have h : commaOf (pt bComma) = true := by simp [commaOf, pt, bComma]
  simp [mfold, mstep, h]

/-- Where the automaton stands when k items have been read. -/
theorem written_fold (zs : Nat → Int) (cm : Nat → Bool) (k : Nat) (hz : ∀ i, i < k → 0 ≤ zs i ∧ zs i ≤ 7) :
    ∃ s, mfold ⟨0, [], false⟩ (wToks zs cm k) = ⟨s, wWant zs k, wSer zs k⟩ ∧ (s = 0 ∨ s = 1 ∨ s = 2) ∧ (k = 0 → s = 0) ∧ (∀ i, k = i + 1 → cm i = false → s = 2) := by
  induction k with
  | zero => exact ⟨0, rfl, Or.inl rfl, fun _ => rfl, fun i h => by omega⟩
  | succ k ih =>
    obtain ⟨s, hs, h3, _, _⟩ := ih (fun i hi => hz i (by omega))
    obtain ⟨z0, z7⟩ := hz k (by omega)
    have e : mfold ⟨0, [], false⟩ (wToks zs cm k ++ itemToks (zs k)) = ⟨2, wWant zs (k + 1), wSer zs (k + 1)⟩ := by
      rw [mfold_append, hs, item_fold _ _ h3 _ z0 z7]; rfl
    cases hc : cm k with
    | true =>
      refine ⟨1, ?_, by simp, by simp, fun i hi hci => ?_⟩
      · show mfold _ (wToks zs cm k ++ itemToks (zs k) ++ (if cm k then [pt bComma] else [])) = _
        rw [hc, if_pos rfl, mfold_append, e, comma_fold]
      · have : i = k := by omega
        subst this; rw [hc] at hci; cases hci
    | false =>
      refine ⟨2, ?_, by simp, by simp, fun _ _ _ => rfl⟩
      show mfold _ (wToks zs cm k ++ itemToks (zs k) ++ (if cm k then [pt bComma] else [])) = _
      rw [hc, if_neg (by simp), List.append_nil, e]

/-- What is written reads back. -/
theorem written_reads (zs : Nat → Int) (cm : Nat → Bool) (n : Nat) (hz : ∀ i, i < n → 0 ≤ zs i ∧ zs i ≤ 7) (hc : ∀ i, n = i + 1 → cm i = false) :
    mfin (mrun (wToks zs cm n) (wToks zs cm n).length) = (wWant zs n, wSer zs n, true) := by
  obtain ⟨s, hs, _, h0, h2⟩ := written_fold zs cm n hz
  rw [mrun_all, hs]
  cases n with
  | zero => simp [mfin, h0 rfl]
  | succ n => simp [mfin, h2 n rfl (hc n rfl)]

theorem itemToks_len (z : Int) : (itemToks z).length ≤ 4 := by
  unfold itemToks
  repeat' split
  all_goals simp
theorem itemWant_len (z : Int) : (itemWant z).length ≤ 1 := by
  unfold itemWant
  repeat' split
  all_goals simp
theorem wToks_len (zs : Nat → Int) (cm : Nat → Bool) (k : Nat) : (wToks zs cm k).length ≤ 5 * k := by
  induction k with
  | zero => simp [wToks]
  | succ k ih =>
    have := itemToks_len (zs k)
    simp only [wToks, List.length_append]
    have : (if cm k then [pt bComma] else []).length ≤ 1 := by split <;> simp
    omega
theorem wWant_len (zs : Nat → Int) (k : Nat) : (wWant zs k).length ≤ k := by
  induction k with
  | zero => simp [wWant]
  | succ k ih =>
    have := itemWant_len (zs k)
    simp only [wWant, List.length_append]
    omega
end Go.Proofs.Qxb6602215a
