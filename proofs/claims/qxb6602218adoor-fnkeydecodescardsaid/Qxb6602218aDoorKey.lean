import Derived.Test.Qxb6602218aDoorShelf
import Derived.Test.Qxb6602218aDoorLeaves
import Derived.Lib.ItoaMem
import Derived.WalkSmall
namespace Go.Proofs.Qxb6602218aDoor
open Go.RowKit Go.Deep
set_option linter.unusedVariables false

/-- One field; the key. -/
def fieldL (s : ByteArray) : List UInt8 := Lib.decDigits s.size ++ [58] ++ s.data.toList
def keyL (ss : List ByteArray) : List UInt8 := ss.flatMap fieldL
theorem keyL_snoc (l : List ByteArray) (s : ByteArray) : keyL (l ++ [s]) = keyL l ++ fieldL s := by simp [keyL]
theorem keyL_take {ss : List ByteArray} {k : Nat} {s : ByteArray} (h : Hid (ss[k]? = some s)) : keyL (ss.take (k + 1)) = keyL (ss.take k) ++ fieldL s := by
  have hk := (List.getElem?_eq_some_iff.1 h.out).1
  have e : ss[k] = s := (List.getElem?_eq_some_iff.1 h.out).2
  rw [List.take_succ_eq_append_getElem hk, keyL_snoc, e]

theorem nDigits_le (u : Nat) : Lib.nDigits u ≤ u + 1 := by
  induction u using Nat.strongRecOn with
  | _ u ih =>
    rw [Lib.nDigits]
    split
    · omega
    · have := ih (u / 10) (by omega); omega
theorem size_toList (s : ByteArray) : s.data.toList.length = s.size := by rw [Array.length_toList]; rfl
theorem fieldL_len (s : ByteArray) : (fieldL s).length ≤ 2 * s.size + 2 := by
  have := nDigits_le s.size
  simp only [fieldL, List.length_append, List.length_cons, List.length_nil, Lib.decDigits_length, size_toList]
  omega
theorem keyL_len (ss : List ByteArray) : (keyL ss).length ≤ 2 * tot ss + 2 * ss.length := by
  induction ss with
  | nil => simp [keyL]
  | cons a l ih =>
    have := fieldL_len a
    simp [keyL, tot] at ih ⊢
    omega
theorem tot_take_le (ss : List ByteArray) (k : Nat) : tot (ss.take k) ≤ tot ss := by
  have h : tot ss = tot (ss.take k) + tot (ss.drop k) := by
    have := congrArg tot (List.take_append_drop k ss)
    rw [← this]; simp only [tot, List.map_append, List.sum_append]
  omega
theorem size_le_tot {ss : List ByteArray} {k : Nat} {s : ByteArray} (h : ss[k]? = some s) : s.size ≤ tot ss := by
  have := tot_take (ss := ss) (k := k) (s := s) h
  have := tot_take_le ss (k + 1)
  omega

theorem size_dd (n : Nat) : (⟨(Lib.decDigits n).toArray⟩ : ByteArray).size = Lib.nDigits n := by show (Lib.decDigits n).toArray.size = _; simp [Lib.decDigits_length]

/-- Old blocks as they were: a builder stays. -/
theorem builderAt_kept {T e : TypeId} {B b : Nat} {p : Value} {bs : List Value} {w w' : World} (h : Lib.BuilderAt T e B b p bs w) (hk : ∀ i, i < w.heap.size → w'.heap[i]? = w.heap[i]?) : Lib.BuilderAt T e B b p bs w' := by
  obtain ⟨hB, v, hb, ho, hne⟩ := h
  have hbl : b < w.heap.size := (Array.getElem?_eq_some_iff.1 hb).1
  refine ⟨hB, v, by rw [hk b hbl]; exact hb, ⟨ho.1, ?_⟩, hne⟩
  rcases ho.2 with h1 | ⟨g, cap, cur, hv, hg, hh, r⟩
  · exact Or.inl h1
  · exact Or.inr ⟨g, cap, cur, hv, hg, by rw [hk g (Array.getElem?_eq_some_iff.1 hh).1]; exact hh, r⟩
theorem isBuilder_kept {T e : TypeId} {B b : Nat} {bs : List Value} {w w' : World} (h : Lib.IsBuilder T e B b bs w) (hk : ∀ i, i < w.heap.size → w'.heap[i]? = w.heap[i]?) : Lib.IsBuilder T e B b bs w' :=
  h.elim (fun x => .inl (builderAt_kept x hk)) (fun x => .inr (builderAt_kept x hk))
theorem grow_kept (w : World) (k : Nat) (os : Array Obj) : ∀ i, i < w.heap.size → (Sort.grow (w.drewN k) os).heap[i]? = w.heap[i]? := fun i hi => Sort.heap_grow_old (w.drewN k) os hi
theorem grow_below {B : Nat} {w0 w : World} (h : Below B w0 w) (hB : B ≤ w.heap.size) (k : Nat) (os : Array Obj) : Below B w0 (Sort.grow (w.drewN k) os) :=
  h.trans ⟨rfl, rfl, rfl, by rw [Sort.size_grow]; exact Nat.le_add_right _ _, fun i hi => grow_kept w k os i (by omega)⟩

theorem globalPow : Tryd.prog.globalNamed Tryd.powName = some 0 := by kernel_rfl

/-- The table that Itoa reads lies as the text lays it. -/
def Tab (w : World) : Prop := Lib.TabIs Tryd.prog w Tryd.powName .u64 Lib.pow10Tab ∧ 0 < w.heap.size
theorem Tab.below {B : Nat} {w w' : World} (h : Tab w) (hb : Below B w w') (hB : 0 < B) : Tab w' :=
  ⟨var?_below hb globalPow hB h.1, Nat.lt_of_lt_of_le h.2 hb.size⟩

/-- What key's loop carries. -/
structure KeyW (w wr : World) (l : List UInt8) : Prop where
  bld : Lib.IsBuilder 32 5 w.heap.size w.heap.size (Lib.byteCells l) wr
  bel : Below w.heap.size w wr
  tab : Tab wr

def StrPost (l : List UInt8) (w : World) (e : Ending) (w' : World) : Prop := e = .returned (.string ⟨l.toArray⟩) ∧ Below w.heap.size w w'

theorem KeyW.write {w W w1 : World} {l m : List UInt8} (K : KeyW w W l) (h : Lib.BuilderAt 32 5 w.heap.size w.heap.size (.pointer (some ⟨w.heap.size, 0, none⟩)) (Lib.byteCells l ++ Lib.byteCells m) w1) (hb : Below w.heap.size W w1) (hw : 0 < w.heap.size) : KeyW w w1 (l ++ m) :=
  ⟨Or.inr (by rw [Lib.byteCells_append]; exact h), K.bel.trans hb, K.tab.below hb hw⟩

set_option maxRecDepth 100000 in
set_option maxHeartbeats 2000000 in
theorem key_any (ao : Option Addr) (n c : Nat) (w : World) (ss : List ByteArray) (h : StrS w ao n ss) (hm : n + tot ss ≤ 1048576) (ht : Tab w) :
    Calls Tryd.prog 13 #[.slice ao n c] w (StrPost (keyL ss) w) := by
  have H : Hid (StrS w ao n ss) := h
  have HTb : Hid (Tab w) := ht
  have hw0 := ht.2
  clear h ht
  have K0 : KeyW w (w.alloc (.cells #[.pointer none, .slice none 0 0] 32)) [] :=
    ⟨Lib.fresh_isBuilder 32 5 w, (Below.refl _ _).alloc (Nat.le_refl _) _, HTb.out.below ((Below.refl w.heap.size w).alloc (Nat.le_refl _) _) hw0⟩
  go_enter Tryd.func13, Tryd.ntmps13
  go_wp2_with fail
  go_loopw [8] (fun i wr => ∃ k : Nat, k ≤ n ∧ i = .int .i64 k ∧ KeyW w wr (keyL (ss.take k))) (fun i _ => n - (intOf i).toNat)
  case atStart => exact ⟨0, Nat.zero_le _, rfl, by simpa [keyL] using K0⟩
  case round =>
    clear K0
    obtain ⟨k, hk, rfl, K⟩ := hrel
    by_cases hlt : k < n
    · obtain ⟨b, o, s, hao, hs, c0⟩ := (H.out.below K.bel).at hlt
      subst hao
      have hsz := size_le_tot hs.out
      have hkl : (keyL (ss.take k)).length ≤ 2 * 1048576 := by
        have h1 := keyL_len (ss.take k)
        have h2 := tot_take_le ss k
        have h3 : (ss.take k).length ≤ n := by rw [List.length_take]; have := H.out.1; omega
        omega
      have HE : Hid (keyL (ss.take (k + 1)) = keyL (ss.take k) ++ fieldL s) := keyL_take hs
      have hnd := nDigits_le s.size
      generalize keyL (ss.take k) = L at K hkl HE
      have KH : Hid (KeyW w wr L) := K
      have hws : w.heap.size ≤ wr.heap.size := K.bel.size
      clear K hs
      go_wp2_with fail
      refine (Tryd.strconv_Itoa (s.size : Int) (by omega) (by omega) wr KH.out.tab.1).mono ?_
      rintro e w1 ⟨he, kk, os, rfl⟩
      rw [Lib.itoa_nonneg] at he
      subst he
      have K1 : Hid (KeyW w (Sort.grow (wr.drewN kk) os) L) := ⟨isBuilder_kept KH.out.bld (grow_kept wr kk os), grow_below KH.out.bel hws kk os, KH.out.tab.below (grow_below (Below.refl w.heap.size wr) hws kk os) hw0⟩
      have hw1 : w.heap.size ≤ (Sort.grow (wr.drewN kk) os).heap.size := K1.out.bel.size
      generalize Sort.grow (wr.drewN kk) os = w1 at K1 hw1 ⊢
      clear KH
      go_wp2_with fail
      refine (Tryd.Builder_WriteString w.heap.size w.heap.size _ ⟨(Lib.decDigits s.size).toArray⟩ w1 K1.out.bld (by simp only [Lib.byteCells_length, size_dd]; omega) hw1).mono ?_
      rintro e w2 ⟨rfl, hB2, bel2⟩
      have K2 : Hid (KeyW w w2 (L ++ Lib.decDigits s.size)) := K1.out.write hB2 bel2 hw0
      have hw2 := K2.out.bel.size
      clear hB2 bel2 K1
      go_wp2_with fail
      refine (Tryd.Builder_WriteByte w.heap.size w.heap.size _ 58 w2 K2.out.bld (by simp only [Lib.byteCells_length, List.length_append, Lib.decDigits_length]; omega) hw2).mono ?_
      rintro e w3 ⟨rfl, hB3, bel3⟩
      have K3 : Hid (KeyW w w3 (L ++ Lib.decDigits s.size ++ [58])) := K2.out.write (m := [58]) hB3 bel3 hw0
      have hw3 := K3.out.bel.size
      clear hB3 bel3 K2
      go_wp2_with fail
      refine (Tryd.Builder_WriteString w.heap.size w.heap.size _ s w3 K3.out.bld (by simp only [Lib.byteCells_length, List.length_append, Lib.decDigits_length, List.length_cons, List.length_nil]; omega) hw3).mono ?_
      rintro e w4 ⟨rfl, hB4, bel4⟩
      have K4 : Hid (KeyW w w4 (keyL (ss.take (k + 1)))) := by
        have := K3.out.write (m := s.data.toList) hB4 bel4 hw0
        show KeyW _ _ _
        rw [HE.out, fieldL]
        simpa [List.append_assoc] using this
      clear hB4 bel4 K3
      go_wp2_with fail
      go_roundw
      case rel => exact ⟨k + 1, by omega, by go_num, K4.out⟩
      case measure => simp [intOf]; omega
    · have KH : Hid (KeyW w wr (keyL (ss.take k))) := K
      have hws : w.heap.size ≤ wr.heap.size := K.bel.size
      have HL : Hid (keyL (ss.take k) = keyL ss) := by
        show _ = _
        rw [List.take_of_length_le (by have := H.out.1; omega)]
      clear K
      go_wp2_with fail
      refine (Tryd.Builder_String_any w.heap.size w.heap.size _ wr KH.out.bld hws).mono ?_
      rintro e w1 ⟨rfl, bel1⟩
      go_wp2_with fail
      try go_ret
      exact ⟨by rw [HL.out]; rfl, KH.out.bel.trans bel1⟩

theorem ZZkey_any (ao : Option Addr) (n c : Nat) (w : World) (ss : List ByteArray) (h : StrS w ao n ss) (hm : n + tot ss ≤ 1048576) (ht : Tab w) :
    Calls Tryd.prog 9 #[.slice ao n c] w (StrPost (keyL ss) w) := by
  have H : Hid (StrS w ao n ss) := h
  have HTb : Hid (Tab w) := ht
  clear h ht
  go_enter Tryd.func9, Tryd.ntmps9
  go_wp2_with fail
  refine (key_any _ n c w ss H.out hm HTb.out).mono ?_
  rintro e w1 ⟨rfl, bel1⟩
  go_wp2_with fail
  try go_ret
  exact ⟨rfl, bel1⟩
end Go.Proofs.Qxb6602218aDoor
