import Derived.Test.Qxb6602218aDoorLaw
namespace Go.Proofs.Qxb6602218aDoor
open Go.RowKit Go.Deep
set_option linter.unusedVariables false

def TrueB (w : World) (e : Ending) (w' : World) : Prop := e = .returned (.bool true) ∧ Below w.heap.size w w'
theorem trueB_mk {w w' : World} (h : Below w.heap.size w w') : TrueB w (.returned (.bool true)) w' := ⟨rfl, h⟩
theorem cloned_strs {ao : Option Addr} {n : Nat} {ss : List ByteArray} {w w' : World} {e : Ending} (hl : ss.length = n) (h : Cloned ao n ss w e w') : ∃ a1 c1, e = .returned (.slice a1 n c1) ∧ Hid (StrS w' a1 n ss) ∧ Hid (Below w.heap.size w w') := by
  rcases h with ⟨rfl, rfl, rfl, rfl⟩ | ⟨_, g, rfl, hg, R, bel⟩
  · exact ⟨none, 0, rfl, ⟨hl, Or.inl rfl⟩, Below.refl _ _⟩
  · exact ⟨_, _, rfl, R.strs, bel⟩
theorem below_drewN {B : Nat} {w w' : World} (h : Below B w w') (k : Nat) : Below B w (w'.drewN k) :=
  h.trans ⟨rfl, rfl, rfl, Nat.le_refl _, fun i _ => rfl⟩

theorem trueB_no {w w' : World} {b : Bool} (h : b = false) (hb : Below w.heap.size w w') : TrueB w (.returned (.bool !b)) w' := ⟨by rw [h]; rfl, hb⟩
theorem trueB_yes {w w' : World} {b : Bool} (h : b = true) (hb : Below w.heap.size w w') : TrueB w (.returned (.bool b)) w' := ⟨by rw [h], hb⟩
theorem keyL_beq' (a b : List ByteArray) : (keyL a == keyL b) = decide (a = b) := by
  rw [Bool.eq_iff_iff]
  simp only [beq_iff_eq, decide_eq_true_eq]
  exact ⟨fun h => keyL_inj h, fun h => by rw [h]⟩
theorem str_ne {a b : ByteArray} (h : ¬ a = b) : (a.toList == b.toList) = false := by
  rw [Bool.eq_false_iff, ne_eq, beq_iff_eq, ByteArray.toList_eq, ByteArray.toList_eq]
  intro e
  apply h
  cases a; cases b
  simp only [ByteArray.mk.injEq]
  exact Array.toList_inj.1 e
theorem take_next {a b : List ByteArray} {k : Nat} {x : ByteArray} (h : a.take k = b.take k) (ha : a[k]? = some x) (hb : b[k]? = some x) : a.take (k + 1) = b.take (k + 1) := by
  rw [List.take_add_one, List.take_add_one, h, ha, hb]

set_option maxRecDepth 100000 in
set_option maxHeartbeats 4000000 in
/-- Two keys are one iff the values are. -/
theorem injMain (a1 a2 : Option Addr) (n1 c1 n2 c2 : Nat) (w : World) (s1 s2 : List ByteArray) (h1 : StrS w a1 n1 s1) (h2 : StrS w a2 n2 s2) (hm1 : n1 ≤ maxLen) (hm2 : n2 ≤ maxLen) (ht : Tab w) :
    Calls Tryd.prog 4 #[.slice a1 n1 c1, .slice a2 n2 c2] w (TrueB w) := by
  have H1 : Hid (StrS w a1 n1 s1) := h1
  have H2 : Hid (StrS w a2 n2 s2) := h2
  have HT : Hid (Tab w) := ht
  have hw0 := ht.2
  clear h1 h2 ht
  go_enter Tryd.func4, Tryd.ntmps4
  go_wp2_with fail
  refine (zz11_any a1 a2 n1 c1 n2 c2 w s1 s2 H1.out H2.out hm1 hm2).mono ?_
  rintro e w0 ⟨b0, rfl, hb0, rfl⟩
  cases b0
  · go_wp2_with fail
    go_ret
    exact trueB_mk (Below.refl _ _)
  have hn := hb0 rfl
  have hn1 : n1 ≤ 1048576 := by omega
  have hn2 : n2 ≤ 1048576 := by omega
  have hN1 : n1 + tot s1 ≤ 1048576 := by omega
  have hN2 : n2 + tot s2 ≤ 1048576 := by omega
  clear hb0 hn hm1 hm2
  have HN1 : Hid (n1 + tot s1 ≤ 1048576) := hN1
  have HN2 : Hid (n2 + tot s2 ≤ 1048576) := hN2
  clear hN1 hN2
  go_wp2_with fail
  refine (bytesOf_any a1 n1 c1 w0 s1 H1.out hn1).mono ?_
  rintro e w1 ⟨z1, rfl, rfl⟩
  by_cases hz1 : 1048576 < z1
  · go_wp2_with fail
    go_ret
    exact trueB_mk (Below.refl _ _)
  go_wp2_with fail
  refine (bytesOf_any a2 n2 c2 w1 s2 H2.out hn2).mono ?_
  rintro e w2 ⟨z2, rfl, rfl⟩
  by_cases hz2 : 1048576 < z2
  · go_wp2_with fail
    go_ret
    exact trueB_mk (Below.refl _ _)
  go_wp2_with fail
  refine (bytesOf_any a1 n1 c1 w2 s1 H1.out hn1).mono ?_
  rintro e w3 ⟨z3, rfl, rfl⟩
  go_wp2_with fail
  refine (bytesOf_any a2 n2 c2 w3 s2 H2.out hn2).mono ?_
  rintro e w4 ⟨z4, rfl, rfl⟩
  go_wp2_with fail
  · go_ret
    exact trueB_mk (Below.refl _ _)
  clear hz1 hz2
  refine (clone_any a1 n1 c1 w4 s1 H1.out hn1).mono ?_
  intro e w5 hcl
  obtain ⟨b1, d1, rfl, V1, B1⟩ := cloned_strs H1.out.1 hcl
  clear hcl
  go_wp2_with fail
  refine (clone_any a2 n2 c2 w5 s2 (H2.out.below B1.out) hn2).mono ?_
  intro e w6 hcl
  obtain ⟨b2, d2, rfl, V2, B2⟩ := cloned_strs H2.out.1 hcl
  clear hcl
  have HV1 : Hid (StrS w6 b1 n1 s1) := V1.out.below B2.out
  have BW : Hid (Below w4.heap.size w4 w6) := B1.out.trans (B2.out.mono B1.out.size)
  have HL1 : Hid (s1.length = n1) := H1.out.1
  have HL2 : Hid (s2.length = n2) := H2.out.1
  have HTB : Hid (Tab w6) := HT.out.below BW.out hw0
  have hw6 : 0 < w6.heap.size := Nat.lt_of_lt_of_le hw0 BW.out.size
  clear V1 B1 B2 H1 H2 HT
  /- The tail, at a flag that says what it should. -/
  have tail : ∀ wr, Below w6.heap.size w6 wr → Calls Tryd.prog 9 #[.slice b1 n1 d1] wr (fun e w' => e = .returned (.string ⟨(keyL s1).toArray⟩) ∧ Hid (Below w6.heap.size w6 w') ∧ Calls Tryd.prog 9 #[.slice b2 n2 d2] w' (fun e w' => e = .returned (.string ⟨(keyL s2).toArray⟩) ∧ Hid (Below w6.heap.size w6 w'))) := fun wr hb =>
    (ZZkey_any b1 n1 d1 wr s1 (HV1.out.below hb) HN1.out (HTB.out.below hb hw6)).mono (by
      rintro e w' ⟨rfl, hb'⟩
      have hb2 : Below w6.heap.size w6 w' := hb.trans (hb'.mono hb.size)
      refine ⟨rfl, hb2, (ZZkey_any b2 n2 d2 w' s2 (V2.out.below hb2) HN2.out (HTB.out.below hb2 hw6)).mono ?_⟩
      rintro e w'' ⟨rfl, hb''⟩
      exact ⟨rfl, hb2.trans (hb''.mono hb2.size)⟩)
  have HTail : Hid (∀ wr, Below w6.heap.size w6 wr → Calls Tryd.prog 9 #[.slice b1 n1 d1] wr (fun e w' => e = .returned (.string ⟨(keyL s1).toArray⟩) ∧ Hid (Below w6.heap.size w6 w') ∧ Calls Tryd.prog 9 #[.slice b2 n2 d2] w' (fun e w' => e = .returned (.string ⟨(keyL s2).toArray⟩) ∧ Hid (Below w6.heap.size w6 w')))) := tail
  clear tail HTB
  by_cases hlen : n1 = n2
  case neg =>
    have hf : decide (s1 = s2) = false := by
      simp only [decide_eq_false_iff_not]; intro e; exact hlen (by rw [← HL1.out, ← HL2.out, e])
    have HQ : Hid ((keyL s1 == keyL s2) = false) := (keyL_beq' s1 s2).trans hf
    have hlen' : ¬ (n1 : Int) = (n2 : Int) := by omega
    clear hf
    go_wp2_with fail
    refine (HTail.out w6 (Below.refl _ _)).mono ?_
    rintro e w7 ⟨rfl, B7, nxt⟩
    go_wp2_with fail
    refine nxt.mono ?_
    rintro e w8 ⟨rfl, B8⟩
    clear nxt
    go_wp2_with fail
    go_ret
    exact trueB_no HQ.out (BW.out.trans (B8.out.mono BW.out.size))
  subst hlen
  clear hn2
  go_wp2_with fail
  go_loopw [5, 6] (fun f i wr => f = .bool true ∧ ∃ k : Nat, k ≤ n1 ∧ i = .int .i64 k ∧ Hid (s1.take k = s2.take k) ∧ Hid (Below w6.heap.size w6 wr)) (fun _ i _ => n1 - (intOf i).toNat)
  case atStart => exact ⟨rfl, 0, Nat.zero_le _, rfl, rfl, Below.refl _ _⟩
  case round =>
    obtain ⟨rfl, k, hk, rfl, HE, HB⟩ := hrel
    by_cases hlt : k < n1
    · obtain ⟨g1, o1, x1, hao1, hx1, cl1⟩ := (HV1.out.below HB.out).at hlt
      obtain ⟨g2, o2, x2, hao2, hx2, cl2⟩ := (V2.out.below HB.out).at hlt
      subst hao1 hao2
      by_cases hxx : x1 = x2
      · subst hxx
        have HE2 : Hid (s1.take (k + 1) = s2.take (k + 1)) := take_next HE.out hx1.out hx2.out
        clear HE hx1 hx2
        go_wp2_with fail
        go_quiet (fail)
        go_wp2_with fail
        go_roundw
        case rel => exact ⟨rfl, k + 1, by omega, by go_num, HE2, below_drewN HB.out _⟩
        case measure => simp [intOf]; omega
      · have hf : decide (s1 = s2) = false := by
          simp only [decide_eq_false_iff_not]; intro e; subst e; exact hxx (Option.some.inj (hx1.out.symm.trans hx2.out))
        have HQ : Hid ((keyL s1 == keyL s2) = false) := (keyL_beq' s1 s2).trans hf
        have hne : (x1.toList == x2.toList) = false := str_ne hxx
        clear hf HE hx1 hx2
        go_wp2_with fail
        go_quiet (fail)
        go_wp2_with fail
        refine (HTail.out _ (below_drewN HB.out _)).mono ?_
        rintro e w7 ⟨rfl, B7, nxt⟩
        go_wp2_with fail
        refine nxt.mono ?_
        rintro e w8 ⟨rfl, B8⟩
        clear nxt
        go_wp2_with fail
        go_ret
        exact trueB_no HQ.out (BW.out.trans (B8.out.mono BW.out.size))
    · have hf : decide (s1 = s2) = true := by
        have e := HE.out
        rw [List.take_of_length_le (by have := HL1.out; omega), List.take_of_length_le (by have := HL2.out; omega)] at e
        simp [e]
      have HQ : Hid ((keyL s1 == keyL s2) = true) := (keyL_beq' s1 s2).trans hf
      clear hf HE
      go_wp2_with fail
      refine (HTail.out _ HB.out).mono ?_
      rintro e w7 ⟨rfl, B7, nxt⟩
      go_wp2_with fail
      refine nxt.mono ?_
      rintro e w8 ⟨rfl, B8⟩
      clear nxt
      go_wp2_with fail
      go_ret
      exact trueB_yes HQ.out (BW.out.trans (B8.out.mono BW.out.size))
end Go.Proofs.Qxb6602218aDoor
