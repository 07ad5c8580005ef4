import Derived.Test.Qxb6602215aAfterWalk
import Derived.Test.Qxb6602215aGuards
namespace Go.Proofs.Qxb6602215a
open Go.RowKit Go.Deep
set_option linter.unusedVariables false

theorem awR_bounds (ts : List Tk) (p i : Nat) (hp : p ≤ ts.length) : awR ts p i = p ∨ (i + 1 ≤ awR ts p i ∧ awR ts p i ≤ ts.length ∧ isPunctL ts ((awR ts p i : Int) - 1) [41] = true ∧ isPunctL ts (awR ts p i : Int) [44] = false) := by
  unfold awR
  split
  · rcases awF_bounds ts p hp (p + 1) (i + 1) with h | h
    · exact Or.inl h
    · exact Or.inr ⟨by omega, h.2⟩
  · exact awF_bounds ts p hp (p + 1) i

/-- What ZZAfterWith answers. -/
def AfterPost (g : Nat) (w : World) (e : Ending) (w' : World) : Prop := e = .returned (.int .i64 g) ∧ Below w.heap.size w w'

set_option maxRecDepth 100000 in
set_option maxHeartbeats 1000000 in
theorem zzAfter_any (ao : Option Addr) (n c i p : Nat) (w : World) (ts : List Tk) (h : Toks w ao n ts) (hm : n ≤ 1048576) (hip : i ≤ p) (hpn : p ≤ n) :
    Calls Try.prog 26 #[.slice ao n c, .int .i64 i, .int .i64 p] w (AfterPost (awR ts p i) w) := by
  have H : Hid (Toks w ao n ts) := h
  clear h
  generalize hR : awR ts p i = R
  have HR : Hid (awR ts p i = R) := hR
  clear hR
  go_enter Try.func26, Try.ntmps26
  go_wp2_with fail
  refine (zzToks_any ao n c w ts H.out hm).mono ?_
  rintro e w1 ⟨a1, c1, rfl, T1, B1⟩
  have HT1 : Hid (Toks w1 a1 n ts) := T1
  clear T1
  go_wp2_with fail
  refine (afterWith_any a1 n c1 i p w1 ts HT1.out hm hip hpn).mono ?_
  rintro e w2 ⟨he, rfl⟩
  rw [HR.out] at he
  subst he
  go_wp2_with fail
  go_ret
  exact ⟨rfl, B1⟩

def TrueC (w : World) (e : Ending) (w' : World) : Prop := e = .returned (.bool true) ∧ Below w.heap.size w w'
theorem trueC_mk {w w' : World} (h : Below w.heap.size w w') : TrueC w (.returned (.bool true)) w' := ⟨rfl, h⟩

set_option maxRecDepth 100000 in
set_option maxHeartbeats 2000000 in
theorem boundsMain (ao : Option Addr) (n c : Nat) (i past : Int) (w : World) (ts : List Tk) (h : Toks w ao n ts) (hm : n ≤ maxLen) :
    Calls Try.prog 9 #[.slice ao n c, .int .i64 i, .int .i64 past] w (TrueC w) := by
  have H : Hid (Toks w ao n ts) := h
  clear h
  go_enter Try.func9, Try.ntmps9
  go_wp2_with fail
  refine (zz27_any ao n c i past w ts H.out hm).mono ?_
  rintro e w0 ⟨b0, rfl, hb0, rfl⟩
  cases b0
  · go_wp2
    go_ret
    exact trueC_mk (Below.refl _ _)
  clear hb0
  go_wp2_with fail
  refine (tokFits_any ao n c w0 ts H.out hm).mono ?_
  rintro e w1 ⟨b1, rfl, hb1, B1⟩
  cases b1
  · go_wp2
    go_ret
    exact trueC_mk B1
  have hn : n ≤ 16384 := hb1 rfl
  clear hb1 hm
  have H1 : Hid (Toks w1 ao n ts) := H.out.below B1
  by_cases hv1 : i < 0
  · go_wp2_with fail
    go_ret
    exact trueC_mk B1
  by_cases hv2 : past < i
  · go_wp2_with fail
    go_ret
    exact trueC_mk B1
  by_cases hv3 : (n : Int) < past
  · go_wp2_with fail
    go_ret
    exact trueC_mk B1
  obtain ⟨i0, rfl⟩ := Int.eq_ofNat_of_zero_le (show 0 ≤ i by omega)
  obtain ⟨p, rfl⟩ := Int.eq_ofNat_of_zero_le (show 0 ≤ past by omega)
  have hip : i0 ≤ p := by omega
  have hpn : p ≤ n := by omega
  clear hv1 hv2 hv3
  go_wp2_with fail
  refine (toZZ_any ao n c w1 ts H1.out (by omega)).mono ?_
  rintro e w2 ⟨a1, c1, rfl, T2, B2⟩
  have HT2 : Hid (Toks w2 a1 n ts) := T2
  clear T2
  have hb := awR_bounds ts p i0 (by have := H.out.1; omega)
  have hl := H.out.1
  rw [hl] at hb
  clear hl
  go_wp2_with fail
  refine (zzAfter_any a1 n c1 i0 p w2 ts HT2.out (by omega) hip hpn).mono ?_
  rintro e w3 ⟨he, B3⟩
  generalize awR ts p i0 = R at hb he
  subst he
  have H3 : Hid (Toks w3 ao n ts) := (H1.out.below B2).below B3
  have BW : Hid (Below w0.heap.size w0 w3) := (B1.trans (B2.mono B1.size)).trans (B3.mono (Nat.le_trans B1.size B2.size))
  clear HT2 B1 B2 B3 H1 H
  by_cases hRp : R = p
  · subst hRp
    clear hb
    go_wp2_with fail
    go_ret
    exact trueC_mk BW.out
  · rcases hb with hb | ⟨g1, g2, g3, g4⟩
    · exact absurd hb hRp
    have hRp' : ((R : Int) == (p : Int)) = false := by simp; omega
    have g1' : (i0 : Int) ≤ (R : Int) := by omega
    have g1'' : (1 : Int) ≤ (R : Int) := by omega
    clear hRp
    go_wp2_with (first | (go_at_call 23; refine (isPunctTok_any _ _ _ _ _ _ ts H3.out).mono ?_; rintro e w' ⟨rfl, rfl⟩))
    go_ret
    exact trueC_mk BW.out
end Go.Proofs.Qxb6602215a
