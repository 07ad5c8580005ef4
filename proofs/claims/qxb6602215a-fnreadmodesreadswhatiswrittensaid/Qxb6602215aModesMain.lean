import Derived.Test.Qxb6602215aReadWalk
import Derived.Test.Qxb6602215aCopies
import Derived.Test.Qxb6602215aGuards
namespace Go.Proofs.Qxb6602215a
open Go.RowKit Go.Deep
set_option linter.unusedVariables false

/-- The automaton's answer, the strings as a slice. -/
def RetSl (w : World) (ts : List Tk) (e : Ending) (w' : World) : Prop :=
  ∃ ao n c ss r ok, Hid (mfin (mrun ts ts.length) = (ss, r, ok)) ∧ e = .returned (.tuple #[.slice ao n c, .bool r, .bool ok]) ∧ StrSl w' ao n ss ∧ n ≤ ts.length ∧ Below w.heap.size w w'

theorem mfin_out (ts : List Tk) : (mfin (mrun ts ts.length)).1.length ≤ ts.length := by
  unfold mfin
  split
  · exact mrun_out ts ts.length
  · simp

theorem retSl_of {w w' : World} {ts : List Tk} {e : Ending} (h : RetModes w ts e w') : RetSl w ts e w' := by
  obtain ⟨v, he, S⟩ := h
  obtain ⟨ao, c, hv, hs⟩ := S.sl
  subst hv
  exact ⟨ao, _, c, _, _, _, rfl, he, hs, mfin_out ts, S.bel⟩

set_option maxRecDepth 100000 in
set_option maxHeartbeats 1000000 in
theorem zzRead_any (ao : Option Addr) (n c : Nat) (w : World) (ts : List Tk) (h : Toks w ao n ts) (hm : n ≤ 1048576) :
    Calls Try.prog 12 #[.slice ao n c] w (RetSl w ts) := by
  have H : Hid (Toks w ao n ts) := h
  clear h
  go_enter Try.func12, Try.ntmps12
  go_wp2_with fail
  refine (zzToks_any ao n c w ts H.out hm).mono ?_
  rintro e w1 ⟨a1, c1, rfl, T1, B1⟩
  have HT1 : Hid (Toks w1 a1 n ts) := T1
  clear T1
  go_wp2_with fail
  refine (readModes_any a1 n c1 w1 ts HT1.out hm).mono ?_
  intro e w2 hr
  obtain ⟨a2, n2, c2, ss, r, ok, hR, rfl, S2, hn2, B2⟩ := retSl_of hr
  have HS : Hid (StrSl w2 a2 n2 ss) := S2
  clear hr S2
  go_wp2_with fail
  go_ret3
  exact ⟨a2, n2, c2, ss, r, ok, hR, rfl, HS.out, hn2, B1.trans (B2.mono B1.size)⟩

set_option maxRecDepth 100000 in
set_option maxHeartbeats 2000000 in
theorem modesMain (ao : Option Addr) (n c : Nat) (w : World) (ts : List Tk) (h : Toks w ao n ts) (hm : n ≤ maxLen) :
    Calls Try.prog 3 #[.slice ao n c] w (TrueB w) := by
  have H : Hid (Toks w ao n ts) := h
  clear h
  go_enter Try.func3, Try.ntmps3
  go_wp2_with fail
  refine (zz10_any ao n c w ts H.out hm).mono ?_
  rintro e w0 ⟨b0, rfl, hb0, rfl⟩
  cases b0
  · go_wp2
    go_ret
    exact trueB_mk (Below.refl _ _)
  clear hb0
  go_wp2_with fail
  refine (tokFits_any ao n c w0 ts H.out hm).mono ?_
  rintro e w1 ⟨b1, rfl, hb1, B1⟩
  cases b1
  · go_wp2
    go_ret
    exact trueB_mk B1
  have hn : n ≤ 16384 := hb1 rfl
  clear hb1 hm
  have H1 : Hid (Toks w1 ao n ts) := H.out.below B1
  go_wp2_with fail
  refine (toZZ_any ao n c w1 ts H1.out (by omega)).mono ?_
  rintro e w2 ⟨a1, c1, rfl, T2, B2⟩
  have HT2 : Hid (Toks w2 a1 n ts) := T2
  clear T2
  go_wp2_with fail
  refine (zzRead_any a1 n c1 w2 ts HT2.out (by omega)).mono ?_
  rintro e w3 ⟨a3, n3, c3, ss, r, ok, hR, rfl, S3, hn3, B3⟩
  have HS3 : Hid (StrSl w3 a3 n3 ss) := S3
  have H3 : Hid (Toks w3 ao n ts) := (H1.out.below B2).below B3
  have BW : Hid (Below w0.heap.size w0 w3) := (B1.trans (B2.mono B1.size)).trans (B3.mono (Nat.le_trans B1.size B2.size))
  clear S3 HT2 B1 B2 B3 H1
  go_wp2_with fail
  refine (model_any ao n c w3 ts H3.out (by omega)).mono ?_
  intro e w4 hr
  obtain ⟨a4, n4, c4, ss', r', ok', hR', rfl, S4, hn4, B4⟩ := retSl_of hr
  clear hr
  have e3 := hR.out.symm.trans hR'.out
  simp only [Prod.mk.injEq] at e3
  obtain ⟨e31, e32, e33⟩ := e3
  subst e31 e32 e33
  have hl : n4 = n3 := by have := S4.1; have := HS3.out.1; omega
  subst hl
  have HS4 : Hid (StrSl w4 a4 n4 ss) := S4
  have HS5 : Hid (StrSl w4 a3 n4 ss) := HS3.out.below B4
  have BX : Hid (Below w0.heap.size w0 w4) := BW.out.trans (B4.mono BW.out.size)
  have hlen : ts.length = n := H.out.1
  have hn5 : n4 ≤ 1048576 := by omega
  clear S4 HS3 B4 BW hR hR' H H3 hlen hn3 hn4
  go_wp2_with (first | (go_at_call 15; refine (sameStrings_any _ _ _ _ _ _ ss HS5.out HS4.out hn5).mono ?_; rintro e w5 ⟨rfl, B5⟩))
  go_ret
  exact trueB_mk (BX.out.trans (B5.mono BX.out.size))
end Go.Proofs.Qxb6602215a
