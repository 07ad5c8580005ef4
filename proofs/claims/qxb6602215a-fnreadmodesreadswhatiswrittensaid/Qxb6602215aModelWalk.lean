import Derived.Test.Qxb6602215aStrs
namespace Go.Proofs.Qxb6602215a
open Go.RowKit Go.Deep
set_option linter.unusedVariables false

/-- What readModes and modesModel answer: the automaton's answer. -/
def RetModes (w : World) (ts : List Tk) (e : Ending) (w' : World) : Prop :=
  ∃ v, e = .returned (.tuple #[v, .bool (mfin (mrun ts ts.length)).2.1, .bool (mfin (mrun ts ts.length)).2.2]) ∧ StrW w w' v (mfin (mrun ts ts.length)).1

theorem retModes_fail {w w' : World} {ts : List Tk} (hb : Below w.heap.size w w') (h : mfin (mrun ts ts.length) = ([], false, false)) :
    RetModes w ts (.returned (.tuple #[.slice none 0 0, .bool false, .bool false])) w' :=
  ⟨_, by rw [h], by rw [h]; exact ⟨World.ownsRow_nil _ _ _ _, hb, by simp⟩⟩
theorem retModes_ok {w w' : World} {ts : List Tk} {v : Value} {m : MS} (h : mrun ts ts.length = m) (hs : m.st = 0 ∨ m.st = 2) (S : StrW w w' v m.out) :
    RetModes w ts (.returned (.tuple #[v, .bool m.ser, .bool true])) w' := by
  subst h
  have e : mfin (mrun ts ts.length) = ((mrun ts ts.length).out, (mrun ts ts.length).ser, true) := by simp [mfin, hs]
  exact ⟨v, by rw [e], by rw [e]; exact S⟩

set_option maxRecDepth 100000 in
set_option maxHeartbeats 4000000 in
theorem model_any (ao : Option Addr) (n c : Nat) (w : World) (ts : List Tk) (h : Toks w ao n ts) (hm : n ≤ 1048576) :
    Calls Try.prog 14 #[.slice ao n c] w (RetModes w ts) := by
  have H : Hid (Toks w ao n ts) := h
  clear h
  obtain ⟨i0, hi, hz0, hz1, hz2⟩ := info_parts Try.info9
  go_enter Try.func14, Try.ntmps14
  go_wp2
  go_loopw [5, 6, 7, 8] (fun v r s i wr => ∃ (k : Nat) (m : MS), k ≤ n ∧ mrun ts k = m ∧ i = .int .i64 k ∧ s = .int .i64 m.st ∧ r = .bool m.ser ∧ StrW w wr v m.out) (fun _ _ _ i _ => n - (intOf i).toNat)
  case atStart => exact ⟨0, ⟨0, [], false⟩, Nat.zero_le _, rfl, rfl, rfl, rfl, strW_start w⟩
  case round =>
    obtain ⟨k, ⟨s, o, r⟩, hk, hM, rfl, rfl, rfl, S⟩ := hrel
    have hst := mrun_st ts k
    have hol := mrun_out ts k
    rw [hM] at hst hol
    simp only at hst hol
    replace S : StrW w wr _ o := S
    have HM : Hid (mrun ts k = ⟨s, o, r⟩) := hM
    clear hM
    by_cases hlt : k < n
    · by_cases hs9 : s = 9
      · subst hs9
        go_wp2_with fail
        go_ret3
        exact retModes_fail S.bel (mfin_dead (k := k) (by rw [HM.out]) (by have := H.out.1; omega))
      · obtain ⟨b, ofs, t, hao, ht, T0⟩ : ∃ b o t, ao = some ⟨b, o, none⟩ ∧ Hid (ts[k]? = some t) ∧ TkAt w b (o + k * 5) t := by
          obtain ⟨hl, h0 | ⟨b, o, ha, hc⟩⟩ := H.out
          · omega
          · have hk' : k < ts.length := by omega
            exact ⟨b, o, ts[k], ha, List.getElem?_eq_getElem hk', hc k _ (List.getElem?_eq_getElem hk')⟩
        subst hao
        obtain ⟨c0, c1, c2, c3, c4⟩ := T0.below T0.lt S.bel
        clear T0
        have eg : ts.getD k Tk.zero = t := by simp [List.getD, ht.out]
        have HW : Hid (wordAt ts k = wordOf t) := by show wordAt ts k = _; rw [wordAt, eg]
        have HC : Hid (commaAt ts k = commaOf t) := by show commaAt ts k = _; rw [commaAt, eg]
        clear eg ht
        rcases (show s = 0 ∨ s = 1 ∨ s = 2 ∨ s = 3 ∨ s = 4 ∨ s = 5 ∨ s = 6 ∨ s = 7 ∨ s = 8 by omega) with rfl | rfl | rfl | rfl | rfl | rfl | rfl | rfl | rfl
        all_goals clear hst hs9
        all_goals
          cases hw : t.word
          · rw [hw] at c0
            have HW' : Hid (wordAt ts k = []) := by show wordAt ts k = []; rw [HW.out, wordOf, hw]; rfl
            have HC' : Hid (commaAt ts k = (t.text.toList == [44])) := by show commaAt ts k = _; rw [HC.out, commaOf, hw]; rfl
            clear HW HC
            go_wp2_with fail
            all_goals
              go_roundw
              case rel =>
                refine ⟨k + 1, ⟨_, _, _⟩, by omega, ?_, by go_num, rfl, rfl, S⟩
                go_light
                rw [mrun_succ, HM.out, HW'.out, HC'.out]
                simp [mstep, mhead, kIso, kLevel, kSer, kRep, kRead, kCom, kUnc, kOnly, kWrite, kDef, kNot, *]
              case measure => simp [intOf]; omega
          · rw [hw] at c0
            have HW' : Hid (wordAt ts k = t.text.toList) := by show wordAt ts k = _; rw [HW.out, wordOf, hw]; rfl
            have HC' : Hid (commaAt ts k = false) := by show commaAt ts k = _; rw [HC.out, commaOf, hw]; rfl
            clear HW HC
            go_wp2_with (first
              | (at_builtin; refine wpList_append_own _ rfl (.tmp 64) (.tmp 65) 24 rfl w.heap.size 9 i0 _ 1 16 Try.underlying24 hi hz0 hz1 hz2 rfl (by decide) _ _ _ rfl (S.alloc _).own ⟨wr.heap.size, 0, none⟩ 1 1 [.string mD] rfl rfl (one_new rfl) one_str (by unfold maxLen; omega) (by omega) (S.alloc _).bel.size ?_; intro v' w1 hown' hgrow hnil; have P := (S.alloc _).push hown' hgrow hnil; clear hown' hgrow hnil)
              | (at_builtin; refine wpList_append_own _ rfl (.tmp 95) (.tmp 96) 24 rfl w.heap.size 9 i0 _ 1 16 Try.underlying24 hi hz0 hz1 hz2 rfl (by decide) _ _ _ rfl (S.alloc _).own ⟨wr.heap.size, 0, none⟩ 1 1 [.string mRO] rfl rfl (one_new rfl) one_str (by unfold maxLen; omega) (by omega) (S.alloc _).bel.size ?_; intro v' w1 hown' hgrow hnil; have P := (S.alloc _).push hown' hgrow hnil; clear hown' hgrow hnil)
              | (at_builtin; refine wpList_append_own _ rfl (.tmp 100) (.tmp 101) 24 rfl w.heap.size 9 i0 _ 1 16 Try.underlying24 hi hz0 hz1 hz2 rfl (by decide) _ _ _ rfl (S.alloc _).own ⟨wr.heap.size, 0, none⟩ 1 1 [.string mRW] rfl rfl (one_new rfl) one_str (by unfold maxLen; omega) (by omega) (S.alloc _).bel.size ?_; intro v' w1 hown' hgrow hnil; have P := (S.alloc _).push hown' hgrow hnil; clear hown' hgrow hnil)
              | (at_builtin; refine wpList_append_own _ rfl (.tmp 107) (.tmp 108) 24 rfl w.heap.size 9 i0 _ 1 16 Try.underlying24 hi hz0 hz1 hz2 rfl (by decide) _ _ _ rfl (S.alloc _).own ⟨wr.heap.size, 0, none⟩ 1 1 [.string mND] rfl rfl (one_new rfl) one_str (by unfold maxLen; omega) (by omega) (S.alloc _).bel.size ?_; intro v' w1 hown' hgrow hnil; have P := (S.alloc _).push hown' hgrow hnil; clear hown' hgrow hnil))
            all_goals
              go_roundw
              case rel =>
                first
                  | refine ⟨k + 1, ⟨_, _, _⟩, by omega, ?_, by go_num, rfl, rfl, P⟩
                  | refine ⟨k + 1, ⟨_, _, _⟩, by omega, ?_, by go_num, rfl, rfl, S⟩
                go_light
                rw [mrun_succ, HM.out, HW'.out, HC'.out]
                simp [mstep, mhead, kIso, kLevel, kSer, kRep, kRead, kCom, kUnc, kOnly, kWrite, kDef, kNot, *] <;> simp_all
              case measure => simp [intOf]; omega
    · have hkn : k = ts.length := by have := H.out.1; omega
      have HK : Hid (k = ts.length) := hkn
      clear hkn
      by_cases h0 : s = 0
      · subst h0
        go_wp2_with fail
        go_ret3
        exact retModes_ok (m := ⟨0, o, r⟩) (by rw [← HK.out]; exact HM.out) (Or.inl rfl) S
      · by_cases h2 : s = 2
        · subst h2
          go_wp2_with fail
          go_ret3
          exact retModes_ok (m := ⟨2, o, r⟩) (by rw [← HK.out]; exact HM.out) (Or.inr rfl) S
        · have e0 : (s == 0) = false := by simp; omega
          have e2 : (s == 2) = false := by simp; omega
          go_wp2_with fail
          go_ret3
          refine retModes_fail S.bel ?_
          rw [← HK.out, HM.out]
          simp [mfin, h0, h2]
end Go.Proofs.Qxb6602215a
