import Derived.Test.Qxb6602215aModelWalk
import Derived.Test.Qxb6602215aHeads
namespace Go.Proofs.Qxb6602215a
open Go.RowKit Go.Deep
set_option linter.unusedVariables false
theorem Toks.at3 {w : World} {ao : Option Addr} {n : Nat} {ts : List Tk} (h : Toks w ao n ts) {k : Nat} (hk : k < n) :
    ∃ b o t, ao = some ⟨b, o, none⟩ ∧ Hid (ts[k]? = some t) ∧ TkAt w b (o + k * 5) t := by
  obtain ⟨hl, h0 | ⟨b, o, ha, hc⟩⟩ := h
  · omega
  · have hk' : k < ts.length := by omega
    exact ⟨b, o, ts[k], ha, List.getElem?_eq_getElem hk', hc k _ (List.getElem?_eq_getElem hk')⟩
theorem comma_word {ts : List Tk} {j : Nat} {t : Tk} (ht : Hid (ts[j]? = some t)) (h : t.word = true) : commaAt ts j = false := by
  rw [commaAt_eq ht, h]; rfl
theorem comma_yes {ts : List Tk} {j : Nat} {t : Tk} (ht : Hid (ts[j]? = some t)) (h : ¬ t.word = true) (h2 : (t.text.toList == [44]) = true) : commaAt ts j = true := by
  rw [commaAt_eq ht, h2]; simpa using h
theorem comma_no {ts : List Tk} {j : Nat} {t : Tk} (ht : Hid (ts[j]? = some t)) (h2 : (t.text.toList == [44]) = false) : commaAt ts j = false := by
  rw [commaAt_eq ht, h2]; simp
theorem jn_yes {j n : Nat} (h : ((j : Int) + 1 == (n : Int)) = true) : j + 1 = n := by
  have := eq_of_beq h; omega
theorem jn_no {j n : Nat} (h : ((j : Int) + 1 == (n : Int)) = false) (hj : j < n) : j + 1 < n := by
  have : ¬ ((j : Int) + 1 = (n : Int)) := fun e => by rw [e] at h; simp at h
  omega
set_option maxRecDepth 100000 in
set_option maxHeartbeats 16000000 in
theorem readModes_any (ao : Option Addr) (n c : Nat) (w : World) (ts : List Tk) (h : Toks w ao n ts) (hm : n ≤ 1048576) :
    Calls Try.prog 28 #[.slice ao n c] w (RetModes w ts) := by
  have H : Hid (Toks w ao n ts) := h
  clear h
  obtain ⟨i0, hi, hz0, hz1, hz2⟩ := info_parts Try.info9
  go_enter Try.func28, Try.ntmps28
  go_wp2
  go_loopw [2, 3, 5] (fun v r i wr => ∃ (k : Nat) (m : MS), k ≤ n ∧ Hid (Head ts n k m) ∧ i = .int .i64 k ∧ r = .bool m.ser ∧ StrW w wr v m.out) (fun _ _ i _ => n - (intOf i).toNat)
  case atStart => exact ⟨0, ⟨0, [], false⟩, Nat.zero_le _, head_start ts n, rfl, rfl, strW_start w⟩
  case round =>
    obtain ⟨k, ⟨s, o, r⟩, hk, Hd, rfl, rfl, S⟩ := hrel
    have hol := mrun_out ts k
    rw [Hd.out.run] at hol
    simp only at hol
    replace S : StrW w wr _ o := S
    by_cases hlt : k < n
    · by_cases w0 : wordAt ts k = kIso
      · by_cases w1 : wordAt ts (k + 1) = kLevel
        · by_cases w2 : wordAt ts (k + 2) = kSer
          · skip
            have f1 : isWordL ts (k : Int) [105, 115, 111, 108, 97, 116, 105, 111, 110] = true := isW_yes (j := k) (by omega) w0
            have f2 : isWordL ts (k : Int) [114, 101, 97, 100] = false := isW_no (j := k) (by omega) (ne_of w0 (by decide))
            have f3 : isWordL ts (k : Int) [100, 101, 102, 101, 114, 114, 97, 98, 108, 101] = false := isW_no (j := k) (by omega) (ne_of w0 (by decide))
            have f4 : isWordL ts (k : Int) [110, 111, 116] = false := isW_no (j := k) (by omega) (ne_of w0 (by decide))
            have f5 : isWordL ts ((k : Int) + 1) [108, 101, 118, 101, 108] = true := isW_yes (j := (k + 1)) (by omega) w1
            have f6 : isWordL ts ((k : Int) + 1) [111, 110, 108, 121] = false := isW_no (j := (k + 1)) (by omega) (ne_of w1 (by decide))
            have f7 : isWordL ts ((k : Int) + 1) [119, 114, 105, 116, 101] = false := isW_no (j := (k + 1)) (by omega) (ne_of w1 (by decide))
            have f8 : isWordL ts ((k : Int) + 1) [100, 101, 102, 101, 114, 114, 97, 98, 108, 101] = false := isW_no (j := (k + 1)) (by omega) (ne_of w1 (by decide))
            have f9 : isWordL ts ((k : Int) + 2) [115, 101, 114, 105, 97, 108, 105, 122, 97, 98, 108, 101] = true := isW_yes (j := (k + 2)) (by omega) w2
            have f10 : isWordL ts ((k : Int) + 2) [114, 101, 112, 101, 97, 116, 97, 98, 108, 101] = false := isW_no (j := (k + 2)) (by omega) (ne_of w2 (by decide))
            have f11 : isWordL ts ((k : Int) + 2) [114, 101, 97, 100] = false := isW_no (j := (k + 2)) (by omega) (ne_of w2 (by decide))
            have R : Hid (mrun ts (k + 3) = ⟨2, o, true⟩) := leaf_ser Hd.out w0 w1 w2
            have hjl : k + 3 ≤ n := by have := lt_of_word (j := k + 2) w2; have := H.out.1; omega
            clear w0 w1 w2 Hd
            obtain ⟨j, hj⟩ : ∃ j, j = k + 3 := ⟨_, rfl⟩
            have hje : (k : Int) + 2 + 1 = (j : Int) := by omega
            rw [← hj] at R hjl
            have HJ : Hid (j = k + 3) := hj
            clear hj
            by_cases hjn : j < n
            · obtain ⟨b, ofs, t, hao, ht, T0⟩ := H.out.at3 hjn
              subst hao
              obtain ⟨c0, c1, _, _, _⟩ := T0.below T0.lt S.bel
              go_wp2_with (first | (go_at_call 32; refine (isWord_any _ _ _ _ _ _ ts (H.out.below S.bel)).mono ?_; rintro e w' ⟨rfl, rfl⟩))
              · go_roundw
                case rel => exact ⟨j, ⟨2, _, _⟩, by omega, head_plain R.out (comma_word ht ‹t.word = true›), rfl, rfl, S⟩
                case measure => have := HJ.out; simp [intOf]; omega
              · go_ret3
                exact retModes_fail S.bel (by rw [H.out.1]; exact fail_comma R.out (comma_yes ht ‹¬ t.word = true› ‹(t.text.toList == [44]) = true›) (jn_yes ‹((j : Int) + 1 == (n : Int)) = true›))
              · go_roundw
                case rel => exact ⟨j + 1, ⟨1, _, _⟩, by omega, head_comma R.out (comma_yes ht ‹¬ t.word = true› ‹(t.text.toList == [44]) = true›) (jn_no ‹((j : Int) + 1 == (n : Int)) = false› hjn), by go_num, rfl, S⟩
                case measure => have := HJ.out; simp [intOf]; omega
              · go_roundw
                case rel => exact ⟨j, ⟨2, _, _⟩, by omega, head_plain R.out (comma_no ht ‹(t.text.toList == [44]) = false›), rfl, rfl, S⟩
                case measure => have := HJ.out; simp [intOf]; omega
            · have hc : commaAt ts j = false := commaAt_out (by have := H.out.1; omega)
              have HC : Hid (commaAt ts j = false) := hc
              clear hc
              go_wp2_with (first | (go_at_call 32; refine (isWord_any _ _ _ _ _ _ ts (H.out.below S.bel)).mono ?_; rintro e w' ⟨rfl, rfl⟩))
              go_roundw
              case rel => exact ⟨j, ⟨2, _, _⟩, by omega, head_plain R.out HC.out, rfl, rfl, S⟩
              case measure => have := HJ.out; simp [intOf]; omega
          · by_cases w2r : wordAt ts (k + 2) = kRep
            · by_cases w3 : wordAt ts (k + 3) = kRead
              · have w2 := w2r
                clear w2r
                have f1 : isWordL ts (k : Int) [105, 115, 111, 108, 97, 116, 105, 111, 110] = true := isW_yes (j := k) (by omega) w0
                have f2 : isWordL ts (k : Int) [114, 101, 97, 100] = false := isW_no (j := k) (by omega) (ne_of w0 (by decide))
                have f3 : isWordL ts (k : Int) [100, 101, 102, 101, 114, 114, 97, 98, 108, 101] = false := isW_no (j := k) (by omega) (ne_of w0 (by decide))
                have f4 : isWordL ts (k : Int) [110, 111, 116] = false := isW_no (j := k) (by omega) (ne_of w0 (by decide))
                have f5 : isWordL ts ((k : Int) + 1) [108, 101, 118, 101, 108] = true := isW_yes (j := (k + 1)) (by omega) w1
                have f6 : isWordL ts ((k : Int) + 1) [111, 110, 108, 121] = false := isW_no (j := (k + 1)) (by omega) (ne_of w1 (by decide))
                have f7 : isWordL ts ((k : Int) + 1) [119, 114, 105, 116, 101] = false := isW_no (j := (k + 1)) (by omega) (ne_of w1 (by decide))
                have f8 : isWordL ts ((k : Int) + 1) [100, 101, 102, 101, 114, 114, 97, 98, 108, 101] = false := isW_no (j := (k + 1)) (by omega) (ne_of w1 (by decide))
                have f9 : isWordL ts ((k : Int) + 2) [115, 101, 114, 105, 97, 108, 105, 122, 97, 98, 108, 101] = false := isW_no (j := (k + 2)) (by omega) (ne_of w2 (by decide))
                have f10 : isWordL ts ((k : Int) + 2) [114, 101, 112, 101, 97, 116, 97, 98, 108, 101] = true := isW_yes (j := (k + 2)) (by omega) w2
                have f11 : isWordL ts ((k : Int) + 2) [114, 101, 97, 100] = false := isW_no (j := (k + 2)) (by omega) (ne_of w2 (by decide))
                have f12 : isWordL ts ((k : Int) + 2 + 1) [114, 101, 97, 100] = true := isW_yes (j := (k + 3)) (by omega) w3
                have f13 : isWordL ts ((k : Int) + 2 + 1) [99, 111, 109, 109, 105, 116, 116, 101, 100] = false := isW_no (j := (k + 3)) (by omega) (ne_of w3 (by decide))
                have f14 : isWordL ts ((k : Int) + 2 + 1) [117, 110, 99, 111, 109, 109, 105, 116, 116, 101, 100] = false := isW_no (j := (k + 3)) (by omega) (ne_of w3 (by decide))
                have R : Hid (mrun ts (k + 4) = ⟨2, o, false⟩) := leaf_rep Hd.out w0 w1 w2 w3
                have hjl : k + 4 ≤ n := by have := lt_of_word (j := k + 3) w3; have := H.out.1; omega
                clear w0 w1 w2 w3 Hd
                obtain ⟨j, hj⟩ : ∃ j, j = k + 4 := ⟨_, rfl⟩
                have hje : (k : Int) + 2 + 2 = (j : Int) := by omega
                rw [← hj] at R hjl
                have HJ : Hid (j = k + 4) := hj
                clear hj
                by_cases hjn : j < n
                · obtain ⟨b, ofs, t, hao, ht, T0⟩ := H.out.at3 hjn
                  subst hao
                  obtain ⟨c0, c1, _, _, _⟩ := T0.below T0.lt S.bel
                  go_wp2_with (first | (go_at_call 32; refine (isWord_any _ _ _ _ _ _ ts (H.out.below S.bel)).mono ?_; rintro e w' ⟨rfl, rfl⟩))
                  · go_roundw
                    case rel => exact ⟨j, ⟨2, _, _⟩, by omega, head_plain R.out (comma_word ht ‹t.word = true›), rfl, rfl, S⟩
                    case measure => have := HJ.out; simp [intOf]; omega
                  · go_ret3
                    exact retModes_fail S.bel (by rw [H.out.1]; exact fail_comma R.out (comma_yes ht ‹¬ t.word = true› ‹(t.text.toList == [44]) = true›) (jn_yes ‹((j : Int) + 1 == (n : Int)) = true›))
                  · go_roundw
                    case rel => exact ⟨j + 1, ⟨1, _, _⟩, by omega, head_comma R.out (comma_yes ht ‹¬ t.word = true› ‹(t.text.toList == [44]) = true›) (jn_no ‹((j : Int) + 1 == (n : Int)) = false› hjn), by go_num, rfl, S⟩
                    case measure => have := HJ.out; simp [intOf]; omega
                  · go_roundw
                    case rel => exact ⟨j, ⟨2, _, _⟩, by omega, head_plain R.out (comma_no ht ‹(t.text.toList == [44]) = false›), rfl, rfl, S⟩
                    case measure => have := HJ.out; simp [intOf]; omega
                · have hc : commaAt ts j = false := commaAt_out (by have := H.out.1; omega)
                  have HC : Hid (commaAt ts j = false) := hc
                  clear hc
                  go_wp2_with (first | (go_at_call 32; refine (isWord_any _ _ _ _ _ _ ts (H.out.below S.bel)).mono ?_; rintro e w' ⟨rfl, rfl⟩))
                  go_roundw
                  case rel => exact ⟨j, ⟨2, _, _⟩, by omega, head_plain R.out HC.out, rfl, rfl, S⟩
                  case measure => have := HJ.out; simp [intOf]; omega
              · have v0 := w3
                have w2 := w2r
                clear w2r w3
                have f1 : isWordL ts (k : Int) [105, 115, 111, 108, 97, 116, 105, 111, 110] = true := isW_yes (j := k) (by omega) w0
                have f2 : isWordL ts (k : Int) [114, 101, 97, 100] = false := isW_no (j := k) (by omega) (ne_of w0 (by decide))
                have f3 : isWordL ts (k : Int) [100, 101, 102, 101, 114, 114, 97, 98, 108, 101] = false := isW_no (j := k) (by omega) (ne_of w0 (by decide))
                have f4 : isWordL ts (k : Int) [110, 111, 116] = false := isW_no (j := k) (by omega) (ne_of w0 (by decide))
                have f5 : isWordL ts ((k : Int) + 1) [108, 101, 118, 101, 108] = true := isW_yes (j := (k + 1)) (by omega) w1
                have f6 : isWordL ts ((k : Int) + 1) [111, 110, 108, 121] = false := isW_no (j := (k + 1)) (by omega) (ne_of w1 (by decide))
                have f7 : isWordL ts ((k : Int) + 1) [119, 114, 105, 116, 101] = false := isW_no (j := (k + 1)) (by omega) (ne_of w1 (by decide))
                have f8 : isWordL ts ((k : Int) + 1) [100, 101, 102, 101, 114, 114, 97, 98, 108, 101] = false := isW_no (j := (k + 1)) (by omega) (ne_of w1 (by decide))
                have f9 : isWordL ts ((k : Int) + 2) [115, 101, 114, 105, 97, 108, 105, 122, 97, 98, 108, 101] = false := isW_no (j := (k + 2)) (by omega) (ne_of w2 (by decide))
                have f10 : isWordL ts ((k : Int) + 2) [114, 101, 112, 101, 97, 116, 97, 98, 108, 101] = true := isW_yes (j := (k + 2)) (by omega) w2
                have f11 : isWordL ts ((k : Int) + 2) [114, 101, 97, 100] = false := isW_no (j := (k + 2)) (by omega) (ne_of w2 (by decide))
                have f12 : isWordL ts ((k : Int) + 2 + 1) [114, 101, 97, 100] = false := isW_no (j := (k + 3)) (by omega) v0
                have FF : Hid (mfin (mrun ts n) = ([], false, false)) := fail_rep H.out.1 Hd.out w0 w1 w2 v0
                clear w0 w1 w2 v0 Hd
                go_wp2_with (first | (go_at_call 32; refine (isWord_any _ _ _ _ _ _ ts (H.out.below S.bel)).mono ?_; rintro e w' ⟨rfl, rfl⟩))
                go_ret3
                exact retModes_fail S.bel (by rw [H.out.1]; exact FF.out)
            · by_cases w2d : wordAt ts (k + 2) = kRead
              · by_cases w3 : wordAt ts (k + 3) = kCom
                · have w2 := w2d
                  clear w2d w2r
                  have f1 : isWordL ts (k : Int) [105, 115, 111, 108, 97, 116, 105, 111, 110] = true := isW_yes (j := k) (by omega) w0
                  have f2 : isWordL ts (k : Int) [114, 101, 97, 100] = false := isW_no (j := k) (by omega) (ne_of w0 (by decide))
                  have f3 : isWordL ts (k : Int) [100, 101, 102, 101, 114, 114, 97, 98, 108, 101] = false := isW_no (j := k) (by omega) (ne_of w0 (by decide))
                  have f4 : isWordL ts (k : Int) [110, 111, 116] = false := isW_no (j := k) (by omega) (ne_of w0 (by decide))
                  have f5 : isWordL ts ((k : Int) + 1) [108, 101, 118, 101, 108] = true := isW_yes (j := (k + 1)) (by omega) w1
                  have f6 : isWordL ts ((k : Int) + 1) [111, 110, 108, 121] = false := isW_no (j := (k + 1)) (by omega) (ne_of w1 (by decide))
                  have f7 : isWordL ts ((k : Int) + 1) [119, 114, 105, 116, 101] = false := isW_no (j := (k + 1)) (by omega) (ne_of w1 (by decide))
                  have f8 : isWordL ts ((k : Int) + 1) [100, 101, 102, 101, 114, 114, 97, 98, 108, 101] = false := isW_no (j := (k + 1)) (by omega) (ne_of w1 (by decide))
                  have f9 : isWordL ts ((k : Int) + 2) [115, 101, 114, 105, 97, 108, 105, 122, 97, 98, 108, 101] = false := isW_no (j := (k + 2)) (by omega) (ne_of w2 (by decide))
                  have f10 : isWordL ts ((k : Int) + 2) [114, 101, 112, 101, 97, 116, 97, 98, 108, 101] = false := isW_no (j := (k + 2)) (by omega) (ne_of w2 (by decide))
                  have f11 : isWordL ts ((k : Int) + 2) [114, 101, 97, 100] = true := isW_yes (j := (k + 2)) (by omega) w2
                  have f12 : isWordL ts ((k : Int) + 2 + 1) [114, 101, 97, 100] = false := isW_no (j := (k + 3)) (by omega) (ne_of w3 (by decide))
                  have f13 : isWordL ts ((k : Int) + 2 + 1) [99, 111, 109, 109, 105, 116, 116, 101, 100] = true := isW_yes (j := (k + 3)) (by omega) w3
                  have f14 : isWordL ts ((k : Int) + 2 + 1) [117, 110, 99, 111, 109, 109, 105, 116, 116, 101, 100] = false := isW_no (j := (k + 3)) (by omega) (ne_of w3 (by decide))
                  have R : Hid (mrun ts (k + 4) = ⟨2, o, false⟩) := leaf_com Hd.out w0 w1 w2 w3
                  have hjl : k + 4 ≤ n := by have := lt_of_word (j := k + 3) w3; have := H.out.1; omega
                  clear w0 w1 w2 w3 Hd
                  obtain ⟨j, hj⟩ : ∃ j, j = k + 4 := ⟨_, rfl⟩
                  have hje : (k : Int) + 2 + 2 = (j : Int) := by omega
                  rw [← hj] at R hjl
                  have HJ : Hid (j = k + 4) := hj
                  clear hj
                  by_cases hjn : j < n
                  · obtain ⟨b, ofs, t, hao, ht, T0⟩ := H.out.at3 hjn
                    subst hao
                    obtain ⟨c0, c1, _, _, _⟩ := T0.below T0.lt S.bel
                    go_wp2_with (first | (go_at_call 32; refine (isWord_any _ _ _ _ _ _ ts (H.out.below S.bel)).mono ?_; rintro e w' ⟨rfl, rfl⟩))
                    · go_roundw
                      case rel => exact ⟨j, ⟨2, _, _⟩, by omega, head_plain R.out (comma_word ht ‹t.word = true›), rfl, rfl, S⟩
                      case measure => have := HJ.out; simp [intOf]; omega
                    · go_ret3
                      exact retModes_fail S.bel (by rw [H.out.1]; exact fail_comma R.out (comma_yes ht ‹¬ t.word = true› ‹(t.text.toList == [44]) = true›) (jn_yes ‹((j : Int) + 1 == (n : Int)) = true›))
                    · go_roundw
                      case rel => exact ⟨j + 1, ⟨1, _, _⟩, by omega, head_comma R.out (comma_yes ht ‹¬ t.word = true› ‹(t.text.toList == [44]) = true›) (jn_no ‹((j : Int) + 1 == (n : Int)) = false› hjn), by go_num, rfl, S⟩
                      case measure => have := HJ.out; simp [intOf]; omega
                    · go_roundw
                      case rel => exact ⟨j, ⟨2, _, _⟩, by omega, head_plain R.out (comma_no ht ‹(t.text.toList == [44]) = false›), rfl, rfl, S⟩
                      case measure => have := HJ.out; simp [intOf]; omega
                  · have hc : commaAt ts j = false := commaAt_out (by have := H.out.1; omega)
                    have HC : Hid (commaAt ts j = false) := hc
                    clear hc
                    go_wp2_with (first | (go_at_call 32; refine (isWord_any _ _ _ _ _ _ ts (H.out.below S.bel)).mono ?_; rintro e w' ⟨rfl, rfl⟩))
                    go_roundw
                    case rel => exact ⟨j, ⟨2, _, _⟩, by omega, head_plain R.out HC.out, rfl, rfl, S⟩
                    case measure => have := HJ.out; simp [intOf]; omega
                · by_cases w3u : wordAt ts (k + 3) = kUnc
                  · have w2 := w2d
                    have w3 := w3u
                    clear w2d w2r w3u
                    have f1 : isWordL ts (k : Int) [105, 115, 111, 108, 97, 116, 105, 111, 110] = true := isW_yes (j := k) (by omega) w0
                    have f2 : isWordL ts (k : Int) [114, 101, 97, 100] = false := isW_no (j := k) (by omega) (ne_of w0 (by decide))
                    have f3 : isWordL ts (k : Int) [100, 101, 102, 101, 114, 114, 97, 98, 108, 101] = false := isW_no (j := k) (by omega) (ne_of w0 (by decide))
                    have f4 : isWordL ts (k : Int) [110, 111, 116] = false := isW_no (j := k) (by omega) (ne_of w0 (by decide))
                    have f5 : isWordL ts ((k : Int) + 1) [108, 101, 118, 101, 108] = true := isW_yes (j := (k + 1)) (by omega) w1
                    have f6 : isWordL ts ((k : Int) + 1) [111, 110, 108, 121] = false := isW_no (j := (k + 1)) (by omega) (ne_of w1 (by decide))
                    have f7 : isWordL ts ((k : Int) + 1) [119, 114, 105, 116, 101] = false := isW_no (j := (k + 1)) (by omega) (ne_of w1 (by decide))
                    have f8 : isWordL ts ((k : Int) + 1) [100, 101, 102, 101, 114, 114, 97, 98, 108, 101] = false := isW_no (j := (k + 1)) (by omega) (ne_of w1 (by decide))
                    have f9 : isWordL ts ((k : Int) + 2) [115, 101, 114, 105, 97, 108, 105, 122, 97, 98, 108, 101] = false := isW_no (j := (k + 2)) (by omega) (ne_of w2 (by decide))
                    have f10 : isWordL ts ((k : Int) + 2) [114, 101, 112, 101, 97, 116, 97, 98, 108, 101] = false := isW_no (j := (k + 2)) (by omega) (ne_of w2 (by decide))
                    have f11 : isWordL ts ((k : Int) + 2) [114, 101, 97, 100] = true := isW_yes (j := (k + 2)) (by omega) w2
                    have f12 : isWordL ts ((k : Int) + 2 + 1) [114, 101, 97, 100] = false := isW_no (j := (k + 3)) (by omega) (ne_of w3 (by decide))
                    have f13 : isWordL ts ((k : Int) + 2 + 1) [99, 111, 109, 109, 105, 116, 116, 101, 100] = false := isW_no (j := (k + 3)) (by omega) (ne_of w3 (by decide))
                    have f14 : isWordL ts ((k : Int) + 2 + 1) [117, 110, 99, 111, 109, 109, 105, 116, 116, 101, 100] = true := isW_yes (j := (k + 3)) (by omega) w3
                    have R : Hid (mrun ts (k + 4) = ⟨2, o, false⟩) := leaf_unc Hd.out w0 w1 w2 w3
                    have hjl : k + 4 ≤ n := by have := lt_of_word (j := k + 3) w3; have := H.out.1; omega
                    clear w0 w1 w2 w3 Hd
                    obtain ⟨j, hj⟩ : ∃ j, j = k + 4 := ⟨_, rfl⟩
                    have hje : (k : Int) + 2 + 2 = (j : Int) := by omega
                    rw [← hj] at R hjl
                    have HJ : Hid (j = k + 4) := hj
                    clear hj
                    by_cases hjn : j < n
                    · obtain ⟨b, ofs, t, hao, ht, T0⟩ := H.out.at3 hjn
                      subst hao
                      obtain ⟨c0, c1, _, _, _⟩ := T0.below T0.lt S.bel
                      go_wp2_with (first | (go_at_call 32; refine (isWord_any _ _ _ _ _ _ ts (H.out.below S.bel)).mono ?_; rintro e w' ⟨rfl, rfl⟩))
                      · go_roundw
                        case rel => exact ⟨j, ⟨2, _, _⟩, by omega, head_plain R.out (comma_word ht ‹t.word = true›), rfl, rfl, S⟩
                        case measure => have := HJ.out; simp [intOf]; omega
                      · go_ret3
                        exact retModes_fail S.bel (by rw [H.out.1]; exact fail_comma R.out (comma_yes ht ‹¬ t.word = true› ‹(t.text.toList == [44]) = true›) (jn_yes ‹((j : Int) + 1 == (n : Int)) = true›))
                      · go_roundw
                        case rel => exact ⟨j + 1, ⟨1, _, _⟩, by omega, head_comma R.out (comma_yes ht ‹¬ t.word = true› ‹(t.text.toList == [44]) = true›) (jn_no ‹((j : Int) + 1 == (n : Int)) = false› hjn), by go_num, rfl, S⟩
                        case measure => have := HJ.out; simp [intOf]; omega
                      · go_roundw
                        case rel => exact ⟨j, ⟨2, _, _⟩, by omega, head_plain R.out (comma_no ht ‹(t.text.toList == [44]) = false›), rfl, rfl, S⟩
                        case measure => have := HJ.out; simp [intOf]; omega
                    · have hc : commaAt ts j = false := commaAt_out (by have := H.out.1; omega)
                      have HC : Hid (commaAt ts j = false) := hc
                      clear hc
                      go_wp2_with (first | (go_at_call 32; refine (isWord_any _ _ _ _ _ _ ts (H.out.below S.bel)).mono ?_; rintro e w' ⟨rfl, rfl⟩))
                      go_roundw
                      case rel => exact ⟨j, ⟨2, _, _⟩, by omega, head_plain R.out HC.out, rfl, rfl, S⟩
                      case measure => have := HJ.out; simp [intOf]; omega
                  · have v0 := w3
                    have v1 := w3u
                    have w2 := w2d
                    clear w2d w2r w3 w3u
                    have f1 : isWordL ts (k : Int) [105, 115, 111, 108, 97, 116, 105, 111, 110] = true := isW_yes (j := k) (by omega) w0
                    have f2 : isWordL ts (k : Int) [114, 101, 97, 100] = false := isW_no (j := k) (by omega) (ne_of w0 (by decide))
                    have f3 : isWordL ts (k : Int) [100, 101, 102, 101, 114, 114, 97, 98, 108, 101] = false := isW_no (j := k) (by omega) (ne_of w0 (by decide))
                    have f4 : isWordL ts (k : Int) [110, 111, 116] = false := isW_no (j := k) (by omega) (ne_of w0 (by decide))
                    have f5 : isWordL ts ((k : Int) + 1) [108, 101, 118, 101, 108] = true := isW_yes (j := (k + 1)) (by omega) w1
                    have f6 : isWordL ts ((k : Int) + 1) [111, 110, 108, 121] = false := isW_no (j := (k + 1)) (by omega) (ne_of w1 (by decide))
                    have f7 : isWordL ts ((k : Int) + 1) [119, 114, 105, 116, 101] = false := isW_no (j := (k + 1)) (by omega) (ne_of w1 (by decide))
                    have f8 : isWordL ts ((k : Int) + 1) [100, 101, 102, 101, 114, 114, 97, 98, 108, 101] = false := isW_no (j := (k + 1)) (by omega) (ne_of w1 (by decide))
                    have f9 : isWordL ts ((k : Int) + 2) [115, 101, 114, 105, 97, 108, 105, 122, 97, 98, 108, 101] = false := isW_no (j := (k + 2)) (by omega) (ne_of w2 (by decide))
                    have f10 : isWordL ts ((k : Int) + 2) [114, 101, 112, 101, 97, 116, 97, 98, 108, 101] = false := isW_no (j := (k + 2)) (by omega) (ne_of w2 (by decide))
                    have f11 : isWordL ts ((k : Int) + 2) [114, 101, 97, 100] = true := isW_yes (j := (k + 2)) (by omega) w2
                    have f12 : isWordL ts ((k : Int) + 2 + 1) [99, 111, 109, 109, 105, 116, 116, 101, 100] = false := isW_no (j := (k + 3)) (by omega) v0
                    have f13 : isWordL ts ((k : Int) + 2 + 1) [117, 110, 99, 111, 109, 109, 105, 116, 116, 101, 100] = false := isW_no (j := (k + 3)) (by omega) v1
                    have FF : Hid (mfin (mrun ts n) = ([], false, false)) := fail_lread H.out.1 Hd.out w0 w1 w2 v0 v1
                    clear w0 w1 w2 v0 v1 Hd
                    go_wp2_with (first | (go_at_call 32; refine (isWord_any _ _ _ _ _ _ ts (H.out.below S.bel)).mono ?_; rintro e w' ⟨rfl, rfl⟩))
                    go_ret3
                    exact retModes_fail S.bel (by rw [H.out.1]; exact FF.out)
              · have v0 := w2
                have v1 := w2r
                have v2 := w2d
                clear w2 w2r w2d
                have f1 : isWordL ts (k : Int) [105, 115, 111, 108, 97, 116, 105, 111, 110] = true := isW_yes (j := k) (by omega) w0
                have f2 : isWordL ts (k : Int) [114, 101, 97, 100] = false := isW_no (j := k) (by omega) (ne_of w0 (by decide))
                have f3 : isWordL ts (k : Int) [100, 101, 102, 101, 114, 114, 97, 98, 108, 101] = false := isW_no (j := k) (by omega) (ne_of w0 (by decide))
                have f4 : isWordL ts (k : Int) [110, 111, 116] = false := isW_no (j := k) (by omega) (ne_of w0 (by decide))
                have f5 : isWordL ts ((k : Int) + 1) [108, 101, 118, 101, 108] = true := isW_yes (j := (k + 1)) (by omega) w1
                have f6 : isWordL ts ((k : Int) + 1) [111, 110, 108, 121] = false := isW_no (j := (k + 1)) (by omega) (ne_of w1 (by decide))
                have f7 : isWordL ts ((k : Int) + 1) [119, 114, 105, 116, 101] = false := isW_no (j := (k + 1)) (by omega) (ne_of w1 (by decide))
                have f8 : isWordL ts ((k : Int) + 1) [100, 101, 102, 101, 114, 114, 97, 98, 108, 101] = false := isW_no (j := (k + 1)) (by omega) (ne_of w1 (by decide))
                have f9 : isWordL ts ((k : Int) + 2) [115, 101, 114, 105, 97, 108, 105, 122, 97, 98, 108, 101] = false := isW_no (j := (k + 2)) (by omega) v0
                have f10 : isWordL ts ((k : Int) + 2) [114, 101, 112, 101, 97, 116, 97, 98, 108, 101] = false := isW_no (j := (k + 2)) (by omega) v1
                have f11 : isWordL ts ((k : Int) + 2) [114, 101, 97, 100] = false := isW_no (j := (k + 2)) (by omega) v2
                have FF : Hid (mfin (mrun ts n) = ([], false, false)) := fail_level H.out.1 Hd.out w0 w1 v0 v1 v2
                clear w0 w1 v0 v1 v2 Hd
                go_wp2_with (first | (go_at_call 32; refine (isWord_any _ _ _ _ _ _ ts (H.out.below S.bel)).mono ?_; rintro e w' ⟨rfl, rfl⟩))
                go_ret3
                exact retModes_fail S.bel (by rw [H.out.1]; exact FF.out)
        · have v0 := w1
          clear w1
          have f1 : isWordL ts (k : Int) [105, 115, 111, 108, 97, 116, 105, 111, 110] = true := isW_yes (j := k) (by omega) w0
          have f2 : isWordL ts (k : Int) [114, 101, 97, 100] = false := isW_no (j := k) (by omega) (ne_of w0 (by decide))
          have f3 : isWordL ts (k : Int) [100, 101, 102, 101, 114, 114, 97, 98, 108, 101] = false := isW_no (j := k) (by omega) (ne_of w0 (by decide))
          have f4 : isWordL ts (k : Int) [110, 111, 116] = false := isW_no (j := k) (by omega) (ne_of w0 (by decide))
          have f5 : isWordL ts ((k : Int) + 1) [108, 101, 118, 101, 108] = false := isW_no (j := (k + 1)) (by omega) v0
          have FF : Hid (mfin (mrun ts n) = ([], false, false)) := fail_iso H.out.1 Hd.out w0 v0
          clear w0 v0 Hd
          go_wp2_with (first | (go_at_call 32; refine (isWord_any _ _ _ _ _ _ ts (H.out.below S.bel)).mono ?_; rintro e w' ⟨rfl, rfl⟩))
          go_ret3
          exact retModes_fail S.bel (by rw [H.out.1]; exact FF.out)
      · by_cases w0r : wordAt ts k = kRead
        · have w0 := w0r
          clear w0r
          by_cases w1 : wordAt ts (k + 1) = kOnly
          · skip
            have f1 : isWordL ts (k : Int) [105, 115, 111, 108, 97, 116, 105, 111, 110] = false := isW_no (j := k) (by omega) (ne_of w0 (by decide))
            have f2 : isWordL ts (k : Int) [114, 101, 97, 100] = true := isW_yes (j := k) (by omega) w0
            have f3 : isWordL ts (k : Int) [100, 101, 102, 101, 114, 114, 97, 98, 108, 101] = false := isW_no (j := k) (by omega) (ne_of w0 (by decide))
            have f4 : isWordL ts (k : Int) [110, 111, 116] = false := isW_no (j := k) (by omega) (ne_of w0 (by decide))
            have f5 : isWordL ts ((k : Int) + 1) [108, 101, 118, 101, 108] = false := isW_no (j := (k + 1)) (by omega) (ne_of w1 (by decide))
            have f6 : isWordL ts ((k : Int) + 1) [111, 110, 108, 121] = true := isW_yes (j := (k + 1)) (by omega) w1
            have f7 : isWordL ts ((k : Int) + 1) [119, 114, 105, 116, 101] = false := isW_no (j := (k + 1)) (by omega) (ne_of w1 (by decide))
            have f8 : isWordL ts ((k : Int) + 1) [100, 101, 102, 101, 114, 114, 97, 98, 108, 101] = false := isW_no (j := (k + 1)) (by omega) (ne_of w1 (by decide))
            have R : Hid (mrun ts (k + 2) = ⟨2, (o ++ [mRO]), r⟩) := leaf_only Hd.out w0 w1
            have hjl : k + 2 ≤ n := by have := lt_of_word (j := k + 1) w1; have := H.out.1; omega
            clear w0 w1 Hd
            obtain ⟨j, hj⟩ : ∃ j, j = k + 2 := ⟨_, rfl⟩
            have hje : (k : Int) + 2 = (j : Int) := by omega
            rw [← hj] at R hjl
            have HJ : Hid (j = k + 2) := hj
            clear hj
            by_cases hjn : j < n
            · obtain ⟨b, ofs, t, hao, ht, T0⟩ := H.out.at3 hjn
              subst hao
              go_wp2_with (first | (go_at_call 32; refine (isWord_any _ _ _ _ _ _ ts (H.out.below S.bel)).mono ?_; rintro e w' ⟨rfl, rfl⟩) | (at_builtin; refine wpList_append_own _ rfl (.tmp 65) (.tmp 66) 24 rfl w.heap.size 9 i0 _ 1 16 Try.underlying24 hi hz0 hz1 hz2 rfl (by decide) _ _ _ rfl (S.alloc _).own ⟨_, 0, none⟩ 1 1 [.string mRO] rfl rfl (one_new rfl) one_str (by unfold maxLen; omega) (by omega) (S.alloc _).bel.size ?_; intro v' w1 hown' hgrow hnil; have P := (S.alloc _).push hown' hgrow hnil; have PB := P.bel; clear hown' hgrow hnil; obtain ⟨c0, c1, _, _, _⟩ := T0.below T0.lt PB))
              · go_roundw
                case rel => exact ⟨j, ⟨2, _, _⟩, by omega, head_plain R.out (comma_word ht ‹t.word = true›), rfl, rfl, P⟩
                case measure => have := HJ.out; simp [intOf]; omega
              · go_ret3
                exact retModes_fail P.bel (by rw [H.out.1]; exact fail_comma R.out (comma_yes ht ‹¬ t.word = true› ‹(t.text.toList == [44]) = true›) (jn_yes ‹((j : Int) + 1 == (n : Int)) = true›))
              · go_roundw
                case rel => exact ⟨j + 1, ⟨1, _, _⟩, by omega, head_comma R.out (comma_yes ht ‹¬ t.word = true› ‹(t.text.toList == [44]) = true›) (jn_no ‹((j : Int) + 1 == (n : Int)) = false› hjn), by go_num, rfl, P⟩
                case measure => have := HJ.out; simp [intOf]; omega
              · go_roundw
                case rel => exact ⟨j, ⟨2, _, _⟩, by omega, head_plain R.out (comma_no ht ‹(t.text.toList == [44]) = false›), rfl, rfl, P⟩
                case measure => have := HJ.out; simp [intOf]; omega
            · have hc : commaAt ts j = false := commaAt_out (by have := H.out.1; omega)
              have HC : Hid (commaAt ts j = false) := hc
              clear hc
              go_wp2_with (first | (go_at_call 32; refine (isWord_any _ _ _ _ _ _ ts (H.out.below S.bel)).mono ?_; rintro e w' ⟨rfl, rfl⟩) | (at_builtin; refine wpList_append_own _ rfl (.tmp 65) (.tmp 66) 24 rfl w.heap.size 9 i0 _ 1 16 Try.underlying24 hi hz0 hz1 hz2 rfl (by decide) _ _ _ rfl (S.alloc _).own ⟨_, 0, none⟩ 1 1 [.string mRO] rfl rfl (one_new rfl) one_str (by unfold maxLen; omega) (by omega) (S.alloc _).bel.size ?_; intro v' w1 hown' hgrow hnil; have P := (S.alloc _).push hown' hgrow hnil; have PB := P.bel; clear hown' hgrow hnil))
              go_roundw
              case rel => exact ⟨j, ⟨2, _, _⟩, by omega, head_plain R.out HC.out, rfl, rfl, P⟩
              case measure => have := HJ.out; simp [intOf]; omega
          · by_cases w1w : wordAt ts (k + 1) = kWrite
            · have w1 := w1w
              clear w1w
              have f1 : isWordL ts (k : Int) [105, 115, 111, 108, 97, 116, 105, 111, 110] = false := isW_no (j := k) (by omega) (ne_of w0 (by decide))
              have f2 : isWordL ts (k : Int) [114, 101, 97, 100] = true := isW_yes (j := k) (by omega) w0
              have f3 : isWordL ts (k : Int) [100, 101, 102, 101, 114, 114, 97, 98, 108, 101] = false := isW_no (j := k) (by omega) (ne_of w0 (by decide))
              have f4 : isWordL ts (k : Int) [110, 111, 116] = false := isW_no (j := k) (by omega) (ne_of w0 (by decide))
              have f5 : isWordL ts ((k : Int) + 1) [108, 101, 118, 101, 108] = false := isW_no (j := (k + 1)) (by omega) (ne_of w1 (by decide))
              have f6 : isWordL ts ((k : Int) + 1) [111, 110, 108, 121] = false := isW_no (j := (k + 1)) (by omega) (ne_of w1 (by decide))
              have f7 : isWordL ts ((k : Int) + 1) [119, 114, 105, 116, 101] = true := isW_yes (j := (k + 1)) (by omega) w1
              have f8 : isWordL ts ((k : Int) + 1) [100, 101, 102, 101, 114, 114, 97, 98, 108, 101] = false := isW_no (j := (k + 1)) (by omega) (ne_of w1 (by decide))
              have R : Hid (mrun ts (k + 2) = ⟨2, (o ++ [mRW]), r⟩) := leaf_write Hd.out w0 w1
              have hjl : k + 2 ≤ n := by have := lt_of_word (j := k + 1) w1; have := H.out.1; omega
              clear w0 w1 Hd
              obtain ⟨j, hj⟩ : ∃ j, j = k + 2 := ⟨_, rfl⟩
              have hje : (k : Int) + 2 = (j : Int) := by omega
              rw [← hj] at R hjl
              have HJ : Hid (j = k + 2) := hj
              clear hj
              by_cases hjn : j < n
              · obtain ⟨b, ofs, t, hao, ht, T0⟩ := H.out.at3 hjn
                subst hao
                go_wp2_with (first | (go_at_call 32; refine (isWord_any _ _ _ _ _ _ ts (H.out.below S.bel)).mono ?_; rintro e w' ⟨rfl, rfl⟩) | (at_builtin; refine wpList_append_own _ rfl (.tmp 80) (.tmp 81) 24 rfl w.heap.size 9 i0 _ 1 16 Try.underlying24 hi hz0 hz1 hz2 rfl (by decide) _ _ _ rfl (S.alloc _).own ⟨_, 0, none⟩ 1 1 [.string mRW] rfl rfl (one_new rfl) one_str (by unfold maxLen; omega) (by omega) (S.alloc _).bel.size ?_; intro v' w1 hown' hgrow hnil; have P := (S.alloc _).push hown' hgrow hnil; have PB := P.bel; clear hown' hgrow hnil; obtain ⟨c0, c1, _, _, _⟩ := T0.below T0.lt PB))
                · go_roundw
                  case rel => exact ⟨j, ⟨2, _, _⟩, by omega, head_plain R.out (comma_word ht ‹t.word = true›), rfl, rfl, P⟩
                  case measure => have := HJ.out; simp [intOf]; omega
                · go_ret3
                  exact retModes_fail P.bel (by rw [H.out.1]; exact fail_comma R.out (comma_yes ht ‹¬ t.word = true› ‹(t.text.toList == [44]) = true›) (jn_yes ‹((j : Int) + 1 == (n : Int)) = true›))
                · go_roundw
                  case rel => exact ⟨j + 1, ⟨1, _, _⟩, by omega, head_comma R.out (comma_yes ht ‹¬ t.word = true› ‹(t.text.toList == [44]) = true›) (jn_no ‹((j : Int) + 1 == (n : Int)) = false› hjn), by go_num, rfl, P⟩
                  case measure => have := HJ.out; simp [intOf]; omega
                · go_roundw
                  case rel => exact ⟨j, ⟨2, _, _⟩, by omega, head_plain R.out (comma_no ht ‹(t.text.toList == [44]) = false›), rfl, rfl, P⟩
                  case measure => have := HJ.out; simp [intOf]; omega
              · have hc : commaAt ts j = false := commaAt_out (by have := H.out.1; omega)
                have HC : Hid (commaAt ts j = false) := hc
                clear hc
                go_wp2_with (first | (go_at_call 32; refine (isWord_any _ _ _ _ _ _ ts (H.out.below S.bel)).mono ?_; rintro e w' ⟨rfl, rfl⟩) | (at_builtin; refine wpList_append_own _ rfl (.tmp 80) (.tmp 81) 24 rfl w.heap.size 9 i0 _ 1 16 Try.underlying24 hi hz0 hz1 hz2 rfl (by decide) _ _ _ rfl (S.alloc _).own ⟨_, 0, none⟩ 1 1 [.string mRW] rfl rfl (one_new rfl) one_str (by unfold maxLen; omega) (by omega) (S.alloc _).bel.size ?_; intro v' w1 hown' hgrow hnil; have P := (S.alloc _).push hown' hgrow hnil; have PB := P.bel; clear hown' hgrow hnil))
                go_roundw
                case rel => exact ⟨j, ⟨2, _, _⟩, by omega, head_plain R.out HC.out, rfl, rfl, P⟩
                case measure => have := HJ.out; simp [intOf]; omega
            · have v0 := w1
              have v1 := w1w
              clear w1 w1w
              have f1 : isWordL ts (k : Int) [105, 115, 111, 108, 97, 116, 105, 111, 110] = false := isW_no (j := k) (by omega) (ne_of w0 (by decide))
              have f2 : isWordL ts (k : Int) [114, 101, 97, 100] = true := isW_yes (j := k) (by omega) w0
              have f3 : isWordL ts (k : Int) [100, 101, 102, 101, 114, 114, 97, 98, 108, 101] = false := isW_no (j := k) (by omega) (ne_of w0 (by decide))
              have f4 : isWordL ts (k : Int) [110, 111, 116] = false := isW_no (j := k) (by omega) (ne_of w0 (by decide))
              have f5 : isWordL ts ((k : Int) + 1) [111, 110, 108, 121] = false := isW_no (j := (k + 1)) (by omega) v0
              have f6 : isWordL ts ((k : Int) + 1) [119, 114, 105, 116, 101] = false := isW_no (j := (k + 1)) (by omega) v1
              have FF : Hid (mfin (mrun ts n) = ([], false, false)) := fail_read H.out.1 Hd.out w0 v0 v1
              clear w0 v0 v1 Hd
              go_wp2_with (first | (go_at_call 32; refine (isWord_any _ _ _ _ _ _ ts (H.out.below S.bel)).mono ?_; rintro e w' ⟨rfl, rfl⟩))
              go_ret3
              exact retModes_fail S.bel (by rw [H.out.1]; exact FF.out)
        · by_cases w0d : wordAt ts k = kDef
          · have w0 := w0d
            clear w0d w0r
            have f1 : isWordL ts (k : Int) [105, 115, 111, 108, 97, 116, 105, 111, 110] = false := isW_no (j := k) (by omega) (ne_of w0 (by decide))
            have f2 : isWordL ts (k : Int) [114, 101, 97, 100] = false := isW_no (j := k) (by omega) (ne_of w0 (by decide))
            have f3 : isWordL ts (k : Int) [100, 101, 102, 101, 114, 114, 97, 98, 108, 101] = true := isW_yes (j := k) (by omega) w0
            have f4 : isWordL ts (k : Int) [110, 111, 116] = false := isW_no (j := k) (by omega) (ne_of w0 (by decide))
            have R : Hid (mrun ts (k + 1) = ⟨2, (o ++ [mD]), r⟩) := leaf_def Hd.out w0
            have hjl : k + 1 ≤ n := by have := lt_of_word (j := k + 0) w0; have := H.out.1; omega
            clear w0 Hd
            obtain ⟨j, hj⟩ : ∃ j, j = k + 1 := ⟨_, rfl⟩
            have hje : (k : Int) + 1 = (j : Int) := by omega
            rw [← hj] at R hjl
            have HJ : Hid (j = k + 1) := hj
            clear hj
            by_cases hjn : j < n
            · obtain ⟨b, ofs, t, hao, ht, T0⟩ := H.out.at3 hjn
              subst hao
              go_wp2_with (first | (go_at_call 32; refine (isWord_any _ _ _ _ _ _ ts (H.out.below S.bel)).mono ?_; rintro e w' ⟨rfl, rfl⟩) | (at_builtin; refine wpList_append_own _ rfl (.tmp 89) (.tmp 90) 24 rfl w.heap.size 9 i0 _ 1 16 Try.underlying24 hi hz0 hz1 hz2 rfl (by decide) _ _ _ rfl (S.alloc _).own ⟨_, 0, none⟩ 1 1 [.string mD] rfl rfl (one_new rfl) one_str (by unfold maxLen; omega) (by omega) (S.alloc _).bel.size ?_; intro v' w1 hown' hgrow hnil; have P := (S.alloc _).push hown' hgrow hnil; have PB := P.bel; clear hown' hgrow hnil; obtain ⟨c0, c1, _, _, _⟩ := T0.below T0.lt PB))
              · go_roundw
                case rel => exact ⟨j, ⟨2, _, _⟩, by omega, head_plain R.out (comma_word ht ‹t.word = true›), rfl, rfl, P⟩
                case measure => have := HJ.out; simp [intOf]; omega
              · go_ret3
                exact retModes_fail P.bel (by rw [H.out.1]; exact fail_comma R.out (comma_yes ht ‹¬ t.word = true› ‹(t.text.toList == [44]) = true›) (jn_yes ‹((j : Int) + 1 == (n : Int)) = true›))
              · go_roundw
                case rel => exact ⟨j + 1, ⟨1, _, _⟩, by omega, head_comma R.out (comma_yes ht ‹¬ t.word = true› ‹(t.text.toList == [44]) = true›) (jn_no ‹((j : Int) + 1 == (n : Int)) = false› hjn), by go_num, rfl, P⟩
                case measure => have := HJ.out; simp [intOf]; omega
              · go_roundw
                case rel => exact ⟨j, ⟨2, _, _⟩, by omega, head_plain R.out (comma_no ht ‹(t.text.toList == [44]) = false›), rfl, rfl, P⟩
                case measure => have := HJ.out; simp [intOf]; omega
            · have hc : commaAt ts j = false := commaAt_out (by have := H.out.1; omega)
              have HC : Hid (commaAt ts j = false) := hc
              clear hc
              go_wp2_with (first | (go_at_call 32; refine (isWord_any _ _ _ _ _ _ ts (H.out.below S.bel)).mono ?_; rintro e w' ⟨rfl, rfl⟩) | (at_builtin; refine wpList_append_own _ rfl (.tmp 89) (.tmp 90) 24 rfl w.heap.size 9 i0 _ 1 16 Try.underlying24 hi hz0 hz1 hz2 rfl (by decide) _ _ _ rfl (S.alloc _).own ⟨_, 0, none⟩ 1 1 [.string mD] rfl rfl (one_new rfl) one_str (by unfold maxLen; omega) (by omega) (S.alloc _).bel.size ?_; intro v' w1 hown' hgrow hnil; have P := (S.alloc _).push hown' hgrow hnil; have PB := P.bel; clear hown' hgrow hnil))
              go_roundw
              case rel => exact ⟨j, ⟨2, _, _⟩, by omega, head_plain R.out HC.out, rfl, rfl, P⟩
              case measure => have := HJ.out; simp [intOf]; omega
          · by_cases w0n : wordAt ts k = kNot
            · have w0 := w0n
              clear w0n w0r w0d
              by_cases w1 : wordAt ts (k + 1) = kDef
              · skip
                have f1 : isWordL ts (k : Int) [105, 115, 111, 108, 97, 116, 105, 111, 110] = false := isW_no (j := k) (by omega) (ne_of w0 (by decide))
                have f2 : isWordL ts (k : Int) [114, 101, 97, 100] = false := isW_no (j := k) (by omega) (ne_of w0 (by decide))
                have f3 : isWordL ts (k : Int) [100, 101, 102, 101, 114, 114, 97, 98, 108, 101] = false := isW_no (j := k) (by omega) (ne_of w0 (by decide))
                have f4 : isWordL ts (k : Int) [110, 111, 116] = true := isW_yes (j := k) (by omega) w0
                have f5 : isWordL ts ((k : Int) + 1) [108, 101, 118, 101, 108] = false := isW_no (j := (k + 1)) (by omega) (ne_of w1 (by decide))
                have f6 : isWordL ts ((k : Int) + 1) [111, 110, 108, 121] = false := isW_no (j := (k + 1)) (by omega) (ne_of w1 (by decide))
                have f7 : isWordL ts ((k : Int) + 1) [119, 114, 105, 116, 101] = false := isW_no (j := (k + 1)) (by omega) (ne_of w1 (by decide))
                have f8 : isWordL ts ((k : Int) + 1) [100, 101, 102, 101, 114, 114, 97, 98, 108, 101] = true := isW_yes (j := (k + 1)) (by omega) w1
                have R : Hid (mrun ts (k + 2) = ⟨2, (o ++ [mND]), r⟩) := leaf_not Hd.out w0 w1
                have hjl : k + 2 ≤ n := by have := lt_of_word (j := k + 1) w1; have := H.out.1; omega
                clear w0 w1 Hd
                obtain ⟨j, hj⟩ : ∃ j, j = k + 2 := ⟨_, rfl⟩
                have hje : (k : Int) + 2 = (j : Int) := by omega
                rw [← hj] at R hjl
                have HJ : Hid (j = k + 2) := hj
                clear hj
                by_cases hjn : j < n
                · obtain ⟨b, ofs, t, hao, ht, T0⟩ := H.out.at3 hjn
                  subst hao
                  go_wp2_with (first | (go_at_call 32; refine (isWord_any _ _ _ _ _ _ ts (H.out.below S.bel)).mono ?_; rintro e w' ⟨rfl, rfl⟩) | (at_builtin; refine wpList_append_own _ rfl (.tmp 104) (.tmp 105) 24 rfl w.heap.size 9 i0 _ 1 16 Try.underlying24 hi hz0 hz1 hz2 rfl (by decide) _ _ _ rfl (S.alloc _).own ⟨_, 0, none⟩ 1 1 [.string mND] rfl rfl (one_new rfl) one_str (by unfold maxLen; omega) (by omega) (S.alloc _).bel.size ?_; intro v' w1 hown' hgrow hnil; have P := (S.alloc _).push hown' hgrow hnil; have PB := P.bel; clear hown' hgrow hnil; obtain ⟨c0, c1, _, _, _⟩ := T0.below T0.lt PB))
                  · go_roundw
                    case rel => exact ⟨j, ⟨2, _, _⟩, by omega, head_plain R.out (comma_word ht ‹t.word = true›), rfl, rfl, P⟩
                    case measure => have := HJ.out; simp [intOf]; omega
                  · go_ret3
                    exact retModes_fail P.bel (by rw [H.out.1]; exact fail_comma R.out (comma_yes ht ‹¬ t.word = true› ‹(t.text.toList == [44]) = true›) (jn_yes ‹((j : Int) + 1 == (n : Int)) = true›))
                  · go_roundw
                    case rel => exact ⟨j + 1, ⟨1, _, _⟩, by omega, head_comma R.out (comma_yes ht ‹¬ t.word = true› ‹(t.text.toList == [44]) = true›) (jn_no ‹((j : Int) + 1 == (n : Int)) = false› hjn), by go_num, rfl, P⟩
                    case measure => have := HJ.out; simp [intOf]; omega
                  · go_roundw
                    case rel => exact ⟨j, ⟨2, _, _⟩, by omega, head_plain R.out (comma_no ht ‹(t.text.toList == [44]) = false›), rfl, rfl, P⟩
                    case measure => have := HJ.out; simp [intOf]; omega
                · have hc : commaAt ts j = false := commaAt_out (by have := H.out.1; omega)
                  have HC : Hid (commaAt ts j = false) := hc
                  clear hc
                  go_wp2_with (first | (go_at_call 32; refine (isWord_any _ _ _ _ _ _ ts (H.out.below S.bel)).mono ?_; rintro e w' ⟨rfl, rfl⟩) | (at_builtin; refine wpList_append_own _ rfl (.tmp 104) (.tmp 105) 24 rfl w.heap.size 9 i0 _ 1 16 Try.underlying24 hi hz0 hz1 hz2 rfl (by decide) _ _ _ rfl (S.alloc _).own ⟨_, 0, none⟩ 1 1 [.string mND] rfl rfl (one_new rfl) one_str (by unfold maxLen; omega) (by omega) (S.alloc _).bel.size ?_; intro v' w1 hown' hgrow hnil; have P := (S.alloc _).push hown' hgrow hnil; have PB := P.bel; clear hown' hgrow hnil))
                  go_roundw
                  case rel => exact ⟨j, ⟨2, _, _⟩, by omega, head_plain R.out HC.out, rfl, rfl, P⟩
                  case measure => have := HJ.out; simp [intOf]; omega
              · have v0 := w1
                clear w1
                have f1 : isWordL ts (k : Int) [105, 115, 111, 108, 97, 116, 105, 111, 110] = false := isW_no (j := k) (by omega) (ne_of w0 (by decide))
                have f2 : isWordL ts (k : Int) [114, 101, 97, 100] = false := isW_no (j := k) (by omega) (ne_of w0 (by decide))
                have f3 : isWordL ts (k : Int) [100, 101, 102, 101, 114, 114, 97, 98, 108, 101] = false := isW_no (j := k) (by omega) (ne_of w0 (by decide))
                have f4 : isWordL ts (k : Int) [110, 111, 116] = true := isW_yes (j := k) (by omega) w0
                have f5 : isWordL ts ((k : Int) + 1) [100, 101, 102, 101, 114, 114, 97, 98, 108, 101] = false := isW_no (j := (k + 1)) (by omega) v0
                have FF : Hid (mfin (mrun ts n) = ([], false, false)) := fail_not H.out.1 Hd.out w0 v0
                clear w0 v0 Hd
                go_wp2_with (first | (go_at_call 32; refine (isWord_any _ _ _ _ _ _ ts (H.out.below S.bel)).mono ?_; rintro e w' ⟨rfl, rfl⟩))
                go_ret3
                exact retModes_fail S.bel (by rw [H.out.1]; exact FF.out)
            · have v0 := w0
              have v1 := w0r
              have v2 := w0n
              have v3 := w0d
              clear w0 w0r w0n w0d
              have f1 : isWordL ts (k : Int) [105, 115, 111, 108, 97, 116, 105, 111, 110] = false := isW_no (j := k) (by omega) v0
              have f2 : isWordL ts (k : Int) [114, 101, 97, 100] = false := isW_no (j := k) (by omega) v1
              have f3 : isWordL ts (k : Int) [110, 111, 116] = false := isW_no (j := k) (by omega) v2
              have f4 : isWordL ts (k : Int) [100, 101, 102, 101, 114, 114, 97, 98, 108, 101] = false := isW_no (j := k) (by omega) v3
              have FF : Hid (mfin (mrun ts n) = ([], false, false)) := fail_other hlt Hd.out  v0 v1 v2 v3
              clear  v0 v1 v2 v3 Hd
              go_wp2_with (first | (go_at_call 32; refine (isWord_any _ _ _ _ _ _ ts (H.out.below S.bel)).mono ?_; rintro e w' ⟨rfl, rfl⟩))
              go_ret3
              exact retModes_fail S.bel (by rw [H.out.1]; exact FF.out)
    · have hkn : k = ts.length := by have := H.out.1; omega
      have HK : Hid (k = ts.length) := hkn
      clear hkn
      go_wp2_with fail
      go_ret3
      refine retModes_ok (m := ⟨s, o, r⟩) (by rw [← HK.out]; exact Hd.out.run) ?_ S
      have h1 := Hd.out.ne (by omega)
      rcases Hd.out.st with e | e | e
      · exact Or.inl e
      · exact absurd e h1
      · exact Or.inr e
end Go.Proofs.Qxb6602215a
