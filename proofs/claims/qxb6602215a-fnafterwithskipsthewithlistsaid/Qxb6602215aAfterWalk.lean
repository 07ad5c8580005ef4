import Derived.Test.Qxb6602215aAfter
import Derived.Test.Qxb6602215aCopies
namespace Go.Proofs.Qxb6602215a
open Go.RowKit Go.Deep
set_option linter.unusedVariables false

/-- What closing answers. -/
def ClosePost (R : Option Nat) (w : World) (e : Ending) (w' : World) : Prop :=
  (e = match R with
    | none => .returned (.tuple #[.int .i64 0, .bool false])
    | some j => .returned (.tuple #[.int .i64 j, .bool true])) ∧ w' = w

set_option maxRecDepth 100000 in
set_option maxHeartbeats 1000000 in
theorem closing_any (ao : Option Addr) (n c i : Nat) (w : World) (ts : List Tk) (h : Toks w ao n ts) (hm : n ≤ 1048576) (hi : i ≤ n) :
    Calls Try.prog 34 #[.slice ao n c, .int .i64 i] w (ClosePost (closeF ts (n - i) i 0) w) := by
  have H : Hid (Toks w ao n ts) := h
  clear h
  generalize hR : closeF ts (n - i) i 0 = R
  have HR : Hid (closeF ts (n - i) i 0 = R) := hR
  clear hR
  go_enter Try.func34, Try.ntmps34
  go_wp2
  go_loop [6, 7] (fun d j => ∃ (q : Nat) (z : Int), q ≤ n ∧ -(q : Int) ≤ z ∧ z ≤ q ∧ d = .int .i64 z ∧ j = .int .i64 q ∧ Hid (closeF ts (n - q) q z = R)) (fun _ j => n - (intOf j).toNat)
  case atStart => exact ⟨i, 0, hi, by omega, by omega, rfl, rfl, HR⟩
  case round =>
    clear HR
    obtain ⟨q, z, hq, hz1, hz2, rfl, rfl, HR⟩ := hrel
    by_cases hlt : q < n
    · have e1 : n - q = (n - (q + 1)) + 1 := by omega
      have hR := HR.out
      rw [e1] at hR
      unfold closeF at hR
      by_cases p1 : isPunctL ts q [40] = true
      · rw [if_pos p1] at hR
        have HR' : Hid (closeF ts (n - (q + 1)) (q + 1) (z + 1) = R) := hR
        clear hR HR e1
        go_wp2_with (first | (go_at_call 33; refine (isPunct_any _ _ _ _ _ _ ts H.out).mono ?_; rintro e w' ⟨rfl, rfl⟩))
        go_round
        case rel => exact ⟨q + 1, z + 1, by omega, by omega, by omega, rfl, by go_num, HR'⟩
        case measure => simp [intOf]; omega
      · rw [if_neg p1] at hR
        have p1' : isPunctL ts q [40] = false := by simpa using p1
        by_cases p2 : isPunctL ts q [41] = true
        · rw [if_pos p2] at hR
          by_cases p3 : z - 1 = 0
          · rw [if_pos p3] at hR
            subst hR
            have p3' : (z - 1 == 0) = true := by simp [p3]
            clear HR e1 p1 p3
            go_wp2_with (first | (go_at_call 33; refine (isPunct_any _ _ _ _ _ _ ts H.out).mono ?_; rintro e w' ⟨rfl, rfl⟩))
            go_ret2
            exact ⟨rfl, rfl⟩
          · rw [if_neg p3] at hR
            have HR' : Hid (closeF ts (n - (q + 1)) (q + 1) (z - 1) = R) := hR
            have p3' : (z - 1 == 0) = false := by simp [p3]
            clear hR HR e1 p1 p3
            go_wp2_with (first | (go_at_call 33; refine (isPunct_any _ _ _ _ _ _ ts H.out).mono ?_; rintro e w' ⟨rfl, rfl⟩))
            go_round
            case rel => exact ⟨q + 1, z - 1, by omega, by omega, by omega, rfl, by go_num, HR'⟩
            case measure => simp [intOf]; omega
        · rw [if_neg p2] at hR
          have HR' : Hid (closeF ts (n - (q + 1)) (q + 1) z = R) := hR
          have p2' : isPunctL ts q [41] = false := by simpa using p2
          clear hR HR e1 p1 p2
          go_wp2_with (first | (go_at_call 33; refine (isPunct_any _ _ _ _ _ _ ts H.out).mono ?_; rintro e w' ⟨rfl, rfl⟩))
          go_round
          case rel => exact ⟨q + 1, z, by omega, by omega, by omega, rfl, by go_num, HR'⟩
          case measure => simp [intOf]; omega
    · have hR := HR.out
      rw [show n - q = 0 by omega] at hR
      simp only [closeF] at hR
      subst hR
      clear HR
      go_wp2_with fail
      go_ret2
      exact ⟨rfl, rfl⟩

/-- What afterWith answers. -/
def awR (ts : List Tk) (p i : Nat) : Nat := if isWordL ts i [114, 101, 99, 117, 114, 115, 105, 118, 101] then awF ts p (p + 1) (i + 1) else awF ts p (p + 1) i

def IntPost (g : Nat) (w : World) (e : Ending) (w' : World) : Prop := e = .returned (.int .i64 g) ∧ w' = w

theorem scanF_stop {ts : List Tk} {p q : Nat} (h : p ≤ q ∨ isPunctL ts q [40] = true) : scanF ts p (p - q) q = q := by
  cases hf : p - q with
  | zero => rfl
  | succ f =>
    unfold scanF
    rcases h with h | h
    · omega
    · rw [if_pos (by omega), if_pos h]
theorem scanF_next {ts : List Tk} {p q : Nat} (hq : q < p) (h : isPunctL ts q [40] = false) : scanF ts p (p - q) q = scanF ts p (p - (q + 1)) (q + 1) := by
  rw [show p - q = (p - (q + 1)) + 1 by omega]
  conv => lhs; unfold scanF
  rw [if_pos hq, h]
  rfl
theorem awF_none {ts : List Tk} {p f q j : Nat} (hq : q < p) (hs : scanF ts p (p - q) q = j) (hc : closeF ts (ts.length - j) j 0 = none) : awF ts p (f + 1) q = p := by
  unfold awF; rw [if_pos hq, hs, hc]
theorem awF_some {ts : List Tk} {p f q j e : Nat} (hq : q < p) (hs : scanF ts p (p - q) q = j) (hc : closeF ts (ts.length - j) j 0 = some e) :
    awF ts p (f + 1) q = if asBefore ts j then (if isPunctL ts ((e : Int) + 1) [44] then awF ts p f (e + 2) else e + 1) else awF ts p f (e + 1) := by
  conv => lhs; unfold awF
  rw [if_pos hq, hs, hc]

set_option maxRecDepth 100000 in
set_option maxHeartbeats 4000000 in
theorem afterWith_any (ao : Option Addr) (n c i p : Nat) (w : World) (ts : List Tk) (h : Toks w ao n ts) (hm : n ≤ 1048576) (hip : i ≤ p) (hpn : p ≤ n) :
    Calls Try.prog 31 #[.slice ao n c, .int .i64 i, .int .i64 p] w (IntPost (awR ts p i) w) := by
  have H : Hid (Toks w ao n ts) := h
  clear h
  generalize hR : awR ts p i = R
  by_cases hr : isWordL ts i [114, 101, 99, 117, 114, 115, 105, 118, 101] = true
  · skip
    have hrec : isWordL ts i [114, 101, 99, 117, 114, 115, 105, 118, 101] = true := hr
    have HR : Hid (awF ts p (p + 1) (i + 1) = R) := by rw [awR, hrec] at hR; exact hR
    clear hR hr
    go_enter Try.func31, Try.ntmps31
    go_wp2_with (first | (go_at_call 32; refine (isWord_any _ _ _ _ _ _ ts H.out).mono ?_; rintro e w' ⟨rfl, rfl⟩))
    clear hrec
    go_loop [1] (fun a => ∃ (q f : Nat), q ≤ n + 2 ∧ a = .int .i64 q ∧ Hid (p ≤ q + f ∧ awF ts p f q = R)) (fun a => p - (intOf a).toNat)
    case atStart => exact ⟨i + 1, p + 1, by omega, by go_num, by omega, HR.out⟩
    case round =>
      clear HR
      obtain ⟨q, f, hqn, rfl, HQ⟩ := hrel
      by_cases hlt : q < p
      · generalize hJ : scanF ts p (p - q) q = J
        have HJ : Hid (scanF ts p (p - q) q = J) := hJ
        have hJ1 : q ≤ J ∧ J ≤ p := by have := scanF_ge ts p (p - q) q (by omega); rw [hJ] at this; exact this
        clear hJ
        go_wp2_with fail
        go_loop [1] (fun a => ∃ (u : Nat), q ≤ u ∧ u ≤ p ∧ a = .int .i64 u ∧ Hid (scanF ts p (p - u) u = J)) (fun a => p - (intOf a).toNat)
        case atStart => exact ⟨q, Nat.le_refl _, by omega, rfl, HJ⟩
        case round =>
          obtain ⟨u, hu1, hu2, rfl, HU⟩ := hrel
          by_cases hgo : u < p ∧ isPunctL ts u [40] = false
          · obtain ⟨hup, hpc⟩ := hgo
            have HU' : Hid (scanF ts p (p - (u + 1)) (u + 1) = J) := by have := HU.out; rw [scanF_next hup hpc] at this; exact this
            clear HU
            go_wp2_with (first | (go_at_call 33; refine (isPunct_any _ _ _ _ _ _ ts H.out).mono ?_; rintro e w' ⟨rfl, rfl⟩))
            go_round
            case rel => exact ⟨u + 1, by omega, by omega, by go_num, HU'⟩
            case measure => simp [intOf]; omega
          · by_cases hup : u < p
            · have hpc : isPunctL ts u [40] = true := by
                cases hc : isPunctL ts u [40] with
                | true => rfl
                | false => exact absurd ⟨hup, hc⟩ hgo
              have hst : p ≤ u ∨ isPunctL ts u [40] = true := Or.inr hpc
              have HST : Hid (p ≤ u ∨ isPunctL ts u [40] = true) := hst
              clear hst
              have huJ : u = J := by have := HU.out; rw [scanF_stop HST.out] at this; exact this
              subst huJ
              obtain ⟨hpf, hRf⟩ := HQ.out
              obtain ⟨f', rfl⟩ : ∃ f', f = f' + 1 := ⟨f - 1, by omega⟩
              have hln := H.out.1
              clear HQ HU hgo HST
              cases hcl : closeF ts (n - u) u 0 with
              | none =>
                rw [awF_none hlt HJ.out (by rw [hln]; exact hcl)] at hRf
                have HF : Hid (p = R) := hRf
                have HC : Hid (closeF ts (n - u) u 0 = none) := hcl
                clear hRf hcl HJ
                by_cases hab : isWordL ts ((u : Int) - 1) [97, 115] = true
                · skip
                  go_wp2_with (first | (go_at_call 32; refine (isWord_any _ _ _ _ _ _ ts H.out).mono ?_; rintro e w' ⟨rfl, rfl⟩) | (go_at_call 33; refine (isPunct_any _ _ _ _ _ _ ts H.out).mono ?_; rintro e w' ⟨rfl, rfl⟩) | (go_at_call 34; refine (closing_any _ _ _ _ _ ts H.out hm (by omega)).mono ?_; rintro e w' ⟨he, rfl⟩; rw [HC.out] at he; dsimp only at he; subst he))
                  go_ret
                  exact ⟨by rw [← HF.out]; rfl, rfl⟩
                · have hab' : isWordL ts ((u : Int) - 1) [97, 115] = false := by simpa using hab
                  clear hab
                  cases hmt : isWordL ts ((u : Int) - 1) [109, 97, 116, 101, 114, 105, 97, 108, 105, 122, 101, 100]
                  · skip
                    go_wp2_with (first | (go_at_call 32; refine (isWord_any _ _ _ _ _ _ ts H.out).mono ?_; rintro e w' ⟨rfl, rfl⟩) | (go_at_call 33; refine (isPunct_any _ _ _ _ _ _ ts H.out).mono ?_; rintro e w' ⟨rfl, rfl⟩) | (go_at_call 34; refine (closing_any _ _ _ _ _ ts H.out hm (by omega)).mono ?_; rintro e w' ⟨he, rfl⟩; rw [HC.out] at he; dsimp only at he; subst he))
                    go_ret
                    exact ⟨by rw [← HF.out]; rfl, rfl⟩
                  · skip
                    go_wp2_with (first | (go_at_call 32; refine (isWord_any _ _ _ _ _ _ ts H.out).mono ?_; rintro e w' ⟨rfl, rfl⟩) | (go_at_call 33; refine (isPunct_any _ _ _ _ _ _ ts H.out).mono ?_; rintro e w' ⟨rfl, rfl⟩) | (go_at_call 34; refine (closing_any _ _ _ _ _ ts H.out hm (by omega)).mono ?_; rintro e w' ⟨he, rfl⟩; rw [HC.out] at he; dsimp only at he; subst he))
                    go_ret
                    exact ⟨by rw [← HF.out]; rfl, rfl⟩
              | some e =>
                obtain ⟨ge1, ge2, ge3⟩ := closeF_ge ts _ _ _ _ hcl
                rw [awF_some hlt HJ.out (by rw [hln]; exact hcl)] at hRf
                have HC : Hid (closeF ts (n - u) u 0 = some e) := hcl
                clear hcl HJ ge3
                by_cases hasb : asBefore ts u = true
                · rw [if_pos hasb] at hRf
                  by_cases hcm : isPunctL ts ((e : Int) + 1) [44] = true
                  · rw [if_pos hcm] at hRf
                    have HF : Hid (p ≤ e + 2 + f' ∧ awF ts p f' (e + 2) = R) := ⟨by omega, hRf⟩
                    clear hRf
                    cases hab : isWordL ts ((u : Int) - 1) [97, 115]
                    · skip
                      have hmt : isWordL ts ((u : Int) - 1) [109, 97, 116, 101, 114, 105, 97, 108, 105, 122, 101, 100] = true := by have := hasb; rw [asBefore, hab] at this; simpa using this
                      clear hasb
                      go_wp2_with (first | (go_at_call 32; refine (isWord_any _ _ _ _ _ _ ts H.out).mono ?_; rintro e w' ⟨rfl, rfl⟩) | (go_at_call 33; refine (isPunct_any _ _ _ _ _ _ ts H.out).mono ?_; rintro e w' ⟨rfl, rfl⟩) | (go_at_call 34; refine (closing_any _ _ _ _ _ ts H.out hm (by omega)).mono ?_; rintro ee w' ⟨he, rfl⟩; rw [HC.out] at he; dsimp only at he; subst he))
                      go_round
                      case rel => exact ⟨e + 2, f', by omega, by go_num, HF.out⟩
                      case measure => simp [intOf]; omega
                    · skip
                      clear hasb
                      go_wp2_with (first | (go_at_call 32; refine (isWord_any _ _ _ _ _ _ ts H.out).mono ?_; rintro e w' ⟨rfl, rfl⟩) | (go_at_call 33; refine (isPunct_any _ _ _ _ _ _ ts H.out).mono ?_; rintro e w' ⟨rfl, rfl⟩) | (go_at_call 34; refine (closing_any _ _ _ _ _ ts H.out hm (by omega)).mono ?_; rintro ee w' ⟨he, rfl⟩; rw [HC.out] at he; dsimp only at he; subst he))
                      go_round
                      case rel => exact ⟨e + 2, f', by omega, by go_num, HF.out⟩
                      case measure => simp [intOf]; omega
                  · rw [if_neg hcm] at hRf
                    have hcm' : isPunctL ts ((e : Int) + 1) [44] = false := by simpa using hcm
                    have HF : Hid (e + 1 = R) := hRf
                    clear hRf hcm
                    cases hab : isWordL ts ((u : Int) - 1) [97, 115]
                    · skip
                      have hmt : isWordL ts ((u : Int) - 1) [109, 97, 116, 101, 114, 105, 97, 108, 105, 122, 101, 100] = true := by have := hasb; rw [asBefore, hab] at this; simpa using this
                      clear hasb
                      go_wp2_with (first | (go_at_call 32; refine (isWord_any _ _ _ _ _ _ ts H.out).mono ?_; rintro e w' ⟨rfl, rfl⟩) | (go_at_call 33; refine (isPunct_any _ _ _ _ _ _ ts H.out).mono ?_; rintro e w' ⟨rfl, rfl⟩) | (go_at_call 34; refine (closing_any _ _ _ _ _ ts H.out hm (by omega)).mono ?_; rintro ee w' ⟨he, rfl⟩; rw [HC.out] at he; dsimp only at he; subst he))
                      go_ret
                      exact ⟨by rw [← HF.out]; rfl, rfl⟩
                    · skip
                      clear hasb
                      go_wp2_with (first | (go_at_call 32; refine (isWord_any _ _ _ _ _ _ ts H.out).mono ?_; rintro e w' ⟨rfl, rfl⟩) | (go_at_call 33; refine (isPunct_any _ _ _ _ _ _ ts H.out).mono ?_; rintro e w' ⟨rfl, rfl⟩) | (go_at_call 34; refine (closing_any _ _ _ _ _ ts H.out hm (by omega)).mono ?_; rintro ee w' ⟨he, rfl⟩; rw [HC.out] at he; dsimp only at he; subst he))
                      go_ret
                      exact ⟨by rw [← HF.out]; rfl, rfl⟩
                · rw [if_neg hasb] at hRf
                  have hasf : asBefore ts u = false := by simpa using hasb
                  have hab : isWordL ts ((u : Int) - 1) [97, 115] = false := (Bool.or_eq_false_iff.1 hasf).1
                  have hmt : isWordL ts ((u : Int) - 1) [109, 97, 116, 101, 114, 105, 97, 108, 105, 122, 101, 100] = false := (Bool.or_eq_false_iff.1 hasf).2
                  have HF : Hid (p ≤ e + 1 + f' ∧ awF ts p f' (e + 1) = R) := ⟨by omega, hRf⟩
                  clear hRf hasb hasf
                  go_wp2_with (first | (go_at_call 32; refine (isWord_any _ _ _ _ _ _ ts H.out).mono ?_; rintro e w' ⟨rfl, rfl⟩) | (go_at_call 33; refine (isPunct_any _ _ _ _ _ _ ts H.out).mono ?_; rintro e w' ⟨rfl, rfl⟩) | (go_at_call 34; refine (closing_any _ _ _ _ _ ts H.out hm (by omega)).mono ?_; rintro ee w' ⟨he, rfl⟩; rw [HC.out] at he; dsimp only at he; subst he))
                  go_round
                  case rel => exact ⟨e + 1, f', by omega, by go_num, HF.out⟩
                  case measure => simp [intOf]; omega
            · have hst : p ≤ u ∨ isPunctL ts u [40] = true := Or.inl (by omega)
              have HST : Hid (p ≤ u ∨ isPunctL ts u [40] = true) := hst
              clear hst
              have huJ : u = J := by have := HU.out; rw [scanF_stop HST.out] at this; exact this
              subst huJ
              obtain ⟨hpf, hRf⟩ := HQ.out
              obtain ⟨f', rfl⟩ : ∃ f', f = f' + 1 := ⟨f - 1, by omega⟩
              have hln := H.out.1
              clear HQ HU hgo HST
              cases hcl : closeF ts (n - u) u 0 with
              | none =>
                rw [awF_none hlt HJ.out (by rw [hln]; exact hcl)] at hRf
                have HF : Hid (p = R) := hRf
                have HC : Hid (closeF ts (n - u) u 0 = none) := hcl
                clear hRf hcl HJ
                by_cases hab : isWordL ts ((u : Int) - 1) [97, 115] = true
                · skip
                  go_wp2_with (first | (go_at_call 32; refine (isWord_any _ _ _ _ _ _ ts H.out).mono ?_; rintro e w' ⟨rfl, rfl⟩) | (go_at_call 33; refine (isPunct_any _ _ _ _ _ _ ts H.out).mono ?_; rintro e w' ⟨rfl, rfl⟩) | (go_at_call 34; refine (closing_any _ _ _ _ _ ts H.out hm (by omega)).mono ?_; rintro e w' ⟨he, rfl⟩; rw [HC.out] at he; dsimp only at he; subst he))
                  go_ret
                  exact ⟨by rw [← HF.out]; rfl, rfl⟩
                · have hab' : isWordL ts ((u : Int) - 1) [97, 115] = false := by simpa using hab
                  clear hab
                  cases hmt : isWordL ts ((u : Int) - 1) [109, 97, 116, 101, 114, 105, 97, 108, 105, 122, 101, 100]
                  · skip
                    go_wp2_with (first | (go_at_call 32; refine (isWord_any _ _ _ _ _ _ ts H.out).mono ?_; rintro e w' ⟨rfl, rfl⟩) | (go_at_call 33; refine (isPunct_any _ _ _ _ _ _ ts H.out).mono ?_; rintro e w' ⟨rfl, rfl⟩) | (go_at_call 34; refine (closing_any _ _ _ _ _ ts H.out hm (by omega)).mono ?_; rintro e w' ⟨he, rfl⟩; rw [HC.out] at he; dsimp only at he; subst he))
                    go_ret
                    exact ⟨by rw [← HF.out]; rfl, rfl⟩
                  · skip
                    go_wp2_with (first | (go_at_call 32; refine (isWord_any _ _ _ _ _ _ ts H.out).mono ?_; rintro e w' ⟨rfl, rfl⟩) | (go_at_call 33; refine (isPunct_any _ _ _ _ _ _ ts H.out).mono ?_; rintro e w' ⟨rfl, rfl⟩) | (go_at_call 34; refine (closing_any _ _ _ _ _ ts H.out hm (by omega)).mono ?_; rintro e w' ⟨he, rfl⟩; rw [HC.out] at he; dsimp only at he; subst he))
                    go_ret
                    exact ⟨by rw [← HF.out]; rfl, rfl⟩
              | some e =>
                obtain ⟨ge1, ge2, ge3⟩ := closeF_ge ts _ _ _ _ hcl
                rw [awF_some hlt HJ.out (by rw [hln]; exact hcl)] at hRf
                have HC : Hid (closeF ts (n - u) u 0 = some e) := hcl
                clear hcl HJ ge3
                by_cases hasb : asBefore ts u = true
                · rw [if_pos hasb] at hRf
                  by_cases hcm : isPunctL ts ((e : Int) + 1) [44] = true
                  · rw [if_pos hcm] at hRf
                    have HF : Hid (p ≤ e + 2 + f' ∧ awF ts p f' (e + 2) = R) := ⟨by omega, hRf⟩
                    clear hRf
                    cases hab : isWordL ts ((u : Int) - 1) [97, 115]
                    · skip
                      have hmt : isWordL ts ((u : Int) - 1) [109, 97, 116, 101, 114, 105, 97, 108, 105, 122, 101, 100] = true := by have := hasb; rw [asBefore, hab] at this; simpa using this
                      clear hasb
                      go_wp2_with (first | (go_at_call 32; refine (isWord_any _ _ _ _ _ _ ts H.out).mono ?_; rintro e w' ⟨rfl, rfl⟩) | (go_at_call 33; refine (isPunct_any _ _ _ _ _ _ ts H.out).mono ?_; rintro e w' ⟨rfl, rfl⟩) | (go_at_call 34; refine (closing_any _ _ _ _ _ ts H.out hm (by omega)).mono ?_; rintro ee w' ⟨he, rfl⟩; rw [HC.out] at he; dsimp only at he; subst he))
                      go_round
                      case rel => exact ⟨e + 2, f', by omega, by go_num, HF.out⟩
                      case measure => simp [intOf]; omega
                    · skip
                      clear hasb
                      go_wp2_with (first | (go_at_call 32; refine (isWord_any _ _ _ _ _ _ ts H.out).mono ?_; rintro e w' ⟨rfl, rfl⟩) | (go_at_call 33; refine (isPunct_any _ _ _ _ _ _ ts H.out).mono ?_; rintro e w' ⟨rfl, rfl⟩) | (go_at_call 34; refine (closing_any _ _ _ _ _ ts H.out hm (by omega)).mono ?_; rintro ee w' ⟨he, rfl⟩; rw [HC.out] at he; dsimp only at he; subst he))
                      go_round
                      case rel => exact ⟨e + 2, f', by omega, by go_num, HF.out⟩
                      case measure => simp [intOf]; omega
                  · rw [if_neg hcm] at hRf
                    have hcm' : isPunctL ts ((e : Int) + 1) [44] = false := by simpa using hcm
                    have HF : Hid (e + 1 = R) := hRf
                    clear hRf hcm
                    cases hab : isWordL ts ((u : Int) - 1) [97, 115]
                    · skip
                      have hmt : isWordL ts ((u : Int) - 1) [109, 97, 116, 101, 114, 105, 97, 108, 105, 122, 101, 100] = true := by have := hasb; rw [asBefore, hab] at this; simpa using this
                      clear hasb
                      go_wp2_with (first | (go_at_call 32; refine (isWord_any _ _ _ _ _ _ ts H.out).mono ?_; rintro e w' ⟨rfl, rfl⟩) | (go_at_call 33; refine (isPunct_any _ _ _ _ _ _ ts H.out).mono ?_; rintro e w' ⟨rfl, rfl⟩) | (go_at_call 34; refine (closing_any _ _ _ _ _ ts H.out hm (by omega)).mono ?_; rintro ee w' ⟨he, rfl⟩; rw [HC.out] at he; dsimp only at he; subst he))
                      go_ret
                      exact ⟨by rw [← HF.out]; rfl, rfl⟩
                    · skip
                      clear hasb
                      go_wp2_with (first | (go_at_call 32; refine (isWord_any _ _ _ _ _ _ ts H.out).mono ?_; rintro e w' ⟨rfl, rfl⟩) | (go_at_call 33; refine (isPunct_any _ _ _ _ _ _ ts H.out).mono ?_; rintro e w' ⟨rfl, rfl⟩) | (go_at_call 34; refine (closing_any _ _ _ _ _ ts H.out hm (by omega)).mono ?_; rintro ee w' ⟨he, rfl⟩; rw [HC.out] at he; dsimp only at he; subst he))
                      go_ret
                      exact ⟨by rw [← HF.out]; rfl, rfl⟩
                · rw [if_neg hasb] at hRf
                  have hasf : asBefore ts u = false := by simpa using hasb
                  have hab : isWordL ts ((u : Int) - 1) [97, 115] = false := (Bool.or_eq_false_iff.1 hasf).1
                  have hmt : isWordL ts ((u : Int) - 1) [109, 97, 116, 101, 114, 105, 97, 108, 105, 122, 101, 100] = false := (Bool.or_eq_false_iff.1 hasf).2
                  have HF : Hid (p ≤ e + 1 + f' ∧ awF ts p f' (e + 1) = R) := ⟨by omega, hRf⟩
                  clear hRf hasb hasf
                  go_wp2_with (first | (go_at_call 32; refine (isWord_any _ _ _ _ _ _ ts H.out).mono ?_; rintro e w' ⟨rfl, rfl⟩) | (go_at_call 33; refine (isPunct_any _ _ _ _ _ _ ts H.out).mono ?_; rintro e w' ⟨rfl, rfl⟩) | (go_at_call 34; refine (closing_any _ _ _ _ _ ts H.out hm (by omega)).mono ?_; rintro ee w' ⟨he, rfl⟩; rw [HC.out] at he; dsimp only at he; subst he))
                  go_round
                  case rel => exact ⟨e + 1, f', by omega, by go_num, HF.out⟩
                  case measure => simp [intOf]; omega
      · have HF : Hid (p = R) := by have := HQ.out.2; rw [awF_out (by omega)] at this; exact this
        clear HQ
        go_wp2_with fail
        go_ret
        exact ⟨by rw [← HF.out]; rfl, rfl⟩
  · skip
    have hrec : isWordL ts i [114, 101, 99, 117, 114, 115, 105, 118, 101] = false := by simpa using hr
    have HR : Hid (awF ts p (p + 1) i = R) := by rw [awR, hrec] at hR; exact hR
    clear hR hr
    go_enter Try.func31, Try.ntmps31
    go_wp2_with (first | (go_at_call 32; refine (isWord_any _ _ _ _ _ _ ts H.out).mono ?_; rintro e w' ⟨rfl, rfl⟩))
    clear hrec
    go_loop [1] (fun a => ∃ (q f : Nat), q ≤ n + 2 ∧ a = .int .i64 q ∧ Hid (p ≤ q + f ∧ awF ts p f q = R)) (fun a => p - (intOf a).toNat)
    case atStart => exact ⟨i, p + 1, by omega, rfl, by omega, HR.out⟩
    case round =>
      clear HR
      obtain ⟨q, f, hqn, rfl, HQ⟩ := hrel
      by_cases hlt : q < p
      · generalize hJ : scanF ts p (p - q) q = J
        have HJ : Hid (scanF ts p (p - q) q = J) := hJ
        have hJ1 : q ≤ J ∧ J ≤ p := by have := scanF_ge ts p (p - q) q (by omega); rw [hJ] at this; exact this
        clear hJ
        go_wp2_with fail
        go_loop [1] (fun a => ∃ (u : Nat), q ≤ u ∧ u ≤ p ∧ a = .int .i64 u ∧ Hid (scanF ts p (p - u) u = J)) (fun a => p - (intOf a).toNat)
        case atStart => exact ⟨q, Nat.le_refl _, by omega, rfl, HJ⟩
        case round =>
          obtain ⟨u, hu1, hu2, rfl, HU⟩ := hrel
          by_cases hgo : u < p ∧ isPunctL ts u [40] = false
          · obtain ⟨hup, hpc⟩ := hgo
            have HU' : Hid (scanF ts p (p - (u + 1)) (u + 1) = J) := by have := HU.out; rw [scanF_next hup hpc] at this; exact this
            clear HU
            go_wp2_with (first | (go_at_call 33; refine (isPunct_any _ _ _ _ _ _ ts H.out).mono ?_; rintro e w' ⟨rfl, rfl⟩))
            go_round
            case rel => exact ⟨u + 1, by omega, by omega, by go_num, HU'⟩
            case measure => simp [intOf]; omega
          · by_cases hup : u < p
            · have hpc : isPunctL ts u [40] = true := by
                cases hc : isPunctL ts u [40] with
                | true => rfl
                | false => exact absurd ⟨hup, hc⟩ hgo
              have hst : p ≤ u ∨ isPunctL ts u [40] = true := Or.inr hpc
              have HST : Hid (p ≤ u ∨ isPunctL ts u [40] = true) := hst
              clear hst
              have huJ : u = J := by have := HU.out; rw [scanF_stop HST.out] at this; exact this
              subst huJ
              obtain ⟨hpf, hRf⟩ := HQ.out
              obtain ⟨f', rfl⟩ : ∃ f', f = f' + 1 := ⟨f - 1, by omega⟩
              have hln := H.out.1
              clear HQ HU hgo HST
              cases hcl : closeF ts (n - u) u 0 with
              | none =>
                rw [awF_none hlt HJ.out (by rw [hln]; exact hcl)] at hRf
                have HF : Hid (p = R) := hRf
                have HC : Hid (closeF ts (n - u) u 0 = none) := hcl
                clear hRf hcl HJ
                by_cases hab : isWordL ts ((u : Int) - 1) [97, 115] = true
                · skip
                  go_wp2_with (first | (go_at_call 32; refine (isWord_any _ _ _ _ _ _ ts H.out).mono ?_; rintro e w' ⟨rfl, rfl⟩) | (go_at_call 33; refine (isPunct_any _ _ _ _ _ _ ts H.out).mono ?_; rintro e w' ⟨rfl, rfl⟩) | (go_at_call 34; refine (closing_any _ _ _ _ _ ts H.out hm (by omega)).mono ?_; rintro e w' ⟨he, rfl⟩; rw [HC.out] at he; dsimp only at he; subst he))
                  go_ret
                  exact ⟨by rw [← HF.out]; rfl, rfl⟩
                · have hab' : isWordL ts ((u : Int) - 1) [97, 115] = false := by simpa using hab
                  clear hab
                  cases hmt : isWordL ts ((u : Int) - 1) [109, 97, 116, 101, 114, 105, 97, 108, 105, 122, 101, 100]
                  · skip
                    go_wp2_with (first | (go_at_call 32; refine (isWord_any _ _ _ _ _ _ ts H.out).mono ?_; rintro e w' ⟨rfl, rfl⟩) | (go_at_call 33; refine (isPunct_any _ _ _ _ _ _ ts H.out).mono ?_; rintro e w' ⟨rfl, rfl⟩) | (go_at_call 34; refine (closing_any _ _ _ _ _ ts H.out hm (by omega)).mono ?_; rintro e w' ⟨he, rfl⟩; rw [HC.out] at he; dsimp only at he; subst he))
                    go_ret
                    exact ⟨by rw [← HF.out]; rfl, rfl⟩
                  · skip
                    go_wp2_with (first | (go_at_call 32; refine (isWord_any _ _ _ _ _ _ ts H.out).mono ?_; rintro e w' ⟨rfl, rfl⟩) | (go_at_call 33; refine (isPunct_any _ _ _ _ _ _ ts H.out).mono ?_; rintro e w' ⟨rfl, rfl⟩) | (go_at_call 34; refine (closing_any _ _ _ _ _ ts H.out hm (by omega)).mono ?_; rintro e w' ⟨he, rfl⟩; rw [HC.out] at he; dsimp only at he; subst he))
                    go_ret
                    exact ⟨by rw [← HF.out]; rfl, rfl⟩
              | some e =>
                obtain ⟨ge1, ge2, ge3⟩ := closeF_ge ts _ _ _ _ hcl
                rw [awF_some hlt HJ.out (by rw [hln]; exact hcl)] at hRf
                have HC : Hid (closeF ts (n - u) u 0 = some e) := hcl
                clear hcl HJ ge3
                by_cases hasb : asBefore ts u = true
                · rw [if_pos hasb] at hRf
                  by_cases hcm : isPunctL ts ((e : Int) + 1) [44] = true
                  · rw [if_pos hcm] at hRf
                    have HF : Hid (p ≤ e + 2 + f' ∧ awF ts p f' (e + 2) = R) := ⟨by omega, hRf⟩
                    clear hRf
                    cases hab : isWordL ts ((u : Int) - 1) [97, 115]
                    · skip
                      have hmt : isWordL ts ((u : Int) - 1) [109, 97, 116, 101, 114, 105, 97, 108, 105, 122, 101, 100] = true := by have := hasb; rw [asBefore, hab] at this; simpa using this
                      clear hasb
                      go_wp2_with (first | (go_at_call 32; refine (isWord_any _ _ _ _ _ _ ts H.out).mono ?_; rintro e w' ⟨rfl, rfl⟩) | (go_at_call 33; refine (isPunct_any _ _ _ _ _ _ ts H.out).mono ?_; rintro e w' ⟨rfl, rfl⟩) | (go_at_call 34; refine (closing_any _ _ _ _ _ ts H.out hm (by omega)).mono ?_; rintro ee w' ⟨he, rfl⟩; rw [HC.out] at he; dsimp only at he; subst he))
                      go_round
                      case rel => exact ⟨e + 2, f', by omega, by go_num, HF.out⟩
                      case measure => simp [intOf]; omega
                    · skip
                      clear hasb
                      go_wp2_with (first | (go_at_call 32; refine (isWord_any _ _ _ _ _ _ ts H.out).mono ?_; rintro e w' ⟨rfl, rfl⟩) | (go_at_call 33; refine (isPunct_any _ _ _ _ _ _ ts H.out).mono ?_; rintro e w' ⟨rfl, rfl⟩) | (go_at_call 34; refine (closing_any _ _ _ _ _ ts H.out hm (by omega)).mono ?_; rintro ee w' ⟨he, rfl⟩; rw [HC.out] at he; dsimp only at he; subst he))
                      go_round
                      case rel => exact ⟨e + 2, f', by omega, by go_num, HF.out⟩
                      case measure => simp [intOf]; omega
                  · rw [if_neg hcm] at hRf
                    have hcm' : isPunctL ts ((e : Int) + 1) [44] = false := by simpa using hcm
                    have HF : Hid (e + 1 = R) := hRf
                    clear hRf hcm
                    cases hab : isWordL ts ((u : Int) - 1) [97, 115]
                    · skip
                      have hmt : isWordL ts ((u : Int) - 1) [109, 97, 116, 101, 114, 105, 97, 108, 105, 122, 101, 100] = true := by have := hasb; rw [asBefore, hab] at this; simpa using this
                      clear hasb
                      go_wp2_with (first | (go_at_call 32; refine (isWord_any _ _ _ _ _ _ ts H.out).mono ?_; rintro e w' ⟨rfl, rfl⟩) | (go_at_call 33; refine (isPunct_any _ _ _ _ _ _ ts H.out).mono ?_; rintro e w' ⟨rfl, rfl⟩) | (go_at_call 34; refine (closing_any _ _ _ _ _ ts H.out hm (by omega)).mono ?_; rintro ee w' ⟨he, rfl⟩; rw [HC.out] at he; dsimp only at he; subst he))
                      go_ret
                      exact ⟨by rw [← HF.out]; rfl, rfl⟩
                    · skip
                      clear hasb
                      go_wp2_with (first | (go_at_call 32; refine (isWord_any _ _ _ _ _ _ ts H.out).mono ?_; rintro e w' ⟨rfl, rfl⟩) | (go_at_call 33; refine (isPunct_any _ _ _ _ _ _ ts H.out).mono ?_; rintro e w' ⟨rfl, rfl⟩) | (go_at_call 34; refine (closing_any _ _ _ _ _ ts H.out hm (by omega)).mono ?_; rintro ee w' ⟨he, rfl⟩; rw [HC.out] at he; dsimp only at he; subst he))
                      go_ret
                      exact ⟨by rw [← HF.out]; rfl, rfl⟩
                · rw [if_neg hasb] at hRf
                  have hasf : asBefore ts u = false := by simpa using hasb
                  have hab : isWordL ts ((u : Int) - 1) [97, 115] = false := (Bool.or_eq_false_iff.1 hasf).1
                  have hmt : isWordL ts ((u : Int) - 1) [109, 97, 116, 101, 114, 105, 97, 108, 105, 122, 101, 100] = false := (Bool.or_eq_false_iff.1 hasf).2
                  have HF : Hid (p ≤ e + 1 + f' ∧ awF ts p f' (e + 1) = R) := ⟨by omega, hRf⟩
                  clear hRf hasb hasf
                  go_wp2_with (first | (go_at_call 32; refine (isWord_any _ _ _ _ _ _ ts H.out).mono ?_; rintro e w' ⟨rfl, rfl⟩) | (go_at_call 33; refine (isPunct_any _ _ _ _ _ _ ts H.out).mono ?_; rintro e w' ⟨rfl, rfl⟩) | (go_at_call 34; refine (closing_any _ _ _ _ _ ts H.out hm (by omega)).mono ?_; rintro ee w' ⟨he, rfl⟩; rw [HC.out] at he; dsimp only at he; subst he))
                  go_round
                  case rel => exact ⟨e + 1, f', by omega, by go_num, HF.out⟩
                  case measure => simp [intOf]; omega
            · have hst : p ≤ u ∨ isPunctL ts u [40] = true := Or.inl (by omega)
              have HST : Hid (p ≤ u ∨ isPunctL ts u [40] = true) := hst
              clear hst
              have huJ : u = J := by have := HU.out; rw [scanF_stop HST.out] at this; exact this
              subst huJ
              obtain ⟨hpf, hRf⟩ := HQ.out
              obtain ⟨f', rfl⟩ : ∃ f', f = f' + 1 := ⟨f - 1, by omega⟩
              have hln := H.out.1
              clear HQ HU hgo HST
              cases hcl : closeF ts (n - u) u 0 with
              | none =>
                rw [awF_none hlt HJ.out (by rw [hln]; exact hcl)] at hRf
                have HF : Hid (p = R) := hRf
                have HC : Hid (closeF ts (n - u) u 0 = none) := hcl
                clear hRf hcl HJ
                by_cases hab : isWordL ts ((u : Int) - 1) [97, 115] = true
                · skip
                  go_wp2_with (first | (go_at_call 32; refine (isWord_any _ _ _ _ _ _ ts H.out).mono ?_; rintro e w' ⟨rfl, rfl⟩) | (go_at_call 33; refine (isPunct_any _ _ _ _ _ _ ts H.out).mono ?_; rintro e w' ⟨rfl, rfl⟩) | (go_at_call 34; refine (closing_any _ _ _ _ _ ts H.out hm (by omega)).mono ?_; rintro e w' ⟨he, rfl⟩; rw [HC.out] at he; dsimp only at he; subst he))
                  go_ret
                  exact ⟨by rw [← HF.out]; rfl, rfl⟩
                · have hab' : isWordL ts ((u : Int) - 1) [97, 115] = false := by simpa using hab
                  clear hab
                  cases hmt : isWordL ts ((u : Int) - 1) [109, 97, 116, 101, 114, 105, 97, 108, 105, 122, 101, 100]
                  · skip
                    go_wp2_with (first | (go_at_call 32; refine (isWord_any _ _ _ _ _ _ ts H.out).mono ?_; rintro e w' ⟨rfl, rfl⟩) | (go_at_call 33; refine (isPunct_any _ _ _ _ _ _ ts H.out).mono ?_; rintro e w' ⟨rfl, rfl⟩) | (go_at_call 34; refine (closing_any _ _ _ _ _ ts H.out hm (by omega)).mono ?_; rintro e w' ⟨he, rfl⟩; rw [HC.out] at he; dsimp only at he; subst he))
                    go_ret
                    exact ⟨by rw [← HF.out]; rfl, rfl⟩
                  · skip
                    go_wp2_with (first | (go_at_call 32; refine (isWord_any _ _ _ _ _ _ ts H.out).mono ?_; rintro e w' ⟨rfl, rfl⟩) | (go_at_call 33; refine (isPunct_any _ _ _ _ _ _ ts H.out).mono ?_; rintro e w' ⟨rfl, rfl⟩) | (go_at_call 34; refine (closing_any _ _ _ _ _ ts H.out hm (by omega)).mono ?_; rintro e w' ⟨he, rfl⟩; rw [HC.out] at he; dsimp only at he; subst he))
                    go_ret
                    exact ⟨by rw [← HF.out]; rfl, rfl⟩
              | some e =>
                obtain ⟨ge1, ge2, ge3⟩ := closeF_ge ts _ _ _ _ hcl
                rw [awF_some hlt HJ.out (by rw [hln]; exact hcl)] at hRf
                have HC : Hid (closeF ts (n - u) u 0 = some e) := hcl
                clear hcl HJ ge3
                by_cases hasb : asBefore ts u = true
                · rw [if_pos hasb] at hRf
                  by_cases hcm : isPunctL ts ((e : Int) + 1) [44] = true
                  · rw [if_pos hcm] at hRf
                    have HF : Hid (p ≤ e + 2 + f' ∧ awF ts p f' (e + 2) = R) := ⟨by omega, hRf⟩
                    clear hRf
                    cases hab : isWordL ts ((u : Int) - 1) [97, 115]
                    · skip
                      have hmt : isWordL ts ((u : Int) - 1) [109, 97, 116, 101, 114, 105, 97, 108, 105, 122, 101, 100] = true := by have := hasb; rw [asBefore, hab] at this; simpa using this
                      clear hasb
                      go_wp2_with (first | (go_at_call 32; refine (isWord_any _ _ _ _ _ _ ts H.out).mono ?_; rintro e w' ⟨rfl, rfl⟩) | (go_at_call 33; refine (isPunct_any _ _ _ _ _ _ ts H.out).mono ?_; rintro e w' ⟨rfl, rfl⟩) | (go_at_call 34; refine (closing_any _ _ _ _ _ ts H.out hm (by omega)).mono ?_; rintro ee w' ⟨he, rfl⟩; rw [HC.out] at he; dsimp only at he; subst he))
                      go_round
                      case rel => exact ⟨e + 2, f', by omega, by go_num, HF.out⟩
                      case measure => simp [intOf]; omega
                    · skip
                      clear hasb
                      go_wp2_with (first | (go_at_call 32; refine (isWord_any _ _ _ _ _ _ ts H.out).mono ?_; rintro e w' ⟨rfl, rfl⟩) | (go_at_call 33; refine (isPunct_any _ _ _ _ _ _ ts H.out).mono ?_; rintro e w' ⟨rfl, rfl⟩) | (go_at_call 34; refine (closing_any _ _ _ _ _ ts H.out hm (by omega)).mono ?_; rintro ee w' ⟨he, rfl⟩; rw [HC.out] at he; dsimp only at he; subst he))
                      go_round
                      case rel => exact ⟨e + 2, f', by omega, by go_num, HF.out⟩
                      case measure => simp [intOf]; omega
                  · rw [if_neg hcm] at hRf
                    have hcm' : isPunctL ts ((e : Int) + 1) [44] = false := by simpa using hcm
                    have HF : Hid (e + 1 = R) := hRf
                    clear hRf hcm
                    cases hab : isWordL ts ((u : Int) - 1) [97, 115]
                    · skip
                      have hmt : isWordL ts ((u : Int) - 1) [109, 97, 116, 101, 114, 105, 97, 108, 105, 122, 101, 100] = true := by have := hasb; rw [asBefore, hab] at this; simpa using this
                      clear hasb
                      go_wp2_with (first | (go_at_call 32; refine (isWord_any _ _ _ _ _ _ ts H.out).mono ?_; rintro e w' ⟨rfl, rfl⟩) | (go_at_call 33; refine (isPunct_any _ _ _ _ _ _ ts H.out).mono ?_; rintro e w' ⟨rfl, rfl⟩) | (go_at_call 34; refine (closing_any _ _ _ _ _ ts H.out hm (by omega)).mono ?_; rintro ee w' ⟨he, rfl⟩; rw [HC.out] at he; dsimp only at he; subst he))
                      go_ret
                      exact ⟨by rw [← HF.out]; rfl, rfl⟩
                    · skip
                      clear hasb
                      go_wp2_with (first | (go_at_call 32; refine (isWord_any _ _ _ _ _ _ ts H.out).mono ?_; rintro e w' ⟨rfl, rfl⟩) | (go_at_call 33; refine (isPunct_any _ _ _ _ _ _ ts H.out).mono ?_; rintro e w' ⟨rfl, rfl⟩) | (go_at_call 34; refine (closing_any _ _ _ _ _ ts H.out hm (by omega)).mono ?_; rintro ee w' ⟨he, rfl⟩; rw [HC.out] at he; dsimp only at he; subst he))
                      go_ret
                      exact ⟨by rw [← HF.out]; rfl, rfl⟩
                · rw [if_neg hasb] at hRf
                  have hasf : asBefore ts u = false := by simpa using hasb
                  have hab : isWordL ts ((u : Int) - 1) [97, 115] = false := (Bool.or_eq_false_iff.1 hasf).1
                  have hmt : isWordL ts ((u : Int) - 1) [109, 97, 116, 101, 114, 105, 97, 108, 105, 122, 101, 100] = false := (Bool.or_eq_false_iff.1 hasf).2
                  have HF : Hid (p ≤ e + 1 + f' ∧ awF ts p f' (e + 1) = R) := ⟨by omega, hRf⟩
                  clear hRf hasb hasf
                  go_wp2_with (first | (go_at_call 32; refine (isWord_any _ _ _ _ _ _ ts H.out).mono ?_; rintro e w' ⟨rfl, rfl⟩) | (go_at_call 33; refine (isPunct_any _ _ _ _ _ _ ts H.out).mono ?_; rintro e w' ⟨rfl, rfl⟩) | (go_at_call 34; refine (closing_any _ _ _ _ _ ts H.out hm (by omega)).mono ?_; rintro ee w' ⟨he, rfl⟩; rw [HC.out] at he; dsimp only at he; subst he))
                  go_round
                  case rel => exact ⟨e + 1, f', by omega, by go_num, HF.out⟩
                  case measure => simp [intOf]; omega
      · have HF : Hid (p = R) := by have := HQ.out.2; rw [awF_out (by omega)] at this; exact this
        clear HQ
        go_wp2_with fail
        go_ret
        exact ⟨by rw [← HF.out]; rfl, rfl⟩
end Go.Proofs.Qxb6602215a
