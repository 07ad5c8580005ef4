import Derived.Test.Qxb6602218aBounded
namespace Go.Proofs.Qxb6602218a
open Go.RowKit Go.Deep
set_option linter.unusedVariables false

set_option maxRecDepth 100000 in
set_option maxHeartbeats 1000000 in
theorem zzBounded_any (ao : Option Addr) (n c : Nat) (w : World) (ss : List ByteArray) (h : StrS w ao n ss) (hm : n ≤ 1048576) :
    Calls Try.prog 8 #[.slice ao n c] w (BPost w (.slice ao n c) n ss) := by
  have H : Hid (StrS w ao n ss) := h
  clear h
  go_enter Try.func8, Try.ntmps8
  go_wp2_with fail
  refine (bounded_any ao n c w ss H.out hm).mono ?_
  intro e w1 hb
  rcases hb with ⟨h1, rfl, rfl⟩ | ⟨hex, g, cap, rfl, hg, R, bel⟩
  · go_wp2_with fail
    go_ret
    exact Or.inl ⟨h1, rfl, rfl⟩
  · have HR : Hid (Rw w1 g n cap (ss.map bnd)) := R
    clear R
    go_wp2_with fail
    go_ret
    exact Or.inr ⟨hex, g, cap, rfl, hg, HR.out, bel⟩

def TrueB (w : World) (e : Ending) (w' : World) : Prop := e = .returned (.bool true) ∧ Below w.heap.size w w'
theorem trueB_mk {w w' : World} (h : Below w.heap.size w w') : TrueB w (.returned (.bool true)) w' := ⟨rfl, h⟩
set_option maxRecDepth 100000 in
set_option maxHeartbeats 4000000 in
/-- No value is too long. -/
theorem bMain (ao : Option Addr) (n c : Nat) (w : World) (ss : List ByteArray) (h : StrS w ao n ss) (hm : n ≤ maxLen) :
    Calls Try.prog 3 #[.slice ao n c] w (TrueB w) := by
  have H : Hid (StrS w ao n ss) := h
  clear h
  obtain ⟨j9, hj9, _, hj9s, _⟩ := info_parts Try.info9
  go_enter Try.func3, Try.ntmps3
  go_wp2_with fail
  refine (zz5_any ao n c w ss H.out hm).mono ?_
  rintro e w0 ⟨b0, rfl, hb0, rfl⟩
  cases b0
  · go_wp2
    go_ret
    exact trueB_mk (Below.refl _ _)
  have hn : n ≤ 1048576 := hb0 rfl
  clear hb0 hm
  go_wp2_with fail
  refine (bytesOf_any ao n c w0 ss H.out hn).mono ?_
  rintro e w0' ⟨z, rfl, rfl⟩
  by_cases hz : 1048576 < z
  · go_wp2
    go_ret
    exact trueB_mk (Below.refl _ _)
  go_wp2_with fail
  refine (clone_any ao n c w0' ss H.out hn).mono ?_
  intro e w1 hcl
  obtain ⟨a1, c1, hv, SV, B1, HA⟩ : ∃ a1 c1, e = .returned (.slice a1 n c1) ∧ StrS w1 a1 n ss ∧ Below w0'.heap.size w0' w1 ∧ ((a1 = none ∧ n = 0) ∨ ∃ g, a1 = some ⟨g, 0, none⟩ ∧ Rw w1 g n c1 ss) := by
    rcases hcl with ⟨rfl, rfl, rfl, rfl⟩ | ⟨_, g, rfl, hg, R, bel⟩
    · exact ⟨none, 0, rfl, ⟨H.out.1, Or.inl rfl⟩, Below.refl _ _, Or.inl ⟨rfl, rfl⟩⟩
    · exact ⟨_, _, rfl, R.strs, bel, Or.inr ⟨g, rfl, R⟩⟩
  subst hv
  clear hcl
  have HV1 : Hid (StrS w1 a1 n ss) := SV
  have HA1 : Hid ((a1 = none ∧ n = 0) ∨ ∃ g, a1 = some ⟨g, 0, none⟩ ∧ Rw w1 g n c1 ss) := HA
  clear SV HA
  go_wp2_with fail
  refine (zzBounded_any a1 n c1 w1 ss HV1.out hn).mono ?_
  intro e w2 hb
  rcases hb with ⟨hsh, rfl, rfl⟩ | ⟨hex, g1, cap, rfl, hg1, R1, B2⟩
  · have HSH : Hid (∀ (i : Nat) (s : ByteArray), ss[i]? = some s → long s = false) := hsh
    have HV : Hid (StrS w2 a1 n ss) := HV1.out
    have HO : Hid (StrS w2 ao n ss) := H.out.below B1
    have BW : Hid (Below w0'.heap.size w0' w2) := B1
    clear hsh HV1 H B1
    go_wp2_with fail
    go_loopw [5] (fun i wr => ∃ k : Nat, k ≤ n ∧ i = .int .i64 k ∧ Below w2.heap.size w2 wr) (fun i _ => n - (intOf i).toNat)
    case atStart => exact ⟨0, Nat.zero_le _, rfl, Below.refl _ _⟩
    case round =>
      obtain ⟨k, hk, rfl, hbel⟩ := hrel
      by_cases hlt : k < n
      · obtain ⟨b, o, s, hao, hs, c0⟩ := (HO.out.below hbel).at hlt
        obtain ⟨b', o', s', hao', hs', c0'⟩ := (HV.out.below hbel).at hlt
        have es : s' = s := Option.some.inj (hs'.out.symm.trans hs.out)
        subst es hao hao'
        clear hs hs'
        have hlt' : (k : Int) < (n : Int) := by omega
        have hk0 : (0 : Int) ≤ (k : Int) := by omega
        go_wp2_with fail
        go_quiet (fail)
        go_wp2_with fail
        go_roundw
        case rel => exact ⟨k + 1, by omega, by go_num, below_drewN hbel _⟩
        case measure => simp [intOf]; omega
      · have HB1 : Hid (Below w2.heap.size w2 wr) := hbel
        clear hbel
        go_wp2_with fail
        go_loopw [6, 7] (fun f i wr => f = .bool false ∧ ∃ k : Nat, k ≤ n ∧ i = .int .i64 k ∧ Below w2.heap.size w2 wr) (fun _ i _ => n - (intOf i).toNat)
        case atStart => exact ⟨rfl, 0, Nat.zero_le _, rfl, HB1.out⟩
        case round =>
          clear HB1
          obtain ⟨rfl, k, hk, rfl, hbel⟩ := hrel
          by_cases hlt : k < n
          · obtain ⟨b', o', s, hao', hs', c0'⟩ := (HV.out.below hbel).at hlt
            subst hao'
            have hsz : ¬ 63 < s.size := by have := HSH.out k s hs'.out; simp [long] at this; omega
            clear hs'
            have hlt' : (k : Int) < (n : Int) := by omega
            have hk0 : (0 : Int) ≤ (k : Int) := by omega
            go_wp2_with fail
            go_quiet (fail)
            go_wp2_with fail
            go_roundw
            case rel => exact ⟨rfl, k + 1, by omega, by go_num, below_drewN hbel _⟩
            case measure => simp [intOf]; omega
          · have hq := fun wx => Lib.run_eql_slice_nil (P := Try.prog) wx 22 9 a1 n c1 0 0 Try.underlying22
            have HB2 : Hid (Below w2.heap.size w2 wr) := hbel
            clear hbel
            rcases HA1.out with ⟨rfl, rfl⟩ | ⟨g, rfl, _⟩
            · have hz0 : decide ((0 : Int) < ((0 : Nat) : Int)) = false := by simp
              go_wp2_with fail
              go_quiet (fail)
              go_wp2_with fail
              go_ret
              exact trueB_mk (BW.out.trans ((below_drewN HB2.out _).mono BW.out.size))
            · by_cases hn0 : 0 < n
              · have hn0' : (0 : Int) < (n : Int) := by omega
                have hpp := fun wx => run_neq_ptr_same (P := Try.prog) wx (tp := 26) ⟨g, 0, none⟩ Try.underlying26 hj9
                go_wp2_with fail
                go_quiet (fail)
                go_wp2_with fail
                go_ret
                exact trueB_mk (BW.out.trans ((below_drewN HB2.out _).mono BW.out.size))
              · have hn0' : decide ((0 : Int) < (n : Int)) = false := by simp; omega
                have hn0'' : decide (0 < n) = false := by simp; omega
                go_wp2_with fail
                go_quiet (fail)
                go_wp2_with fail
                go_ret
                exact trueB_mk (BW.out.trans ((below_drewN HB2.out _).mono BW.out.size))
  · have hn0 : 0 < n := by
      obtain ⟨i, s, hs, _⟩ := hex
      have := (List.getElem?_eq_some_iff.1 hs).1
      have := H.out.1
      omega
    obtain ⟨g0, hga, R0⟩ : ∃ g, a1 = some ⟨g, 0, none⟩ ∧ Rw w1 g n c1 ss := by
      rcases HA1.out with ⟨_, h0⟩ | h
      · omega
      · exact h
    subst hga
    have hne : Hid (¬ g0 = g1) := fun e => by have := R0.lt; omega
    have HEX : Hid (∃ (i : Nat) (s : ByteArray), ss[i]? = some s ∧ long s = true) := hex
    have HR1 : Hid (Rw w2 g1 n cap (ss.map bnd)) := R1
    have HR0 : Hid (Rw w2 g0 n c1 ss) := R0.below R0.lt B2
    have HV : Hid (StrS w2 (some ⟨g0, 0, none⟩) n ss) := HR0.out.strs
    have HO : Hid (StrS w2 ao n ss) := (H.out.below B1).below B2
    have BW : Hid (Below w0'.heap.size w0' w2) := B1.trans (B2.mono B1.size)
    clear hex HV1 HA1 H B1 B2 R1 R0 hg1
    go_wp2_with fail
    go_loopw [5] (fun i wr => ∃ k : Nat, k ≤ n ∧ i = .int .i64 k ∧ Below w2.heap.size w2 wr) (fun i _ => n - (intOf i).toNat)
    case atStart => exact ⟨0, Nat.zero_le _, rfl, Below.refl _ _⟩
    case round =>
      obtain ⟨k, hk, rfl, hbel⟩ := hrel
      by_cases hlt : k < n
      · obtain ⟨b, o, s, hao, hs, c0⟩ := (HO.out.below hbel).at hlt
        obtain ⟨b', o', s', hao', hs', c0'⟩ := (HV.out.below hbel).at hlt
        have es : s' = s := Option.some.inj (hs'.out.symm.trans hs.out)
        subst es hao; simp only [Option.some.injEq, Addr.mk.injEq, and_true] at hao'; obtain ⟨rfl, rfl⟩ := hao'; rw [Nat.zero_add] at c0'
        clear hs hs'
        have hlt' : (k : Int) < (n : Int) := by omega
        have hk0 : (0 : Int) ≤ (k : Int) := by omega
        go_wp2_with fail
        go_quiet (fail)
        go_wp2_with fail
        go_roundw
        case rel => exact ⟨k + 1, by omega, by go_num, below_drewN hbel _⟩
        case measure => simp [intOf]; omega
      · have HB1 : Hid (Below w2.heap.size w2 wr) := hbel
        clear hbel
        go_wp2_with fail
        go_loopw [6, 7] (fun f i wr => ∃ (k : Nat) (fl : Bool), k ≤ n ∧ f = .bool fl ∧ Hid (fl = (ss.take k).any long) ∧ i = .int .i64 k ∧ Below w2.heap.size w2 wr) (fun _ i _ => n - (intOf i).toNat)
        case atStart => exact ⟨0, false, Nat.zero_le _, rfl, rfl, rfl, HB1.out⟩
        case round =>
          clear HB1
          obtain ⟨k, fl, hk, rfl, HF, rfl, hbel⟩ := hrel
          by_cases hlt : k < n
          · obtain ⟨b', o', s, hao', hs', c0'⟩ := (HV.out.below hbel).at hlt
            simp only [Option.some.injEq, Addr.mk.injEq, and_true] at hao'
            obtain ⟨rfl, rfl⟩ := hao'
            rw [Nat.zero_add] at c0'
            have d0 := (HR1.out.below HR1.out.lt hbel).cell (k := k) (s := bnd s) (by rw [List.getElem?_map, hs'.out]; rfl)
            have hany : (ss.take (k + 1)).any long = ((ss.take k).any long || long s) := by
              have hk' := (List.getElem?_eq_some_iff.1 hs'.out).1
              rw [List.take_succ_eq_append_getElem hk', List.any_append]
              have : ss[k] = s := (List.getElem?_eq_some_iff.1 hs'.out).2
              rw [this]; simp
            rw [← HF.out] at hany
            have hlt' : (k : Int) < (n : Int) := by omega
            have hk0 : (0 : Int) ≤ (k : Int) := by omega
            clear hs'
            by_cases hsz : 63 < s.size
            · have hl : long s = true := by simp [long, hsz]
              have eb : bnd s = ⟨#[111, 116, 104, 101, 114]⟩ := by simp [bnd, hl, bOther]
              rw [eb] at d0
              rw [hl] at hany
              have HAN : Hid ((ss.take (k + 1)).any long = (fl || true)) := hany
              clear eb hl hany
              go_wp2_with fail
              go_roundw
              case rel => exact ⟨k + 1, true, by omega, rfl, by show true = (ss.take (k + 1)).any long; rw [HAN.out]; simp, by go_num, hbel⟩
              case measure => simp [intOf]; omega
            · have hl : long s = false := by simp [long]; omega
              have eb : bnd s = s := by simp [bnd, hl]
              rw [eb] at d0
              rw [hl] at hany
              have HAN : Hid ((ss.take (k + 1)).any long = (fl || false)) := hany
              clear eb hl hany
              go_wp2_with fail
              go_quiet (fail)
              go_wp2_with fail
              go_roundw
              case rel => exact ⟨k + 1, fl, by omega, rfl, by show fl = (ss.take (k + 1)).any long; rw [HAN.out]; simp, by go_num, below_drewN hbel _⟩
              case measure => simp [intOf]; omega
          · have hft : fl = true := by
              rw [HF.out, List.any_eq_true]
              obtain ⟨i, s, hs, hl⟩ := HEX.out
              have hi := (List.getElem?_eq_some_iff.1 hs).1
              have hkl : k = ss.length := by have := HV.out.1; omega
              rw [hkl, List.take_length]
              exact ⟨s, List.mem_of_getElem? hs, hl⟩
            subst hft
            clear HF
            have hq := fun wx => Lib.run_eql_slice_nil (P := Try.prog) wx 22 9 (some ⟨g1, 0, none⟩) n cap 0 0 Try.underlying22
            have HB2 : Hid (Below w2.heap.size w2 wr) := hbel
            clear hbel
            go_wp2_with fail
            clear hq
            go_loopw [8] (fun i wr => ∃ k : Nat, k ≤ n ∧ i = .int .i64 k ∧ Below w2.heap.size w2 wr) (fun i _ => n - (intOf i).toNat)
            case atStart => exact ⟨0, Nat.zero_le _, rfl, HB2.out⟩
            case round =>
              clear HB2
              obtain ⟨k, hk, rfl, hbel⟩ := hrel
              by_cases hlt : k < n
              · have hlt' : (k : Int) < (n : Int) := by omega
                have hk0 : (0 : Int) ≤ (k : Int) := by omega
                have hn0 : (0 : Int) < (n : Int) := by omega
                obtain ⟨cu1, hb1⟩ := (HR1.out.below HR1.out.lt hbel).block
                obtain ⟨cu0, hb0⟩ := (HR0.out.below HR0.out.lt hbel).block
                have hp1 := fun nq => run_eql_ptr_other (P := Try.prog) (wr.drewN nq) (tp := 26) (a := ⟨g1, k, none⟩) (b := ⟨g0, 0, none⟩) Try.underlying26 hj9 (by rw [hj9s]; omega) (fun e => hne.out (Addr.mk.inj e).1.symm) hb1 hb0
                have hp2 := fun nq => run_eql_ptr_other (P := Try.prog) (wr.drewN nq) (tp := 26) (a := ⟨g0, k, none⟩) (b := ⟨g1, 0, none⟩) Try.underlying26 hj9 (by rw [hj9s]; omega) (fun e => hne.out (Addr.mk.inj e).1) hb0 hb1
                clear hb1 hb0
                go_wp2_with fail
                go_quiet (fail)
                go_wp2_with fail
                go_quiet (fail)
                go_wp2_with fail
                go_roundw
                case rel => exact ⟨k + 1, by omega, by go_num, by first | exact below_drewN hbel _ | exact below_drewN (below_drewN hbel _) _⟩
                case measure => simp [intOf]; omega
              · have HB3 : Hid (Below w2.heap.size w2 wr) := hbel
                clear hbel
                go_wp2_with fail
                go_ret
                exact trueB_mk (BW.out.trans (HB3.out.mono BW.out.size))
end Go.Proofs.Qxb6602218a
