import Derived.Test.Qxb6602218aDoorField
import Derived.Test.Qxb6602218aDoorInjMain
namespace Go.Proofs.Qxb6602218aDoor
open Go.RowKit Go.Deep
set_option linter.unusedVariables false

theorem at_idx {kk : ByteArray} {i : Nat} {d : UInt8} (h : kk.data.toList[i]? = some d) (hs : i < kk.size) : (kk[i]'hs).toNat = d.toNat := by
  have e : kk[i] = d := by
    have := (List.getElem?_eq_some_iff.1 h).2
    rw [Array.getElem_toList] at this
    exact this
  rw [e]
theorem at_idx_nat {kk : ByteArray} {i d : Nat} (h : kk.data.toList[i]? = some (UInt8.ofNat d)) (hd : d ≤ 57) (hs : i < kk.size) : (kk[i]'hs).toNat = d := by
  rw [at_idx h hs, UInt8.toNat_ofNat']; omega

set_option maxRecDepth 100000 in
set_option maxHeartbeats 4000000 in
/-- The reader takes the key of just these values. -/
theorem parse_any (kk : ByteArray) (ao : Option Addr) (n c : Nat) (w : World) (ss : List ByteArray) (h : StrS w ao n ss) (hn : n ≤ 1048576) (hk : kk = ⟨(keyL ss).toArray⟩) (hsz : kk.size ≤ 4194304) :
    Calls Tryd.prog 10 #[.string kk, .slice ao n c] w (TrueB w) := by
  have H : Hid (StrS w ao n ss) := h
  have HK : Hid (kk = ⟨(keyL ss).toArray⟩) := hk
  have HKL : Hid (kk.size = (keyL ss).length) := by
    show _ = _
    rw [hk]; rfl
  clear h hk
  go_enter Tryd.func10, Tryd.ntmps10
  go_wp2_with fail
  go_loopw [5, 6] (fun pos i wr => ∃ j q : Nat, j ≤ n ∧ i = .int .i64 j ∧ pos = .int .i64 q ∧ Hid (q = (keyL (ss.take j)).length) ∧ Hid (Below w.heap.size w wr)) (fun _ i _ => n - (intOf i).toNat)
  case atStart => exact ⟨0, 0, Nat.zero_le _, rfl, rfl, rfl, Below.refl _ _⟩
  case round =>
    obtain ⟨j, p, hj, rfl, rfl, HP, HB⟩ := hrel
    by_cases hlt : j < n
    · obtain ⟨g, o, s, hao, hs, c0⟩ := (H.out.below HB.out).at hlt
      subst hao
      have F0 := field_of hs.out
      rw [← HK.out, ← HP.out] at F0
      have HN : Hid ((keyL (ss.take (j + 1))).length = p + Lib.nDigits s.size + 1 + s.size) := by
        have := field_next (kk := kk) hs.out
        rw [← HP.out] at this
        exact this
      generalize Lib.nDigits s.size = m at F0 HN
      have F : Hid (Field kk p m s.size s) := F0
      have hroom := F0.room
      have hone := F0.one
      clear F0 hs HP
      go_wp2_with fail
      go_loop [5, 8] (fun pos nn => ∃ t q v : Nat, pos = .int .i64 q ∧ nn = .int .i64 v ∧ t ≤ m ∧ Hid (q = p + t) ∧ Hid (v = dv s.size t)) (fun pos _ => p + m - (intOf pos).toNat)
      case atStart => exact ⟨0, p, 0, rfl, rfl, Nat.zero_le _, rfl, rfl⟩
      case round =>
        obtain ⟨t, q, v, rfl, rfl, ht, HQ, HV⟩ := hrel
        have hv : v ≤ s.size := by rw [HV.out]; exact dv_le _ _
        have hql : q < kk.size := by have := HQ.out; omega
        by_cases hlt2 : t < m
        · obtain ⟨d, hd, hd1, hd2, hdv, _⟩ := F.out.digit t hlt2
          rw [← HQ.out] at hd
          have hix : (kk[q]'hql).toNat = d := at_idx_nat hd hd2 hql
          have HDV : Hid (dv s.size (t + 1) = v * 10 + (d - 48)) := by
            show _ = _
            rw [hdv, HV.out]
          clear hd hdv HV
          go_wp2_with fail
          go_round
          case rel => exact ⟨t + 1, q + 1, v * 10 + (d - 48), by go_num, by go_num, hlt2, by show q + 1 = _; have := HQ.out; omega, HDV.out.symm⟩
          case measure => have := HQ.out; simp [intOf]; omega
        · have et : t = m := by omega
          subst et
          have hix : (kk[q]'hql).toNat = 58 := at_idx (d := 58) (by have := F.out.colon; rw [← HQ.out] at this; exact this) hql
          have hvu : v = s.size := by rw [HV.out, F.out.full]
          clear HV hv
          subst hvu
          obtain ⟨d0, hd, hd1, hd2, _, hz⟩ := F.out.digit 0 (by omega)
          have hpl : p < kk.size := by omega
          have hi0 : (kk[p]'hpl).toNat = d0 := at_idx_nat hd hd2 hpl
          have hne : ¬ (q : Int) = (p : Int) := by have := HQ.out; omega
          obtain ⟨r, hr⟩ : ∃ r : Nat, (q : Int) + 1 = (r : Int) := ⟨q + 1, by omega⟩
          obtain ⟨r2, hr2⟩ : ∃ r2 : Nat, (r : Int) + (s.size : Int) = (r2 : Int) := ⟨r + s.size, by omega⟩
          have hrl : r2 ≤ kk.size := by have := HQ.out; omega
          have hrr : r ≤ r2 := by omega
          have hpc : kk.extract r r2 = s := by
            have := F.out.piece
            rw [← HQ.out] at this
            rw [show r = q + 1 by omega, show r2 = q + 1 + s.size by omega]
            exact this
          have HR2 : Hid (r2 = (keyL (ss.take (j + 1))).length) := by
            show _ = _
            rw [HN.out]; have := HQ.out; omega
          clear hd F HN ht hlt2
          by_cases h48 : d0 = 48
          · have hone' := hz rfl h48
            subst h48
            have hgt : ¬ (1 < (q : Int) - (p : Int)) := by have := HQ.out; omega
            go_wp2_with fail
            go_quiet (fail)
            go_wp2_with fail
            go_roundw
            case rel => exact ⟨j + 1, r2, by omega, by go_num, by first | rfl | go_num, HR2, below_drewN HB.out _⟩
            case measure => simp [intOf]; omega
          · have h48' : ¬ (d0 : Int) = 48 := by omega
            clear hz
            go_wp2_with fail
            go_quiet (fail)
            go_wp2_with fail
            go_roundw
            case rel => exact ⟨j + 1, r2, by omega, by go_num, by first | rfl | go_num, HR2, below_drewN HB.out _⟩
            case measure => simp [intOf]; omega
    · have he : j = n := by omega
      subst he
      have hpe : p = kk.size := by
        rw [HP.out, HKL.out, List.take_of_length_le (by have := H.out.1; omega)]
      subst hpe
      clear HP
      go_wp2_with fail
      go_ret
      exact trueB_mk HB.out

set_option maxRecDepth 100000 in
set_option maxHeartbeats 4000000 in
/-- The key of any values reads back as just these. -/
theorem decMain (ao : Option Addr) (n c : Nat) (w : World) (ss : List ByteArray) (h : StrS w ao n ss) (hm : n ≤ maxLen) (ht : Tab w) :
    Calls Tryd.prog 3 #[.slice ao n c] w (TrueB w) := by
  have H : Hid (StrS w ao n ss) := h
  have HT : Hid (Tab w) := ht
  have hw0 := ht.2
  clear h ht
  go_enter Tryd.func3, Tryd.ntmps3
  go_wp2_with fail
  refine (zz6_any ao n c w ss H.out hm).mono ?_
  rintro e w0 ⟨b0, rfl, hb0, rfl⟩
  cases b0
  · go_wp2_with fail
    go_ret
    exact trueB_mk (Below.refl _ _)
  have hN := hb0 rfl
  have hn : n ≤ 1048576 := by omega
  have HN : Hid (n + tot ss ≤ 1048576) := hN
  clear hb0 hm hN
  go_wp2_with fail
  refine (bytesOf_any ao n c w0 ss H.out hn).mono ?_
  rintro e w1 ⟨z, rfl, rfl⟩
  by_cases hz : 1048576 < z
  · go_wp2_with fail
    go_ret
    exact trueB_mk (Below.refl _ _)
  go_wp2_with fail
  refine (clone_any ao n c w1 ss H.out hn).mono ?_
  intro e w2 hcl
  obtain ⟨a1, c1, rfl, V, B1⟩ := cloned_strs H.out.1 hcl
  clear hcl hz
  go_wp2_with fail
  refine (ZZkey_any a1 n c1 w2 ss V.out HN.out (HT.out.below B1.out hw0)).mono ?_
  rintro e w3 ⟨rfl, b2⟩
  have B2 : Hid (Below w2.heap.size w2 w3) := b2
  have B3 : Hid (Below w1.heap.size w1 w3) := B1.out.trans (b2.mono B1.out.size)
  have HL : Hid ((⟨(keyL ss).toArray⟩ : ByteArray).size ≤ 4194304) := by
    show (keyL ss).toArray.size ≤ _
    have h1 := keyL_len ss
    have h2 := HN.out
    have h3 := H.out.1
    simp only [List.size_toArray]
    omega
  clear b2
  go_wp2_with fail
  refine (parse_any ⟨(keyL ss).toArray⟩ a1 n c1 w3 ss (V.out.below B2.out) hn rfl HL.out).mono ?_
  rintro e w4 ⟨rfl, b4⟩
  have B4 : Hid (Below w3.heap.size w3 w4) := b4
  clear b4
  go_wp2_with fail
  go_ret
  exact trueB_mk (B3.out.trans (B4.out.mono B3.out.size))
end Go.Proofs.Qxb6602218aDoor
