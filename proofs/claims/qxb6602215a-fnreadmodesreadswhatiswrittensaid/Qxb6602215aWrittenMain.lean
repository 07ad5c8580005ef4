import Derived.Test.Qxb6602215aWritten
import Derived.Test.Qxb6602215aModesMain
import Derived.Deep.DeepCutAuto
import Derived.Deep.LoopGhost
import Derived.Deep.CutBlock
namespace Go.Proofs.Qxb6602215a
open Go.RowKit Go.Deep
set_option linter.unusedVariables false

/-- A slice of bytes; of bools. -/
def U8s (w : World) (ao : Option Addr) (n : Nat) (zs : Nat → Int) : Prop :=
  n = 0 ∨ ∃ b o, ao = some ⟨b, o, none⟩ ∧ ∀ i, i < n → w.cell? ⟨b, o + i, none⟩ = some (.int .u8 (zs i)) ∧ 0 ≤ zs i ∧ zs i ≤ 255
def Bools (w : World) (ao : Option Addr) (n : Nat) (bs : Nat → Bool) : Prop :=
  n = 0 ∨ ∃ b o, ao = some ⟨b, o, none⟩ ∧ ∀ i, i < n → w.cell? ⟨b, o + i, none⟩ = some (.bool (bs i))
theorem U8s.at {w : World} {ao : Option Addr} {n : Nat} {zs : Nat → Int} (h : U8s w ao n zs) {k : Nat} (hk : k < n) : ∃ b o, ao = some ⟨b, o, none⟩ ∧ w.cell? ⟨b, o + k, none⟩ = some (.int .u8 (zs k)) ∧ 0 ≤ zs k ∧ zs k ≤ 255 := by
  rcases h with h | ⟨b, o, ha, hc⟩
  · omega
  · exact ⟨b, o, ha, hc k hk⟩
theorem Bools.at {w : World} {ao : Option Addr} {n : Nat} {bs : Nat → Bool} (h : Bools w ao n bs) {k : Nat} (hk : k < n) : ∃ b o, ao = some ⟨b, o, none⟩ ∧ w.cell? ⟨b, o + k, none⟩ = some (.bool (bs k)) := by
  rcases h with h | ⟨b, o, ha, hc⟩
  · omega
  · exact ⟨b, o, ha, hc k hk⟩
theorem U8s.below {w w' : World} {ao : Option Addr} {n : Nat} {zs : Nat → Int} (h : U8s w ao n zs) (bel : Below w.heap.size w w') : U8s w' ao n zs := by
  rcases h with h | ⟨b, o, ha, hc⟩
  · exact Or.inl h
  · exact Or.inr ⟨b, o, ha, fun i hi => ⟨(bel.cell (p := ⟨b, o + i, none⟩) (World.block_lt_of_cell? w _ (hc i hi).1)).trans (hc i hi).1, (hc i hi).2⟩⟩
theorem Bools.below {w w' : World} {ao : Option Addr} {n : Nat} {bs : Nat → Bool} (h : Bools w ao n bs) (bel : Below w.heap.size w w') : Bools w' ao n bs := by
  rcases h with h | ⟨b, o, ha, hc⟩
  · exact Or.inl h
  · exact Or.inr ⟨b, o, ha, fun i hi => (bel.cell (p := ⟨b, o + i, none⟩) (World.block_lt_of_cell? w _ (hc i hi))).trans (hc i hi)⟩

set_option maxHeartbeats 1000000 in
theorem zz16_any (a1 a2 : Option Addr) (n1 c1 n2 c2 : Nat) (w : World) (h1 : n1 ≤ maxLen) (h2 : n2 ≤ maxLen) :
    Calls Try.prog 16 #[.slice a1 n1 c1, .slice a2 n2 c2] w (Guarded 0 0 w) := by
  unfold maxLen at h1 h2
  by_cases g1 : n1 ≤ 1048576
  · by_cases g2 : n2 ≤ 1048576
    · clear h1 h2
      go_enter Try.func16, Try.ntmps16
      go_wp2
      all_goals (go_ret; exact guarded_mk (fun _ => Nat.le_refl _))
    · go_enter Try.func16, Try.ntmps16
      go_wp2
      all_goals (go_ret; exact guarded_mk (fun _ => Nat.le_refl _))
  · go_enter Try.func16, Try.ntmps16
    go_wp2
    all_goals (go_ret; exact guarded_mk (fun _ => Nat.le_refl _))

def cmOf (n nc : Nat) (bs : Nat → Bool) (k : Nat) : Bool := decide (k + 1 < n) && decide (k < nc) && bs k

set_option maxRecDepth 100000 in
set_option maxHeartbeats 4000000 in
theorem writtenMain (a1 a2 : Option Addr) (n c1 nc c2 : Nat) (w : World) (zs : Nat → Int) (bs : Nat → Bool) (h1 : U8s w a1 n zs) (h2 : Bools w a2 nc bs) (hm1 : n ≤ maxLen) (hm2 : nc ≤ maxLen) :
    Calls Try.prog 4 #[.slice a1 n c1, .slice a2 nc c2] w (TrueB w) := by
  have H1 : Hid (U8s w a1 n zs) := h1
  have H2 : Hid (Bools w a2 nc bs) := h2
  clear h1 h2
  obtain ⟨i0, hi, hz0, hz1, hz2⟩ := info_parts Try.info9
  obtain ⟨i1, hj, hy0, hy1, hy2⟩ := info_parts Try.info35
  by_cases hn : n ≤ 4096
  case neg =>
    unfold maxLen at hm1 hm2
    go_enter Try.func4, Try.ntmps4
    go_wp2_with fail
    refine (zz16_any a1 a2 n c1 nc c2 w hm1 hm2).mono ?_
    rintro e w0 ⟨b0, rfl, _, rfl⟩
    cases b0
    · go_wp2
      go_ret
      exact trueB_mk (Below.refl _ _)
    · go_wp2
      go_ret
      exact trueB_mk (Below.refl _ _)
  by_cases hnc : nc ≤ 4096
  case neg =>
    unfold maxLen at hm1 hm2
    go_enter Try.func4, Try.ntmps4
    go_wp2_with fail
    refine (zz16_any a1 a2 n c1 nc c2 w hm1 hm2).mono ?_
    rintro e w0 ⟨b0, rfl, _, rfl⟩
    cases b0
    · go_wp2
      go_ret
      exact trueB_mk (Below.refl _ _)
    · go_wp2
      go_ret
      exact trueB_mk (Below.refl _ _)
  go_enter Try.func4, Try.ntmps4
  go_wp2_with fail
  refine (zz16_any a1 a2 n c1 nc c2 w hm1 hm2).mono ?_
  rintro e w0 ⟨b0, rfl, _, rfl⟩
  clear hm1 hm2
  cases b0
  · go_wp2
    go_ret
    exact trueB_mk (Below.refl _ _)
  go_wp2_with fail
  go_loop [5] (fun i => ∃ k : Nat, k ≤ n ∧ i = .int .i64 k ∧ Hid (∀ i, i < k → 0 ≤ zs i ∧ zs i ≤ 7)) (fun i => n - (intOf i).toNat)
  case atStart => exact ⟨0, Nat.zero_le _, rfl, fun i hi => by omega⟩
  case round =>
    obtain ⟨k, hk, rfl, HZ⟩ := hrel
    by_cases hlt : k < n
    · obtain ⟨b, o, ha, hcell, z0, z1⟩ := H1.out.at hlt
      subst ha
      by_cases h7 : zs k ≤ 7
      · have HZ' : Hid (∀ i, i < k + 1 → 0 ≤ zs i ∧ zs i ≤ 7) := fun i hi => by
          by_cases e : i = k
          · subst e; exact ⟨z0, h7⟩
          · exact HZ.out i (by omega)
        go_wp2_with fail
        go_round
        case rel => exact ⟨k + 1, by omega, by go_num, HZ'⟩
        case measure => simp [intOf]; omega
      · go_wp2_with fail
        go_ret
        exact trueB_mk (Below.refl _ _)
    · have HZ' : Hid (∀ i, i < n → 0 ≤ zs i ∧ zs i ≤ 7) := fun i hi => HZ.out i (by omega)
      clear HZ
      go_wp2_with fail
      go_loopg [6, 7, 8, 9] n (fun g vt vs rs i wr => ∃ k : Nat, k ≤ n ∧ g = n - k ∧ i = .int .i64 k ∧ rs = .bool (wSer zs k) ∧ TkW w0 wr vt (wToks zs (cmOf n nc bs) k) ∧ StrW w0 wr vs (wWant zs k))
      case atStart => exact ⟨0, Nat.zero_le _, rfl, rfl, rfl, tkW_start (Below.refl _ _), strW_start _⟩
      case round =>
        obtain ⟨q, hq, hg, rfl, rfl, T, S⟩ := hrel
        by_cases hlt2 : q < n
        · obtain ⟨b, ofs, ha, hcell, z0, z1⟩ := (H1.out.below T.bel).at hlt2
          subst ha
          have z7 : zs q ≤ 7 := (HZ'.out q hlt2).2
          have hL := wToks_len zs (cmOf n nc bs) q
          have hM := wWant_len zs q
          generalize hzq : zs q = z at hcell z0 z1 z7
          generalize hLq : wToks zs (cmOf n nc bs) q = L at T hL
          generalize hMq : wWant zs q = M at S hM
          generalize hrq : wSer zs q = r
          have E1 : Hid (wToks zs (cmOf n nc bs) (q + 1) = L ++ itemToks z ++ (if cmOf n nc bs q then [pt bComma] else [])) := by show wToks zs (cmOf n nc bs) (q + 1) = _; simp only [wToks, hLq, hzq]
          have E2 : Hid (wWant zs (q + 1) = M ++ itemWant z) := by show wWant zs (q + 1) = _; simp only [wWant, hMq, hzq]
          have E3 : Hid (wSer zs (q + 1) = itemSer z r) := by show wSer zs (q + 1) = _; simp only [wSer, hrq, hzq]
          clear hzq hLq hMq hrq
          go_upto_block 4 with fail
          go_cut [6, 7, 8] (fun vt vs rs wx => rs = .bool (itemSer z r) ∧ TkW w0 wx vt (L ++ itemToks z) ∧ StrW w0 wx vs (M ++ itemWant z))
          case first =>
            rcases (show z = 0 ∨ z = 1 ∨ z = 2 ∨ z = 3 ∨ z = 4 ∨ z = 5 ∨ z = 6 ∨ z = 7 by omega) with rfl | rfl | rfl | rfl | rfl | rfl | rfl | rfl
            · clear E1 E2 E3 z0 z1 z7 hcell
              go_wp2_with (first | (go_at_call 17; refine (wordTok_any _ _).mono ?_; rintro e w' ⟨rfl, rfl⟩) | (at_builtin; refine wpList_append_own _ rfl (.tmp 56) (.tmp 60) 22 rfl w0.heap.size 35 i1 _ 5 56 Try.underlying22 hj hy0 hy1 hy2 rfl (by decide) _ _ _ rfl ((((T.alloc _).alloc _).alloc _).alloc _).own ⟨_, 0, none⟩ 3 3 (tkRow [wt bIso, wt bLevel, wt bSer]) rfl rfl (many_new (by simp) rfl) (tkRow_one _) (by unfold maxLen; omega) (by omega) ((((T.alloc _).alloc _).alloc _).alloc _).bel.size ?_; intro v' w1 hown' hgrow _; have T1 := ((((T.alloc _).alloc _).alloc _).alloc _).push (new := [wt bIso, wt bLevel, wt bSer]) rfl hown' hgrow; have S1 := ((((S.alloc _).alloc _).alloc _).alloc _).kept ((((T.alloc _).alloc _).alloc _).alloc _) hgrow; clear hown' hgrow))
              go_meet
              case rel => exact ⟨rfl, T1, by simpa [itemWant] using S1⟩
            · clear E1 E2 E3 z0 z1 z7 hcell
              go_wp2_with (first | (go_at_call 17; refine (wordTok_any _ _).mono ?_; rintro e w' ⟨rfl, rfl⟩) | (at_builtin; refine wpList_append_own _ rfl (.tmp 64) (.tmp 69) 22 rfl w0.heap.size 35 i1 _ 5 56 Try.underlying22 hj hy0 hy1 hy2 rfl (by decide) _ _ _ rfl (((((T.alloc _).alloc _).alloc _).alloc _).alloc _).own ⟨_, 0, none⟩ 4 4 (tkRow [wt bIso, wt bLevel, wt bRep, wt bRead]) rfl rfl (many_new (by simp) rfl) (tkRow_one _) (by unfold maxLen; omega) (by omega) (((((T.alloc _).alloc _).alloc _).alloc _).alloc _).bel.size ?_; intro v' w1 hown' hgrow _; have T1 := (((((T.alloc _).alloc _).alloc _).alloc _).alloc _).push (new := [wt bIso, wt bLevel, wt bRep, wt bRead]) rfl hown' hgrow; have S1 := (((((S.alloc _).alloc _).alloc _).alloc _).alloc _).kept (((((T.alloc _).alloc _).alloc _).alloc _).alloc _) hgrow; clear hown' hgrow))
              go_meet
              case rel => exact ⟨rfl, T1, by simpa [itemWant] using S1⟩
            · clear E1 E2 E3 z0 z1 z7 hcell
              go_wp2_with (first | (go_at_call 17; refine (wordTok_any _ _).mono ?_; rintro e w' ⟨rfl, rfl⟩) | (at_builtin; refine wpList_append_own _ rfl (.tmp 73) (.tmp 78) 22 rfl w0.heap.size 35 i1 _ 5 56 Try.underlying22 hj hy0 hy1 hy2 rfl (by decide) _ _ _ rfl (((((T.alloc _).alloc _).alloc _).alloc _).alloc _).own ⟨_, 0, none⟩ 4 4 (tkRow [wt bIso, wt bLevel, wt bRead, wt bCom]) rfl rfl (many_new (by simp) rfl) (tkRow_one _) (by unfold maxLen; omega) (by omega) (((((T.alloc _).alloc _).alloc _).alloc _).alloc _).bel.size ?_; intro v' w1 hown' hgrow _; have T1 := (((((T.alloc _).alloc _).alloc _).alloc _).alloc _).push (new := [wt bIso, wt bLevel, wt bRead, wt bCom]) rfl hown' hgrow; have S1 := (((((S.alloc _).alloc _).alloc _).alloc _).alloc _).kept (((((T.alloc _).alloc _).alloc _).alloc _).alloc _) hgrow; clear hown' hgrow))
              go_meet
              case rel => exact ⟨rfl, T1, by simpa [itemWant] using S1⟩
            · clear E1 E2 E3 z0 z1 z7 hcell
              go_wp2_with (first | (go_at_call 17; refine (wordTok_any _ _).mono ?_; rintro e w' ⟨rfl, rfl⟩) | (at_builtin; refine wpList_append_own _ rfl (.tmp 82) (.tmp 87) 22 rfl w0.heap.size 35 i1 _ 5 56 Try.underlying22 hj hy0 hy1 hy2 rfl (by decide) _ _ _ rfl (((((T.alloc _).alloc _).alloc _).alloc _).alloc _).own ⟨_, 0, none⟩ 4 4 (tkRow [wt bIso, wt bLevel, wt bRead, wt bUnc]) rfl rfl (many_new (by simp) rfl) (tkRow_one _) (by unfold maxLen; omega) (by omega) (((((T.alloc _).alloc _).alloc _).alloc _).alloc _).bel.size ?_; intro v' w1 hown' hgrow _; have T1 := (((((T.alloc _).alloc _).alloc _).alloc _).alloc _).push (new := [wt bIso, wt bLevel, wt bRead, wt bUnc]) rfl hown' hgrow; have S1 := (((((S.alloc _).alloc _).alloc _).alloc _).alloc _).kept (((((T.alloc _).alloc _).alloc _).alloc _).alloc _) hgrow; clear hown' hgrow))
              go_meet
              case rel => exact ⟨rfl, T1, by simpa [itemWant] using S1⟩
            · clear E1 E2 E3 z0 z1 z7 hcell
              go_wp2_with (first | (go_at_call 17; refine (wordTok_any _ _).mono ?_; rintro e w' ⟨rfl, rfl⟩) | (at_builtin; refine wpList_append_own _ rfl (.tmp 91) (.tmp 94) 22 rfl w0.heap.size 35 i1 _ 5 56 Try.underlying22 hj hy0 hy1 hy2 rfl (by decide) _ _ _ rfl (((T.alloc _).alloc _).alloc _).own ⟨_, 0, none⟩ 2 2 (tkRow [wt bRead, wt bOnly]) rfl rfl (many_new (by simp) rfl) (tkRow_one _) (by unfold maxLen; omega) (by omega) (((T.alloc _).alloc _).alloc _).bel.size ?_; intro v' w1 hown' hgrow _; have T1 := (((T.alloc _).alloc _).alloc _).push (new := [wt bRead, wt bOnly]) rfl hown' hgrow; have S1 := (((S.alloc _).alloc _).alloc _).kept (((T.alloc _).alloc _).alloc _) hgrow; clear hown' hgrow) | (at_builtin; refine wpList_append_own _ rfl (.tmp 96) (.tmp 97) 24 rfl w0.heap.size 9 i0 _ 1 16 Try.underlying24 hi hz0 hz1 hz2 rfl (by decide) _ _ _ rfl (S1.alloc _).own ⟨_, 0, none⟩ 1 1 [.string mRO] rfl rfl (one_new (by simp)) one_str (by unfold maxLen; omega) (by omega) (S1.alloc _).bel.size ?_; intro v'' w2 hown' hgrow hnil; have S2 := (S1.alloc _).push hown' hgrow hnil; have T2 := (T1.alloc _).kept (S1.alloc _) hgrow; clear hown' hgrow hnil))
              go_meet
              case rel => exact ⟨rfl, T2, S2⟩
            · clear E1 E2 E3 z0 z1 z7 hcell
              go_wp2_with (first | (go_at_call 17; refine (wordTok_any _ _).mono ?_; rintro e w' ⟨rfl, rfl⟩) | (at_builtin; refine wpList_append_own _ rfl (.tmp 101) (.tmp 104) 22 rfl w0.heap.size 35 i1 _ 5 56 Try.underlying22 hj hy0 hy1 hy2 rfl (by decide) _ _ _ rfl (((T.alloc _).alloc _).alloc _).own ⟨_, 0, none⟩ 2 2 (tkRow [wt bRead, wt bWrite]) rfl rfl (many_new (by simp) rfl) (tkRow_one _) (by unfold maxLen; omega) (by omega) (((T.alloc _).alloc _).alloc _).bel.size ?_; intro v' w1 hown' hgrow _; have T1 := (((T.alloc _).alloc _).alloc _).push (new := [wt bRead, wt bWrite]) rfl hown' hgrow; have S1 := (((S.alloc _).alloc _).alloc _).kept (((T.alloc _).alloc _).alloc _) hgrow; clear hown' hgrow) | (at_builtin; refine wpList_append_own _ rfl (.tmp 106) (.tmp 107) 24 rfl w0.heap.size 9 i0 _ 1 16 Try.underlying24 hi hz0 hz1 hz2 rfl (by decide) _ _ _ rfl (S1.alloc _).own ⟨_, 0, none⟩ 1 1 [.string mRW] rfl rfl (one_new (by simp)) one_str (by unfold maxLen; omega) (by omega) (S1.alloc _).bel.size ?_; intro v'' w2 hown' hgrow hnil; have S2 := (S1.alloc _).push hown' hgrow hnil; have T2 := (T1.alloc _).kept (S1.alloc _) hgrow; clear hown' hgrow hnil))
              go_meet
              case rel => exact ⟨rfl, T2, S2⟩
            · clear E1 E2 E3 z0 z1 z7 hcell
              go_wp2_with (first | (go_at_call 17; refine (wordTok_any _ _).mono ?_; rintro e w' ⟨rfl, rfl⟩) | (at_builtin; refine wpList_append_own _ rfl (.tmp 111) (.tmp 113) 22 rfl w0.heap.size 35 i1 _ 5 56 Try.underlying22 hj hy0 hy1 hy2 rfl (by decide) _ _ _ rfl ((T.alloc _).alloc _).own ⟨_, 0, none⟩ 1 1 (tkRow [wt bDef]) rfl rfl (many_new (by simp) rfl) (tkRow_one _) (by unfold maxLen; omega) (by omega) ((T.alloc _).alloc _).bel.size ?_; intro v' w1 hown' hgrow _; have T1 := ((T.alloc _).alloc _).push (new := [wt bDef]) rfl hown' hgrow; have S1 := ((S.alloc _).alloc _).kept ((T.alloc _).alloc _) hgrow; clear hown' hgrow) | (at_builtin; refine wpList_append_own _ rfl (.tmp 115) (.tmp 116) 24 rfl w0.heap.size 9 i0 _ 1 16 Try.underlying24 hi hz0 hz1 hz2 rfl (by decide) _ _ _ rfl (S1.alloc _).own ⟨_, 0, none⟩ 1 1 [.string mD] rfl rfl (one_new (by simp)) one_str (by unfold maxLen; omega) (by omega) (S1.alloc _).bel.size ?_; intro v'' w2 hown' hgrow hnil; have S2 := (S1.alloc _).push hown' hgrow hnil; have T2 := (T1.alloc _).kept (S1.alloc _) hgrow; clear hown' hgrow hnil))
              go_meet
              case rel => exact ⟨rfl, T2, S2⟩
            · clear E1 E2 E3 z0 z1 z7 hcell
              go_wp2_with (first | (go_at_call 17; refine (wordTok_any _ _).mono ?_; rintro e w' ⟨rfl, rfl⟩) | (at_builtin; refine wpList_append_own _ rfl (.tmp 46) (.tmp 49) 22 rfl w0.heap.size 35 i1 _ 5 56 Try.underlying22 hj hy0 hy1 hy2 rfl (by decide) _ _ _ rfl (((T.alloc _).alloc _).alloc _).own ⟨_, 0, none⟩ 2 2 (tkRow [wt bNot, wt bDef]) rfl rfl (many_new (by simp) rfl) (tkRow_one _) (by unfold maxLen; omega) (by omega) (((T.alloc _).alloc _).alloc _).bel.size ?_; intro v' w1 hown' hgrow _; have T1 := (((T.alloc _).alloc _).alloc _).push (new := [wt bNot, wt bDef]) rfl hown' hgrow; have S1 := (((S.alloc _).alloc _).alloc _).kept (((T.alloc _).alloc _).alloc _) hgrow; clear hown' hgrow) | (at_builtin; refine wpList_append_own _ rfl (.tmp 51) (.tmp 52) 24 rfl w0.heap.size 9 i0 _ 1 16 Try.underlying24 hi hz0 hz1 hz2 rfl (by decide) _ _ _ rfl (S1.alloc _).own ⟨_, 0, none⟩ 1 1 [.string mND] rfl rfl (one_new (by simp)) one_str (by unfold maxLen; omega) (by omega) (S1.alloc _).bel.size ?_; intro v'' w2 hown' hgrow hnil; have S2 := (S1.alloc _).push hown' hgrow hnil; have T2 := (T1.alloc _).kept (S1.alloc _) hgrow; clear hown' hgrow hnil))
              go_meet
              case rel => exact ⟨rfl, T2, S2⟩
          case rest =>
            obtain ⟨hr1, T1, S1⟩ := hcut
            subst hr1
            have hL1 : (L ++ itemToks z).length ≤ 5 * q + 4 := by have := itemToks_len z; rw [List.length_append]; omega
            generalize hL1q : L ++ itemToks z = L1 at T1 hL1
            generalize hM1q : M ++ itemWant z = M1 at S1
            generalize hr1q : itemSer z r = r1
            rw [hr1q] at E3
            have HL1 : Hid (L ++ itemToks z = L1) := hL1q
            have HM1 : Hid (M ++ itemWant z = M1) := hM1q
            clear hL1q hM1q hr1q hcell
            by_cases hq1 : q + 1 < n
            · by_cases hqc : q < nc
              · obtain ⟨b', ofs', ha', hcell'⟩ := (H2.out.below T1.bel).at hqc
                subst ha'
                cases hbq : bs q
                · have HCM : Hid (cmOf n nc bs q = false) := by show cmOf n nc bs q = false; simp [cmOf, hbq]
                  rw [hbq] at hcell'
                  clear hbq
                  go_wp2_with fail
                  go_roundg (n - (q + 1))
                  case measure => omega
                  case rel => exact ⟨q + 1, by omega, rfl, by go_num, by rw [E3.out], by rw [E1.out, HCM.out, HL1.out]; simpa using T1, by rw [E2.out, HM1.out]; exact S1⟩
                · have HCM : Hid (cmOf n nc bs q = true) := by show cmOf n nc bs q = true; simp [cmOf, hbq, hq1, hqc]
                  rw [hbq] at hcell'
                  clear hbq
                  go_wp2_with (first | (go_at_call 18; refine (punctTok_any _ _).mono ?_; rintro e w' ⟨rfl, rfl⟩) | (at_builtin; refine wpList_append_own _ rfl (.tmp 135) (.tmp 137) 22 rfl w0.heap.size 35 i1 _ 5 56 Try.underlying22 hj hy0 hy1 hy2 rfl (by decide) _ _ _ rfl ((T1.alloc _).alloc _).own ⟨_, 0, none⟩ 1 1 (tkRow [pt bComma]) rfl rfl (many_new (by simp) rfl) (tkRow_one _) (by unfold maxLen; omega) (by omega) ((T1.alloc _).alloc _).bel.size ?_; intro v' w1 hown' hgrow _; have T2 := ((T1.alloc _).alloc _).push (new := [pt bComma]) rfl hown' hgrow; have S2 := ((S1.alloc _).alloc _).kept ((T1.alloc _).alloc _) hgrow; clear hown' hgrow))
                  go_roundg (n - (q + 1))
                  case measure => omega
                  case rel => exact ⟨q + 1, by omega, rfl, by go_num, by rw [E3.out], by rw [E1.out, HCM.out, HL1.out]; simpa using T2, by rw [E2.out, HM1.out]; exact S2⟩
              · have HCM : Hid (cmOf n nc bs q = false) := by show cmOf n nc bs q = false; simp [cmOf, hqc]
                go_wp2_with fail
                go_roundg (n - (q + 1))
                case measure => omega
                case rel => exact ⟨q + 1, by omega, rfl, by go_num, by rw [E3.out], by rw [E1.out, HCM.out, HL1.out]; simpa using T1, by rw [E2.out, HM1.out]; exact S1⟩
            · have HCM : Hid (cmOf n nc bs q = false) := by show cmOf n nc bs q = false; simp [cmOf, hq1]
              go_wp2_with fail
              go_roundg (n - (q + 1))
              case measure => omega
              case rel => exact ⟨q + 1, by omega, rfl, by go_num, by rw [E3.out], by rw [E1.out, HCM.out, HL1.out]; simpa using T1, by rw [E2.out, HM1.out]; exact S1⟩
        · have hqn : q = n := by omega
          subst hqn
          have HF : Hid (mfin (mrun (wToks zs (cmOf q nc bs) q) (wToks zs (cmOf q nc bs) q).length) = (wWant zs q, wSer zs q, true)) :=
            written_reads zs (cmOf q nc bs) q HZ'.out (fun i hi => by simp [cmOf]; omega)
          have hL := wToks_len zs (cmOf q nc bs) q
          generalize wToks zs (cmOf q nc bs) q = L at T HF hL
          generalize wWant zs q = M at S HF
          generalize wSer zs q = r at HF ⊢
          obtain ⟨a3, c3, hv3, hts3⟩ := T.sl
          obtain ⟨a4, c4, hv4, hss4⟩ := S.sl
          subst hv3 hv4
          have HT : Hid (Toks wr a3 L.length L) := hts3
          have HS : Hid (StrSl wr a4 M.length M) := hss4
          have BW : Hid (Below w0.heap.size w0 wr) := T.bel
          clear T S hts3 hss4
          go_wp2_with fail
          refine (toZZ_any a3 L.length c3 wr L HT.out (by omega)).mono ?_
          rintro e w2 ⟨a5, c5, rfl, T5, B5⟩
          have HT5 : Hid (Toks w2 a5 L.length L) := T5
          clear T5
          go_wp2_with fail
          refine (zzRead_any a5 L.length c5 w2 L HT5.out (by omega)).mono ?_
          rintro e w3 ⟨a6, n6, c6, ss, r6, ok, hR, rfl, S6, hn6, B6⟩
          have e3 := hR.out.symm.trans HF.out
          simp only [Prod.mk.injEq] at e3
          obtain ⟨e31, e32, e33⟩ := e3
          subst e31 e32 e33
          have hl : n6 = ss.length := S6.1.symm
          subst hl
          have HS6 : Hid (StrSl w3 a6 ss.length ss) := S6
          have HS7 : Hid (StrSl w3 a4 ss.length ss) := (HS.out.below B5).below B6
          have BX : Hid (Below w0.heap.size w0 w3) := (BW.out.trans (B5.mono BW.out.size)).trans (B6.mono (Nat.le_trans BW.out.size B5.size))
          have hn7 : ss.length ≤ 1048576 := by omega
          clear S6 HS B5 B6 BW hR HF HT HT5 hn6
          go_wp2_with (first | (go_at_call 15; refine (sameStrings_any _ _ _ _ _ _ ss HS6.out HS7.out hn7).mono ?_; rintro e w5 ⟨rfl, B7⟩))
          go_ret
          exact trueB_mk (BX.out.trans (B7.mono BX.out.size))
end Go.Proofs.Qxb6602215a
