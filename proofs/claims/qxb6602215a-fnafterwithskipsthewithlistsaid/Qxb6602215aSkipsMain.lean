import Derived.Test.Qxb6602215aSkips
import Derived.Test.Qxb6602215aBoundsMain
import Derived.Test.Qxb6602215aGuards
import Derived.Deep.DeepCutAuto
import Derived.Deep.LoopGhost
import Derived.Deep.CutBlock
namespace Go.Proofs.Qxb6602215a
open Go.RowKit Go.Deep
set_option linter.unusedVariables false

/-- A slice of bytes. -/
def Kinds (w : World) (ao : Option Addr) (n : Nat) (zs : Nat → Int) : Prop :=
  n = 0 ∨ ∃ b o, ao = some ⟨b, o, none⟩ ∧ ∀ i, i < n → w.cell? ⟨b, o + i, none⟩ = some (.int .u8 (zs i)) ∧ 0 ≤ zs i ∧ zs i ≤ 255
theorem Kinds.at {w : World} {ao : Option Addr} {n : Nat} {zs : Nat → Int} (h : Kinds w ao n zs) {k : Nat} (hk : k < n) : ∃ b o, ao = some ⟨b, o, none⟩ ∧ w.cell? ⟨b, o + k, none⟩ = some (.int .u8 (zs k)) ∧ 0 ≤ zs k ∧ zs k ≤ 255 := by
  rcases h with h | ⟨b, o, ha, hc⟩
  · omega
  · exact ⟨b, o, ha, hc k hk⟩
theorem Kinds.below {w w' : World} {ao : Option Addr} {n : Nat} {zs : Nat → Int} (h : Kinds w ao n zs) (bel : Below w.heap.size w w') : Kinds w' ao n zs := by
  rcases h with h | ⟨b, o, ha, hc⟩
  · exact Or.inl h
  · exact Or.inr ⟨b, o, ha, fun i hi => ⟨(bel.cell (p := ⟨b, o + i, none⟩) (World.block_lt_of_cell? w _ (hc i hi).1)).trans (hc i hi).1, (hc i hi).2⟩⟩

set_option maxHeartbeats 1000000 in
theorem zz25_any (a1 : Option Addr) (n1 c1 : Nat) (x y : Bool) (w : World) (h1 : n1 ≤ maxLen) :
    Calls Try.prog 25 #[.slice a1 n1 c1, .bool x, .bool y] w (Guarded 0 0 w) := by
  unfold maxLen at h1
  by_cases g1 : n1 ≤ 1048576
  · clear h1
    go_enter Try.func25, Try.ntmps25
    go_wp2
    all_goals (go_ret; exact guarded_mk (fun _ => Nat.le_refl _))
  · go_enter Try.func25, Try.ntmps25
    go_wp2
    all_goals (go_ret; exact guarded_mk (fun _ => Nat.le_refl _))

def nameOf (cols oth : Bool) : ByteArray := if oth then (if cols then bM else bMat) else bQ
def entOf (c : Int) : Ent := ⟨nameOf (c % 2 == 1) (c / 96 == 1), c % 2 == 1, c / 2 % 3, (c / 6 % 8).toNat, c / 48 % 2 == 1⟩
theorem entOf_ok (c : Int) : (entOf c).ok := by
  intro h
  have h' : (c % 2 == 1) = true := h
  show ((nameOf (c % 2 == 1) (c / 96 == 1)).toList == _) = false ∧ ((nameOf (c % 2 == 1) (c / 96 == 1)).toList == _) = false
  rw [h']
  cases (c / 96 == 1) <;> simp [nameOf, bM, bQ]
theorem entOf_rec (c : Int) : ((entOf c).nm.toList == [114, 101, 99, 117, 114, 115, 105, 118, 101]) = false := by
  show ((nameOf (c % 2 == 1) (c / 96 == 1)).toList == _) = false
  cases (c % 2 == 1) <;> cases (c / 96 == 1) <;> simp [nameOf, bM, bQ, bMat]

theorem tkW_one {w W : World} {cs : Array Value} {g : Nat} {t : Tk} (hb : Below w.heap.size w W) (hg : W.heap.size = g) (hc : cs.toList = t.cells) : TkW w (W.alloc (.cells cs 35)) (.slice (some ⟨g, 0, none⟩) 1 1) [t] := by
  subst hg
  refine ⟨⟨by simp [tkRow, Tk.cells], Or.inr ⟨W.heap.size, 1, cs, rfl, hb.size, heap_alloc_new W _, Nat.le_refl _, by simp [maxLen], ?_, ?_⟩⟩, hb.alloc hb.size _⟩
  · rw [← Array.length_toList, hc]; rfl
  · rw [hc]; simp [tkRow, Tk.cells]

theorem opens_len (d : Nat) : (opens d).length = 2 * d := by
  induction d with
  | zero => rfl
  | succ d ih => simp [opens, ih]; omega
theorem closes_len (d : Nat) : (closes d).length = d := by
  induction d with
  | zero => rfl
  | succ d ih => simp [closes, ih]
theorem entOf_len (c : Int) (h0 : 0 ≤ c) (h1 : c < 192) : (entOf c).toks.length ≤ 38 := by
  have hd : (c / 6 % 8).toNat ≤ 7 := by omega
  show (entryT (nameOf (c % 2 == 1) (c / 96 == 1)) (c % 2 == 1) (c / 2 % 3) (c / 6 % 8).toNat (c / 48 % 2 == 1)).length ≤ 38
  generalize (c % 2 == 1) = cols
  generalize nameOf cols (c / 96 == 1) = nm
  generalize (c / 48 % 2 == 1) = ex
  generalize (c / 6 % 8).toNat = d at hd ⊢
  generalize c / 2 % 3 = md
  simp only [entryT, innerT, asT, List.length_append, List.length_cons, List.length_nil, opens_len, closes_len]
  have e1 : (if cols = true then colsT else []).length ≤ 5 := by cases cols <;> simp [colsT]
  have e2 : (if ex = true then extraT else []).length ≤ 4 := by cases ex <;> simp [extraT]
  have e3 : (if md = 2 then [wt bNt] else []).length ≤ 1 := by split <;> simp
  have e4 : (if 1 ≤ md then [wt bMat] else []).length ≤ 1 := by split <;> simp
  omega
theorem bodyT_len (zs : Nat → Int) (n k : Nat) (hk : k ≤ n) (hz : ∀ i, i < n → 0 ≤ zs i ∧ zs i < 192) : (bodyT (fun i => entOf (zs i)) k).length ≤ 40 * k := by
  induction k with
  | zero => simp [bodyT]
  | succ k ih =>
    have := entOf_len (zs k) (hz k (by omega)).1 (hz k (by omega)).2
    have h2 := ih (by omega)
    have h3 : (sepT k).length ≤ 1 := by unfold sepT; split <;> simp
    simp only [bodyT, List.length_append]
    omega

def TrueD (w : World) (e : Ending) (w' : World) : Prop := e = .returned (.bool true) ∧ Below w.heap.size w w'
theorem trueD_mk {w w' : World} (h : Below w.heap.size w w') : TrueD w (.returned (.bool true)) w' := ⟨rfl, h⟩
set_option maxRecDepth 100000 in
set_option maxHeartbeats 8000000 in
theorem skipsMain (a1 : Option Addr) (n c1 : Nat) (rc tl : Bool) (w : World) (zs : Nat → Int) (h1 : Kinds w a1 n zs) (hm1 : n ≤ maxLen) :
    Calls Try.prog 8 #[.slice a1 n c1, .bool rc, .bool tl] w (TrueD w) := by
  have H1 : Hid (Kinds w a1 n zs) := h1
  clear h1
  obtain ⟨i1, hj, hy0, hy1, hy2⟩ := info_parts Try.info35
  by_cases hn0 : n = 0
  · subst hn0
    go_enter Try.func8, Try.ntmps8
    go_wp2_with fail
    refine (zz25_any a1 0 c1 rc tl w hm1).mono ?_
    rintro e w0 ⟨b0, rfl, _, rfl⟩
    cases b0
    · go_wp2
      go_ret
      exact trueD_mk (Below.refl _ _)
    · go_wp2
      go_ret
      exact trueD_mk (Below.refl _ _)
  have hnz : ((n : Int) == 0) = false := by simp; omega
  by_cases hn : n ≤ 4096
  case neg =>
    unfold maxLen at hm1
    go_enter Try.func8, Try.ntmps8
    go_wp2_with fail
    refine (zz25_any a1 n c1 rc tl w hm1).mono ?_
    rintro e w0 ⟨b0, rfl, _, rfl⟩
    cases b0
    · go_wp2
      go_ret
      exact trueD_mk (Below.refl _ _)
    · go_wp2
      go_ret
      exact trueD_mk (Below.refl _ _)
  go_enter Try.func8, Try.ntmps8
  go_wp2_with fail
  refine (zz25_any a1 n c1 rc tl w hm1).mono ?_
  rintro e w0 ⟨b0, rfl, _, rfl⟩
  clear hm1
  cases b0
  · go_wp2
    go_ret
    exact trueD_mk (Below.refl _ _)
  go_wp2_with fail
  go_loop [7] (fun i => ∃ k : Nat, k ≤ n ∧ i = .int .i64 k ∧ Hid (∀ i, i < k → 0 ≤ zs i ∧ zs i < 192)) (fun i => n - (intOf i).toNat)
  case atStart => exact ⟨0, Nat.zero_le _, rfl, fun i hi => by omega⟩
  case round =>
    obtain ⟨k, hk, rfl, HZ⟩ := hrel
    by_cases hlt : k < n
    · obtain ⟨b, o, ha, hcell, z0, z1⟩ := H1.out.at hlt
      subst ha
      by_cases h7 : zs k < 192
      · have HZ' : Hid (∀ i, i < k + 1 → 0 ≤ zs i ∧ zs i < 192) := fun i hi => by
          by_cases e : i = k
          · subst e; exact ⟨z0, h7⟩
          · exact HZ.out i (by omega)
        go_wp2_with fail
        go_round
        case rel => exact ⟨k + 1, by omega, by go_num, HZ'⟩
        case measure => simp [intOf]; omega
      · go_wp2_with fail
        go_ret
        exact trueD_mk (Below.refl _ _)
    · have HZ' : Hid (∀ i, i < n → 0 ≤ zs i ∧ zs i < 192) := fun i hi => HZ.out i (by omega)
      clear HZ
      go_upto_if 46 with (first | (go_at_call 17; refine (wordTok_any _ _).mono ?_; rintro e w' ⟨rfl, rfl⟩))
      have T0 := tkW_one (t := wt bWith) (g := w0.heap.size + 1) ((Below.refl w0.heap.size w0).alloc (Nat.le_refl _) (.cells #[.bool true, .string ⟨#[119, 105, 116, 104]⟩, .string ⟨#[]⟩, .int .i64 0, .int .i64 0] 35)) (by simp) (cs := #[.bool true, .string ⟨#[119, 105, 116, 104]⟩, .string ⟨#[]⟩, .int .i64 0, .int .i64 0]) rfl
      go_cut [8] (fun v wx => TkW w0 wx v (preT rc))
      case first =>
        cases rc
        · go_wp2_with fail
          go_meet
          case rel => exact T0
        · go_wp2_with (first | (go_at_call 17; refine (wordTok_any _ _).mono ?_; rintro e w' ⟨rfl, rfl⟩) | (at_builtin; refine wpList_append_own _ rfl (.tmp 47) (.tmp 49) 22 rfl w0.heap.size 35 i1 _ 5 56 Try.underlying22 hj hy0 hy1 hy2 rfl (by decide) _ _ _ rfl ((T0.alloc _).alloc _).own ⟨_, 0, none⟩ 1 1 (tkRow [wt bRec]) rfl rfl (many_new (by simp) rfl) (tkRow_one _) (by first | (unfold maxLen; omega) | (simp [maxLen])) (by first | omega | simp) ((T0.alloc _).alloc _).bel.size ?_; intro v' w1 hown' hgrow _; have T1 := ((T0.alloc _).alloc _).push (new := [wt bRec]) rfl hown' hgrow; clear hown' hgrow))
          go_meet
          case rel => exact T1
      case rest =>
        have T := hcut
        clear hcut T0
        have hPl : (preT rc).length ≤ 2 := by cases rc <;> simp [preT]
        have hPg : 1 ≤ (preT rc).length := by cases rc <;> simp [preT]
        generalize hPq : preT rc = P at T hPl hPg
        have HP : Hid (preT rc = P) := hPq
        clear hPq
        go_wp2_with fail
        go_loopg [8, 9] n (fun g v i wr => ∃ k : Nat, k ≤ n ∧ g = n - k ∧ i = .int .i64 k ∧ TkW w0 wr v (P ++ bodyT (fun i => entOf (zs i)) k))
        case atStart => exact ⟨0, Nat.zero_le _, rfl, rfl, by simpa [bodyT] using T⟩
        case round =>
          clear T
          obtain ⟨q, hq, hg, rfl, T⟩ := hrel
          by_cases hlt2 : q < n
          · obtain ⟨b, ofs, ha, hcell, z0, z1⟩ := (H1.out.below T.bel).at hlt2
            subst ha
            have z7 : zs q < 192 := (HZ'.out q hlt2).2
            have hL := bodyT_len zs n q hq HZ'.out
            have hL0 : (P ++ bodyT (fun i => entOf (zs i)) q).length ≤ 40 * q + 2 := by rw [List.length_append]; omega
            have E : Hid (bodyT (fun i => entOf (zs i)) (q + 1) = bodyT (fun i => entOf (zs i)) q ++ sepT q ++ (entOf (zs q)).toks) := rfl
            generalize zs q = z at hcell z0 z1 z7 E
            generalize hB : bodyT (fun i => entOf (zs i)) q = B at T hL hL0 E
            clear hB hL
            replace E : Hid (bodyT (fun i => entOf (zs i)) (q + 1) = B ++ sepT q ++ entryT (nameOf (z % 2 == 1) (z / 96 == 1)) (z % 2 == 1) (z / 2 % 3) (z / 6 % 8).toNat (z / 48 % 2 == 1)) := E
            have hmd : 0 ≤ z / 2 % 3 ∧ z / 2 % 3 ≤ 2 := by omega
            have hdd : 0 ≤ z / 6 % 8 ∧ z / 6 % 8 ≤ 7 := by omega
            go_upto_if 78 with fail
            generalize (z % 2 == 1) = co at E ⊢
            generalize (z / 96 == 1) = oth at E ⊢
            generalize (z / 48 % 2 == 1) = ex at E ⊢
            generalize z / 2 % 3 = md at E hmd ⊢
            generalize z / 6 % 8 = dd at E hdd ⊢
            obtain ⟨d, rfl⟩ := Int.eq_ofNat_of_zero_le hdd.1
            rw [Int.toNat_natCast] at E
            have hd7 : d ≤ 7 := by omega
            clear hdd hcell z0 z1 z7
            go_cut [16] (fun v wx => v = .string (nameOf co oth) ∧ wx = wr)
            case first =>
              cases oth
              · go_wp2_with fail
                go_meet
                case rel => exact ⟨rfl, rfl⟩
              · cases co
                · go_wp2_with fail
                  go_meet
                  case rel => exact ⟨rfl, rfl⟩
                · go_wp2_with fail
                  go_meet
                  case rel => exact ⟨rfl, rfl⟩
            case rest =>
              obtain ⟨hv, hw⟩ := hcut
              subst hv hw
              generalize nameOf co oth = nm at E ⊢
              go_upto_if 81 with fail
              go_cut [8] (fun v wx => TkW w0 wx v (P ++ B ++ sepT q))
              case first =>
                by_cases hq0 : 0 < q
                · have hs : sepT q = [pt bCm] := by unfold sepT; rw [if_pos hq0]
                  have HSP : Hid (sepT q = [pt bCm]) := hs
                  clear hs E
                  go_wp2_with (first | (go_at_call 18; refine (punctTok_any _ _).mono ?_; rintro e w' ⟨rfl, rfl⟩) | (at_builtin; refine wpList_append_own _ rfl (.tmp 82) (.tmp 84) 22 rfl w0.heap.size 35 i1 _ 5 56 Try.underlying22 hj hy0 hy1 hy2 rfl (by decide) _ _ _ rfl ((T.alloc _).alloc _).own ⟨_, 0, none⟩ 1 1 (tkRow [pt bCm]) rfl rfl (many_new (by simp) rfl) (tkRow_one _) (by first | (unfold maxLen; omega) | (simp [maxLen])) (by first | omega | simp) ((T.alloc _).alloc _).bel.size ?_; intro v' w1 hown' hgrow _; have T1 := ((T.alloc _).alloc _).push (new := [pt bCm]) rfl hown' hgrow; clear hown' hgrow))
                  go_meet
                  case rel => rw [HSP.out]; exact T1
                · have hs : sepT q = [] := by unfold sepT; rw [if_neg hq0]
                  have HSP : Hid (sepT q = []) := hs
                  have hq0' : decide ((0 : Int) < (q : Int)) = false := by simp; omega
                  clear hs E
                  go_wp2_with fail
                  go_meet
                  case rel => rw [HSP.out, List.append_nil]; exact T
              case rest =>
                have T1 := hcut
                clear hcut T
                have hL1 : (P ++ B ++ sepT q).length ≤ 40 * q + 3 := by
                  have : (sepT q).length ≤ 1 := by unfold sepT; split <;> simp
                  rw [List.length_append]; omega
                generalize hq1 : P ++ B ++ sepT q = L1 at T1 hL1
                have Q1 : Hid (P ++ B ++ sepT q = L1) := hq1
                clear hq1 hL0
                go_upto_if 91 with (first | (go_at_call 17; refine (wordTok_any _ _).mono ?_; rintro e w' ⟨rfl, rfl⟩) | (at_builtin; refine wpList_append_own _ rfl (.tmp 86) (.tmp 89) 22 rfl w0.heap.size 35 i1 _ 5 56 Try.underlying22 hj hy0 hy1 hy2 rfl (by decide) _ _ _ rfl ((T1.alloc _).alloc _).own ⟨_, 0, none⟩ 1 1 (tkRow [wt nm]) rfl rfl (many_new (by simp) rfl) (tkRow_one _) (by first | (unfold maxLen; omega) | (simp [maxLen])) (by first | omega | simp) ((T1.alloc _).alloc _).bel.size ?_; intro v' w1 hown' hgrow _; have T2 := ((T1.alloc _).alloc _).push (new := [wt nm]) rfl hown' hgrow; clear hown' hgrow))
                go_cut [8] (fun v wx => TkW w0 wx v (L1 ++ [wt nm] ++ (if co then colsT else [])))
                case first =>
                  cases co
                  · go_wp2_with fail
                    go_meet
                    case rel => simpa using T2
                  · have hL2 : (L1 ++ [wt nm]).length ≤ 40 * q + 4 := by simp; omega
                    generalize hq2 : L1 ++ [wt nm] = L2 at T2 hL2 ⊢
                    have Q2 : Hid (L1 ++ [wt nm] = L2) := hq2
                    clear hq2 E
                    go_wp2_with (first | (go_at_call 17; refine (wordTok_any _ _).mono ?_; rintro e w' ⟨rfl, rfl⟩) | (go_at_call 18; refine (punctTok_any _ _).mono ?_; rintro e w' ⟨rfl, rfl⟩) | (at_builtin; refine wpList_append_own _ rfl (.tmp 92) (.tmp 98) 22 rfl w0.heap.size 35 i1 _ 5 56 Try.underlying22 hj hy0 hy1 hy2 rfl (by decide) _ _ _ rfl ((((((T2.alloc _).alloc _).alloc _).alloc _).alloc _).alloc _).own ⟨_, 0, none⟩ 5 5 (tkRow colsT) rfl rfl (many_new (by simp) rfl) (tkRow_one _) (by first | (unfold maxLen; omega) | (simp [maxLen])) (by first | omega | simp) ((((((T2.alloc _).alloc _).alloc _).alloc _).alloc _).alloc _).bel.size ?_; intro v' w1 hown' hgrow _; have T3 := ((((((T2.alloc _).alloc _).alloc _).alloc _).alloc _).alloc _).push (new := colsT) rfl hown' hgrow; clear hown' hgrow))
                    go_meet
                    case rel =>
                      show TkW w0 _ _ (L1 ++ [wt nm] ++ colsT)
                      rw [Q2.out]
                      exact T3
                case rest =>
                  have T3 := hcut
                  clear hcut T2 T1
                  have hL3 : (L1 ++ [wt nm] ++ (if co then colsT else [])).length ≤ 40 * q + 9 := by
                    have : (if co then colsT else []).length ≤ 5 := by cases co <;> simp [colsT]
                    simp only [List.length_append, List.length_cons, List.length_nil]; omega
                  generalize hq3 : L1 ++ [wt nm] ++ (if co then colsT else []) = L3 at T3 hL3
                  have Q3 : Hid (L1 ++ [wt nm] ++ (if co then colsT else []) = L3) := hq3
                  clear hq3 hL1
                  go_upto_if 105 with (first | (go_at_call 17; refine (wordTok_any _ _).mono ?_; rintro e w' ⟨rfl, rfl⟩) | (at_builtin; refine wpList_append_own _ rfl (.tmp 100) (.tmp 102) 22 rfl w0.heap.size 35 i1 _ 5 56 Try.underlying22 hj hy0 hy1 hy2 rfl (by decide) _ _ _ rfl ((T3.alloc _).alloc _).own ⟨_, 0, none⟩ 1 1 (tkRow [wt bAs]) rfl rfl (many_new (by simp) rfl) (tkRow_one _) (by first | (unfold maxLen; omega) | (simp [maxLen])) (by first | omega | simp) ((T3.alloc _).alloc _).bel.size ?_; intro v' w1 hown' hgrow _; have T4 := ((T3.alloc _).alloc _).push (new := [wt bAs]) rfl hown' hgrow; clear hown' hgrow))
                  have hL4 : (L3 ++ [wt bAs]).length ≤ 40 * q + 10 := by simp; omega
                  generalize hq4 : L3 ++ [wt bAs] = L4 at T4 hL4
                  have Q4 : Hid (L3 ++ [wt bAs] = L4) := hq4
                  clear hq4 T3
                  go_cut [8] (fun v wx => TkW w0 wx v (L4 ++ (if md = 2 then [wt bNt] else [])))
                  case first =>
                    clear E
                    by_cases h2 : md = 2
                    · subst h2
                      go_wp2_with (first | (go_at_call 17; refine (wordTok_any _ _).mono ?_; rintro e w' ⟨rfl, rfl⟩) | (at_builtin; refine wpList_append_own _ rfl (.tmp 106) (.tmp 108) 22 rfl w0.heap.size 35 i1 _ 5 56 Try.underlying22 hj hy0 hy1 hy2 rfl (by decide) _ _ _ rfl ((T4.alloc _).alloc _).own ⟨_, 0, none⟩ 1 1 (tkRow [wt bNt]) rfl rfl (many_new (by simp) rfl) (tkRow_one _) (by first | (unfold maxLen; omega) | (simp [maxLen])) (by first | omega | simp) ((T4.alloc _).alloc _).bel.size ?_; intro v' w1 hown' hgrow _; have T5 := ((T4.alloc _).alloc _).push (new := [wt bNt]) rfl hown' hgrow; clear hown' hgrow))
                      go_meet
                      case rel => exact T5
                    · have h2' : (md == 2) = false := by simp; omega
                      have HM2 : Hid (¬ md = 2) := h2
                      clear h2
                      go_wp2_with fail
                      go_meet
                      case rel => rw [if_neg HM2.out, List.append_nil]; exact T4
                  case rest =>
                    have T5 := hcut
                    clear hcut T4
                    have hL5 : (L4 ++ (if md = 2 then [wt bNt] else [])).length ≤ 40 * q + 11 := by
                      have : (if md = 2 then [wt bNt] else []).length ≤ 1 := by split <;> simp
                      rw [List.length_append]; omega
                    generalize hq5 : L4 ++ (if md = 2 then [wt bNt] else []) = L5 at T5 hL5
                    have Q5 : Hid (L4 ++ (if md = 2 then [wt bNt] else []) = L5) := hq5
                    clear hq5 hL4
                    go_upto_if 111 with fail
                    go_cut [8] (fun v wx => TkW w0 wx v (L5 ++ (if 1 ≤ md then [wt bMat] else [])))
                    case first =>
                      clear E
                      by_cases h1 : 1 ≤ md
                      · go_wp2_with (first | (go_at_call 17; refine (wordTok_any _ _).mono ?_; rintro e w' ⟨rfl, rfl⟩) | (at_builtin; refine wpList_append_own _ rfl (.tmp 112) (.tmp 114) 22 rfl w0.heap.size 35 i1 _ 5 56 Try.underlying22 hj hy0 hy1 hy2 rfl (by decide) _ _ _ rfl ((T5.alloc _).alloc _).own ⟨_, 0, none⟩ 1 1 (tkRow [wt bMat]) rfl rfl (many_new (by simp) rfl) (tkRow_one _) (by first | (unfold maxLen; omega) | (simp [maxLen])) (by first | omega | simp) ((T5.alloc _).alloc _).bel.size ?_; intro v' w1 hown' hgrow _; have T6 := ((T5.alloc _).alloc _).push (new := [wt bMat]) rfl hown' hgrow; clear hown' hgrow))
                        go_meet
                        case rel => rw [if_pos h1]; exact T6
                      · go_wp2_with fail
                        go_meet
                        case rel => rw [if_neg (by omega), List.append_nil]; exact T5
                    case rest =>
                      have T6 := hcut
                      clear hcut T5
                      have hL6 : (L5 ++ (if 1 ≤ md then [wt bMat] else [])).length ≤ 40 * q + 12 := by
                        have : (if 1 ≤ md then [wt bMat] else []).length ≤ 1 := by split <;> simp
                        rw [List.length_append]; omega
                      generalize hq6 : L5 ++ (if 1 ≤ md then [wt bMat] else []) = L6 at T6 hL6
                      have Q6 : Hid (L5 ++ (if 1 ≤ md then [wt bMat] else []) = L6) := hq6
                      clear hq6 hL5
                      go_wp2_with (first | (go_at_call 17; refine (wordTok_any _ _).mono ?_; rintro e w' ⟨rfl, rfl⟩) | (go_at_call 18; refine (punctTok_any _ _).mono ?_; rintro e w' ⟨rfl, rfl⟩) | (at_builtin; refine wpList_append_own _ rfl (.tmp 116) (.tmp 119) 22 rfl w0.heap.size 35 i1 _ 5 56 Try.underlying22 hj hy0 hy1 hy2 rfl (by decide) _ _ _ rfl (((T6.alloc _).alloc _).alloc _).own ⟨_, 0, none⟩ 2 2 (tkRow [pt bOpen, wt bSelect]) rfl rfl (many_new (by simp) rfl) (tkRow_one _) (by first | (unfold maxLen; omega) | (simp [maxLen])) (by first | omega | simp) (((T6.alloc _).alloc _).alloc _).bel.size ?_; intro v' w1 hown' hgrow _; have T7 := (((T6.alloc _).alloc _).alloc _).push (new := [pt bOpen, wt bSelect]) rfl hown' hgrow; clear hown' hgrow))
                      have hL7 : (L6 ++ [pt bOpen, wt bSelect]).length ≤ 40 * q + 14 := by simp; omega
                      generalize hq7 : L6 ++ [pt bOpen, wt bSelect] = L7 at T7 hL7
                      have Q7 : Hid (L6 ++ [pt bOpen, wt bSelect] = L7) := hq7
                      clear hq7 hL6 T6
                      go_loopg [8, 17] d (fun g v i wx => ∃ e : Nat, e ≤ d ∧ g = d - e ∧ i = .int .i64 e ∧ TkW w0 wx v (L7 ++ opens e))
                      case atStart => exact ⟨0, Nat.zero_le _, rfl, rfl, by simpa [opens] using T7⟩
                      case round =>
                        clear T7
                        obtain ⟨e1, he1, hge, rfl, T7⟩ := hrel
                        have hL8 : (L7 ++ opens e1).length ≤ 40 * q + 14 + 2 * e1 := by rw [List.length_append, opens_len]; omega
                        generalize hq8 : L7 ++ opens e1 = L8 at T7 hL8
                        have Q8 : Hid (L7 ++ opens e1 = L8) := hq8
                        clear hq8
                        by_cases hlt3 : e1 < d
                        · go_wp2_with (first | (go_at_call 17; refine (wordTok_any _ _).mono ?_; rintro e w' ⟨rfl, rfl⟩) | (go_at_call 18; refine (punctTok_any _ _).mono ?_; rintro e w' ⟨rfl, rfl⟩) | (at_builtin; refine wpList_append_own _ rfl (.tmp 126) (.tmp 129) 22 rfl w0.heap.size 35 i1 _ 5 56 Try.underlying22 hj hy0 hy1 hy2 rfl (by decide) _ _ _ rfl (((T7.alloc _).alloc _).alloc _).own ⟨_, 0, none⟩ 2 2 (tkRow [wt bF, pt bOpen]) rfl rfl (many_new (by simp) rfl) (tkRow_one _) (by first | (unfold maxLen; omega) | (simp [maxLen])) (by first | omega | simp) (((T7.alloc _).alloc _).alloc _).bel.size ?_; intro v' w1 hown' hgrow _; have T8 := (((T7.alloc _).alloc _).alloc _).push (new := [wt bF, pt bOpen]) rfl hown' hgrow; clear hown' hgrow))
                          go_roundg (d - (e1 + 1))
                          case measure => omega
                          case rel => exact ⟨e1 + 1, by omega, rfl, by go_num, by rw [opens, ← List.append_assoc, Q8.out]; exact T8⟩
                        · have hed : e1 = d := by omega
                          subst hed
                          go_wp2_with (first | (go_at_call 18; refine (punctTok_any _ _).mono ?_; rintro e w' ⟨rfl, rfl⟩) | (at_builtin; refine wpList_append_own _ rfl (.tmp 131) (.tmp 133) 22 rfl w0.heap.size 35 i1 _ 5 56 Try.underlying22 hj hy0 hy1 hy2 rfl (by decide) _ _ _ rfl ((T7.alloc _).alloc _).own ⟨_, 0, none⟩ 1 1 (tkRow [pt b1]) rfl rfl (many_new (by simp) rfl) (tkRow_one _) (by first | (unfold maxLen; omega) | (simp [maxLen])) (by first | omega | simp) ((T7.alloc _).alloc _).bel.size ?_; intro v' w1 hown' hgrow _; have T8 := ((T7.alloc _).alloc _).push (new := [pt b1]) rfl hown' hgrow; clear hown' hgrow))
                          have hL9 : (L8 ++ [pt b1]).length ≤ 40 * q + 15 + 2 * e1 := by simp; omega
                          generalize hq9 : L8 ++ [pt b1] = L9 at T8 hL9
                          have Q9 : Hid (L8 ++ [pt b1] = L9) := hq9
                          clear hq9 hL8 T7
                          go_loopg [8, 18] e1 (fun g v i wx => ∃ e : Nat, e ≤ e1 ∧ g = e1 - e ∧ i = .int .i64 e ∧ TkW w0 wx v (L9 ++ closes e))
                          case atStart => exact ⟨0, Nat.zero_le _, rfl, rfl, by simpa [closes] using T8⟩
                          case round =>
                            clear T8
                            obtain ⟨e2, he2, hge2, rfl, T9⟩ := hrel
                            have hL10 : (L9 ++ closes e2).length ≤ 40 * q + 15 + 3 * e1 := by rw [List.length_append, closes_len]; omega
                            generalize hq10 : L9 ++ closes e2 = L10 at T9 hL10
                            have Q10 : Hid (L9 ++ closes e2 = L10) := hq10
                            clear hq10
                            by_cases hlt4 : e2 < e1
                            · go_wp2_with (first | (go_at_call 18; refine (punctTok_any _ _).mono ?_; rintro e w' ⟨rfl, rfl⟩) | (at_builtin; refine wpList_append_own _ rfl (.tmp 140) (.tmp 142) 22 rfl w0.heap.size 35 i1 _ 5 56 Try.underlying22 hj hy0 hy1 hy2 rfl (by decide) _ _ _ rfl ((T9.alloc _).alloc _).own ⟨_, 0, none⟩ 1 1 (tkRow [pt bClose]) rfl rfl (many_new (by simp) rfl) (tkRow_one _) (by first | (unfold maxLen; omega) | (simp [maxLen])) (by first | omega | simp) ((T9.alloc _).alloc _).bel.size ?_; intro v' w1 hown' hgrow _; have T10 := ((T9.alloc _).alloc _).push (new := [pt bClose]) rfl hown' hgrow; clear hown' hgrow))
                              go_roundg (e1 - (e2 + 1))
                              case measure => omega
                              case rel => exact ⟨e2 + 1, by omega, rfl, by go_num, by rw [closes, ← List.append_assoc, Q10.out]; exact T10⟩
                            · have hed2 : e2 = e1 := by omega
                              subst hed2
                              go_upto_if 144 with fail
                              go_cut [8] (fun v wx => TkW w0 wx v (L10 ++ (if ex then extraT else [])))
                              case first =>
                                clear E
                                cases ex
                                · go_wp2_with fail
                                  go_meet
                                  case rel => simpa using T9
                                · go_wp2_with (first | (go_at_call 17; refine (wordTok_any _ _).mono ?_; rintro e w' ⟨rfl, rfl⟩) | (go_at_call 18; refine (punctTok_any _ _).mono ?_; rintro e w' ⟨rfl, rfl⟩) | (at_builtin; refine wpList_append_own _ rfl (.tmp 145) (.tmp 150) 22 rfl w0.heap.size 35 i1 _ 5 56 Try.underlying22 hj hy0 hy1 hy2 rfl (by decide) _ _ _ rfl (((((T9.alloc _).alloc _).alloc _).alloc _).alloc _).own ⟨_, 0, none⟩ 4 4 (tkRow extraT) rfl rfl (many_new (by simp) rfl) (tkRow_one _) (by first | (unfold maxLen; omega) | (simp [maxLen])) (by first | omega | simp) (((((T9.alloc _).alloc _).alloc _).alloc _).alloc _).bel.size ?_; intro v' w1 hown' hgrow _; have T10 := (((((T9.alloc _).alloc _).alloc _).alloc _).alloc _).push (new := extraT) rfl hown' hgrow; clear hown' hgrow))
                                  go_meet
                                  case rel => exact T10
                              case rest =>
                                have T10 := hcut
                                clear hcut T9
                                have hL11 : (L10 ++ (if ex then extraT else [])).length ≤ 40 * q + 19 + 3 * e2 := by
                                  have : (if ex then extraT else []).length ≤ 4 := by cases ex <;> simp [extraT]
                                  rw [List.length_append]; omega
                                generalize hq11 : L10 ++ (if ex then extraT else []) = L11 at T10 hL11
                                have Q11 : Hid (L10 ++ (if ex then extraT else []) = L11) := hq11
                                clear hq11 hL10
                                go_wp2_with (first | (go_at_call 18; refine (punctTok_any _ _).mono ?_; rintro e w' ⟨rfl, rfl⟩) | (at_builtin; refine wpList_append_own _ rfl (.tmp 152) (.tmp 154) 22 rfl w0.heap.size 35 i1 _ 5 56 Try.underlying22 hj hy0 hy1 hy2 rfl (by decide) _ _ _ rfl ((T10.alloc _).alloc _).own ⟨_, 0, none⟩ 1 1 (tkRow [pt bClose]) rfl rfl (many_new (by simp) rfl) (tkRow_one _) (by first | (unfold maxLen; omega) | (simp [maxLen])) (by first | omega | simp) ((T10.alloc _).alloc _).bel.size ?_; intro v' w1 hown' hgrow _; have T11 := ((T10.alloc _).alloc _).push (new := [pt bClose]) rfl hown' hgrow; clear hown' hgrow))
                                go_roundg (n - (q + 1))
                                case measure => omega
                                case rel =>
                                  refine ⟨q + 1, by omega, rfl, by go_num, ?_⟩
                                  rw [E.out]
                                  have e : P ++ (B ++ sepT q ++ entryT nm co md e2 ex) = L11 ++ [pt bClose] := by
                                    rw [← Q11.out, ← Q10.out, ← Q9.out, ← Q8.out, ← Q7.out, ← Q6.out, ← Q5.out, ← Q4.out, ← Q3.out, ← Q1.out]
                                    simp [entryT, asT, innerT]
                                  rw [e]
                                  exact T11
          · have hqn : q = n := by omega
            subst hqn
            have hL := bodyT_len zs q q (Nat.le_refl _) HZ'.out
            have hL0 : (P ++ bodyT (fun i => entOf (zs i)) q).length ≤ 40 * q + 2 := by rw [List.length_append]; omega
            have hLg : 1 ≤ (P ++ bodyT (fun i => entOf (zs i)) q).length := by rw [List.length_append]; omega
            have HK : Hid (awR (P ++ bodyT (fun i => entOf (zs i)) q ++ tailT tl) (P ++ bodyT (fun i => entOf (zs i)) q ++ tailT tl).length 1 = (P ++ bodyT (fun i => entOf (zs i)) q).length) := by
              show _ = _
              rw [← HP.out]
              exact skips (fun i => entOf (zs i)) (fun k => entOf_ok (zs k)) (entOf_rec (zs 0)) q (by omega) rc tl
            clear hL
            generalize P ++ bodyT (fun i => entOf (zs i)) q = L at T HK hL0 hLg
            obtain ⟨a3, c3, hv3, hts3⟩ := T.sl
            subst hv3
            clear hts3
            go_upto_if 158 with fail
            go_cut [8] (fun v wx => TkW w0 wx v (L ++ tailT tl))
            case first =>
              cases tl
              · go_wp2_with fail
                go_meet
                case rel => simpa [tailT] using T
              · clear HK
                go_wp2_with (first | (go_at_call 17; refine (wordTok_any _ _).mono ?_; rintro e w' ⟨rfl, rfl⟩) | (go_at_call 18; refine (punctTok_any _ _).mono ?_; rintro e w' ⟨rfl, rfl⟩) | (at_builtin; refine wpList_append_own _ rfl (.tmp 159) (.tmp 166) 22 rfl w0.heap.size 35 i1 _ 5 56 Try.underlying22 hj hy0 hy1 hy2 rfl (by decide) _ _ _ rfl (((((((T.alloc _).alloc _).alloc _).alloc _).alloc _).alloc _).alloc _).own ⟨_, 0, none⟩ 6 6 (tkRow [wt bSelect, pt bOpen, pt b2, pt bClose, pt bCm, wt bX]) rfl rfl (many_new (by simp) rfl) (tkRow_one _) (by first | (unfold maxLen; omega) | (simp [maxLen])) (by first | omega | simp) (((((((T.alloc _).alloc _).alloc _).alloc _).alloc _).alloc _).alloc _).bel.size ?_; intro v' w1 hown' hgrow _; have T1 := (((((((T.alloc _).alloc _).alloc _).alloc _).alloc _).alloc _).alloc _).push (new := [wt bSelect, pt bOpen, pt b2, pt bClose, pt bCm, wt bX]) rfl hown' hgrow; clear hown' hgrow))
                go_meet
                case rel => exact T1
            case rest =>
              have T1 := hcut
              clear hcut T
              have hL1 : (L ++ tailT tl).length ≤ 40 * q + 8 := by
                have : (tailT tl).length ≤ 6 := by cases tl <;> simp [tailT]
                rw [List.length_append]; omega
              have hL1' : 1 ≤ (L ++ tailT tl).length := by rw [List.length_append]; omega
              generalize L ++ tailT tl = M at T1 HK hL1 hL1'
              obtain ⟨a4, c4, hv4, hts4⟩ := T1.sl
              subst hv4
              have HT : Hid (Toks wc a4 M.length M) := hts4
              have BW : Hid (Below w0.heap.size w0 wc) := T1.bel
              clear T1 hts4
              go_wp2_with fail
              refine (toZZ_any a4 M.length c4 wc M HT.out (by omega)).mono ?_
              rintro e w2 ⟨a5, c5, rfl, T5, B5⟩
              have HT5 : Hid (Toks w2 a5 M.length M) := T5
              clear T5
              go_wp2_with fail
              refine (zzAfter_any a5 M.length c5 1 M.length w2 M HT5.out (by omega) hL1' (Nat.le_refl _)).mono ?_
              rintro e w3 ⟨he, B6⟩
              rw [HK.out] at he
              subst he
              have BX : Hid (Below w0.heap.size w0 w3) := (BW.out.trans (B5.mono BW.out.size)).trans (B6.mono (Nat.le_trans BW.out.size B5.size))
              clear B5 B6 BW HK HT HT5
              go_wp2_with fail
              go_ret
              exact trueD_mk BX.out
end Go.Proofs.Qxb6602215a
