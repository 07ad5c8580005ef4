import Derived.Test.Qxb6602215aSpanZZ
import Derived.Test.Qxb6602215aGuards
namespace Go.Proofs.Qxb6602215a
open Go.RowKit Go.Deep
set_option linter.unusedVariables false
theorem Try.info4 : (Try.prog.info? 4).map (fun i => (i.zero, i.size, i.bytes)) = some (some (.bool false), 1, 1) := by kernel_rfl

def LawPost (w : World) (e : Ending) (w' : World) : Prop := e = .returned (.bool true) ∧ Below w.heap.size w w'
theorem SpSl.at' {w : World} {ao : Option Addr} {n : Nat} {sp : List (Nat × Nat)} (h : SpSl w ao n sp) {k : Nat} (hk : k < n) :
    ∃ b o x, ao = some ⟨b, o, none⟩ ∧ Hid (sp[k]? = some x) ∧ SpAt w b (o + k * 2) x := by
  obtain ⟨hl, h0 | ⟨b, o, ha, hc⟩⟩ := h
  · omega
  · have hk' : k < sp.length := by omega
    exact ⟨b, o, sp[k], ha, List.getElem?_eq_getElem hk', hc k _ (List.getElem?_eq_getElem hk')⟩
theorem lawPost_mk {w w' : World} (h : Below w.heap.size w w') : LawPost w (.returned (.bool true)) w' := ⟨rfl, h⟩

/-- The row 'covered': what is known of its cells. -/
structure Cov (w3 wr : World) (g n : Nat) (Q : Nat → Prop) : Prop where
  bel : Below w3.heap.size w3 wr
  glt : w3.heap.size ≤ g
  cell : ∀ j, j < n → ∃ b, wr.cell? ⟨g, j, none⟩ = some (.bool b) ∧ (Q j → b = true)
  free : ∀ j, j < n → wr.frozen? ⟨g, j, none⟩ = false
/-- Covered by one of the first k spans. -/
def Upto (sp : List (Nat × Nat)) (k : Nat) (j : Nat) : Prop := ∃ (i : Nat) (x : Nat × Nat), i < k ∧ sp[i]? = some x ∧ x.1 ≤ j ∧ j < x.2
/-- .. or by the span x up to m. -/
def UptoIn (sp : List (Nat × Nat)) (k : Nat) (x : Nat × Nat) (m : Nat) (j : Nat) : Prop := Upto sp k j ∨ (x.1 ≤ j ∧ j < m)

theorem Cov.thinned {w3 wr : World} {g n : Nat} {Q Q' : Nat → Prop} (C : Cov w3 wr g n Q) (h : ∀ j, Q' j → Q j) : Cov w3 wr g n Q' :=
  ⟨C.bel, C.glt, fun j hj => let ⟨b, h1, h2⟩ := C.cell j hj; ⟨b, h1, fun q => h2 (h j q)⟩, C.free⟩

theorem cov_start {w3 w4 w5 : World} {n : Nat} {sp : List (Nat × Nat)} (hb : Below w3.heap.size w3 w4) (hown : w5.ownsRow w4.heap.size 4 1 (.slice (some ⟨w4.heap.size, 0, none⟩) n n) n (madeCells (Value.bool false).cells (n * 1)).toList) (hg : w4.grownBy w5 none) :
    Cov w3 w5 w4.heap.size n (Upto sp 0) := by
  refine ⟨hb.grown hg hb.size (by simp), hb.size, fun j hj => ⟨false, ?_, fun ⟨i, x, hi, _⟩ => by omega⟩, fun j hj => ?_⟩
  · have := hown.cells (g := w4.heap.size) rfl j (.bool false) (by
      show (madeCells #[Value.bool false] (n * 1)).toList[j]? = _
      rw [toList_madeCells_one, Nat.mul_one]
      simp [hj])
    rwa [Addr.add_lit, Nat.zero_add] at this
  · have := (there_of_owns hown j (by omega)).2
    rwa [Nat.zero_add] at this

theorem cov_store {w3 wr : World} {g n m k : Nat} {sp : List (Nat × Nat)} {x : Nat × Nat} (C : Cov w3 wr g n (UptoIn sp k x m)) (hm : m < n) :
    Cov w3 (wr.setCell ⟨g, m, none⟩ (.bool true)) g n (UptoIn sp k x (m + 1)) := by
  refine ⟨C.bel.setCell C.glt _, C.glt, fun j hj => ?_, fun j hj => ?_⟩
  · by_cases hjm : j = m
    · subst hjm
      obtain ⟨b, h1, _⟩ := C.cell j hj
      exact ⟨true, World.cell?_setCell_same _ _ _ h1, fun _ => rfl⟩
    · obtain ⟨b, h1, h2⟩ := C.cell j hj
      refine ⟨b, ?_, fun q => h2 ?_⟩
      · rw [World.cell?_setCell_other]
        · exact h1
        · intro e; exact hjm (Addr.mk.inj e).2.1.symm
      · rcases q with q | q
        · exact Or.inl q
        · exact Or.inr ⟨q.1, by omega⟩
  · rw [World.frozen?_setCell]
    exact C.free j hj

theorem cov_in {w3 wr : World} {g n k : Nat} {sp : List (Nat × Nat)} {x : Nat × Nat} (C : Cov w3 wr g n (Upto sp k)) : Cov w3 wr g n (UptoIn sp k x x.1) :=
  C.thinned fun j q => by
    rcases q with q | q
    · exact q
    · omega

theorem cov_next {w3 wr : World} {g n m k : Nat} {sp : List (Nat × Nat)} {x : Nat × Nat} (C : Cov w3 wr g n (UptoIn sp k x m)) (hx : Hid (sp[k]? = some x)) (hm : x.2 ≤ m) : Cov w3 wr g n (Upto sp (k + 1)) :=
  C.thinned fun j ⟨i, y, hi, hy, h1, h2⟩ => by
    by_cases hik : i = k
    · subst hik
      have e : y = x := Option.some.inj (hy.symm.trans hx.out)
      subst e
      exact Or.inr ⟨h1, by omega⟩
    · exact Or.inl ⟨i, y, by omega, hy, h1, h2⟩

set_option maxRecDepth 100000 in
set_option maxHeartbeats 4000000 in
theorem spMain (ao : Option Addr) (n c : Nat) (w : World) (ts : List Tk) (h : Toks w ao n ts) (hm : n ≤ maxLen) :
    Calls Try.prog 6 #[.slice ao n c] w (LawPost w) := by
  have H : Hid (Toks w ao n ts) := h
  clear h
  obtain ⟨i0, hi, hz0, hz1, hz2⟩ := info_parts Try.info4
  go_enter Try.func6, Try.ntmps6
  go_wp2_with fail
  refine (zz21_any ao n c w ts H.out hm).mono ?_
  rintro e w0 ⟨b0, rfl, hb0, rfl⟩
  cases b0
  · go_wp2
    go_ret
    exact lawPost_mk (Below.refl _ _)
  clear hb0
  go_wp2_with fail
  refine (tokFits_any ao n c w0 ts H.out hm).mono ?_
  rintro e w1 ⟨b1, rfl, hb1, B1⟩
  cases b1
  · go_wp2
    go_ret
    exact lawPost_mk B1
  have hn : n ≤ 16384 := hb1 rfl
  clear hb1 hm
  have H1 : Hid (Toks w1 ao n ts) := H.out.below B1
  go_wp2_with fail
  refine (toZZ_any ao n c w1 ts H1.out (by omega)).mono ?_
  rintro e w2 ⟨a1, c1, rfl, T2, B2⟩
  have HT2 : Hid (Toks w2 a1 n ts) := T2
  clear T2
  go_wp2_with fail
  refine (zzSpans_any a1 n c1 w2 ts HT2.out (by omega)).mono ?_
  rintro e w3 ⟨a2, n2, c2, sp, rfl, hf, S3, B3⟩
  have H3 : Hid (Toks w3 ao n ts) := (H1.out.below B2).below B3
  have BW : Hid (Below w0.heap.size w0 w3) := (B1.trans (B2.mono B1.size)).trans (B3.mono (Nat.le_trans B1.size B2.size))
  have HS : Hid (SpSl w3 a2 n2 sp) := S3
  have hn2 : n2 ≤ 16385 := by have := hf.len; have := S3.1; have := H3.out.1; omega
  clear S3 HT2 B1 B2 B3 H1 H
  go_wp2_with fail
  go_loopw [5] (fun i wr => ∃ k : Nat, k ≤ n2 ∧ i = .int .i64 k ∧ Below w3.heap.size w3 wr) (fun i _ => n2 - (intOf i).toNat)
  case atStart => exact ⟨0, Nat.zero_le _, rfl, Below.refl _ _⟩
  case round =>
    obtain ⟨k, hk, rfl, hbel⟩ := hrel
    by_cases hlt : k < n2
    · obtain ⟨b, o, x, hao, hx, A⟩ := HS.out.at' hlt
      subst hao
      obtain ⟨g1, g2, g3⟩ := hf.ok k x hx.out
      have g1' : decide (x.2 ≤ x.1) = false := by simp; omega
      have hl3 := H3.out.1
      have g2' : decide (n < x.2) = false := by simp; omega
      have hlt' : (k : Int) < (n2 : Int) := by omega
      have hk0 : (0 : Int) ≤ (k : Int) := by omega
      have A' := A.below A.lt hbel
      obtain ⟨d0, d1⟩ := A'
      have G3 : Hid (x.2 < ts.length → semi ts x.2 = true) := g3
      have HL : Hid (ts.length = n) := hl3
      clear g1 g2 g3 A hl3
      go_wp2_with fail
      go_quiet (fail)
      go_wp2_with fail
      by_cases hkz : 0 < k
      · obtain ⟨b', o', y, hao', hy, A2⟩ := HS.out.at' (show k - 1 < n2 by omega)
        simp only [Option.some.injEq, Addr.mk.injEq, and_true] at hao'
        obtain ⟨rfl, rfl⟩ := hao'
        have hyx := hf.ord (k - 1) y x hy.out (by rw [show k - 1 + 1 = k by omega]; exact hx.out)
        have d2 := (A2.below A2.lt hbel).c1
        clear A2 hy
        have hp0 : (0 : Int) < (k : Int) := by omega
        have hp1 : (k : Int) - 1 < (n2 : Int) := by omega
        have hp2 : (0 : Int) ≤ (k : Int) - 1 := by omega
        have hp3 : ((k : Int) - 1).toNat = k - 1 := by omega
        have hyx' : decide (x.1 ≤ y.2) = false := by simp; omega
        go_quiet (fail)
        by_cases hq : x.2 < n
        · have hse : isPunctL ts (x.2 : Int) [59] = true := G3.out (by have := HL.out; omega)
          have hq' : (x.2 : Int) < (n : Int) := by omega
          go_wp2_with (first | (go_at_call 23; refine (isPunctTok_any _ _ _ _ _ _ ts (H3.out.below (by first | exact below_drewN hbel _ | exact below_drewN (below_drewN hbel _) _))).mono ?_; rintro e w' ⟨rfl, rfl⟩))
          go_roundw
          case rel => exact ⟨k + 1, by omega, by go_num, by first | exact below_drewN hbel _ | exact below_drewN (below_drewN hbel _) _⟩
          case measure => simp [intOf]; omega
        · have hq' : (n : Int) ≤ (x.2 : Int) := by omega
          go_wp2_with fail
          go_roundw
          case rel => exact ⟨k + 1, by omega, by go_num, by first | exact below_drewN hbel _ | exact below_drewN (below_drewN hbel _) _⟩
          case measure => simp [intOf]; omega
      · have hp0 : decide ((0 : Int) < (k : Int)) = false := by simp; omega
        have hp1 : decide (0 < k) = false := by simp; omega
        go_quiet (fail)
        by_cases hq : x.2 < n
        · have hse : isPunctL ts (x.2 : Int) [59] = true := G3.out (by have := HL.out; omega)
          have hq' : (x.2 : Int) < (n : Int) := by omega
          go_wp2_with (first | (go_at_call 23; refine (isPunctTok_any _ _ _ _ _ _ ts (H3.out.below (by first | exact below_drewN hbel _ | exact below_drewN (below_drewN hbel _) _))).mono ?_; rintro e w' ⟨rfl, rfl⟩))
          go_roundw
          case rel => exact ⟨k + 1, by omega, by go_num, by first | exact below_drewN hbel _ | exact below_drewN (below_drewN hbel _) _⟩
          case measure => simp [intOf]; omega
        · have hq' : (n : Int) ≤ (x.2 : Int) := by omega
          go_wp2_with fail
          go_roundw
          case rel => exact ⟨k + 1, by omega, by go_num, by first | exact below_drewN hbel _ | exact below_drewN (below_drewN hbel _) _⟩
          case measure => simp [intOf]; omega
    · have HB : Hid (Below w3.heap.size w3 wr) := hbel
      clear hbel
      have hbytes : i0.bytes * n ≤ 281474976710656 := by rw [hz2]; omega
      go_wp2_with (at_make; refine wpList_make_full _ rfl _ _ 32 rfl wr.heap.size 4 i0 _ 1 Try.underlying32 hi hz0 hz1 _ _ _ _ n rfl rfl rfl rfl hbytes (by unfold maxLen; omega) (Nat.le_refl _) ?_)
      intro w5 hown hgrow
      have C0 : Cov w3 w5 wr.heap.size n (Upto sp 0) := cov_start HB.out (by rw [Nat.mul_one]; exact hown) hgrow
      clear hown hgrow hbytes hi hz0 hz1 hz2
      generalize wr.heap.size = g at *
      go_wp2_with fail
      go_loopw [7] (fun i wq => ∃ k : Nat, k ≤ n2 ∧ i = .int .i64 k ∧ Cov w3 wq g n (Upto sp k)) (fun i _ => n2 - (intOf i).toNat)
      case atStart => exact ⟨0, Nat.zero_le _, rfl, C0⟩
      case round =>
        clear C0
        obtain ⟨k, hk, rfl, C⟩ := hrel
        by_cases hlt : k < n2
        · obtain ⟨b, o, x, hao, hx, A⟩ := HS.out.at' hlt
          subst hao
          obtain ⟨g1, g2, _⟩ := hf.ok k x hx.out
          have hbg : ¬ b = g := by have := A.lt; have := C.glt; omega
          have hbg' : ¬ g = b := by have := A.lt; have := C.glt; omega
          have A' := A.below A.lt C.bel
          obtain ⟨d0, d1⟩ := A'
          have CH : Hid (Cov w3 wr g n (Upto sp k)) := C
          clear C
          go_wp2_with fail
          go_loopw [8] (fun i wq => ∃ m : Nat, x.1 ≤ m ∧ m ≤ x.2 ∧ i = .int .i64 m ∧ Cov w3 wq g n (UptoIn sp k x m)) (fun i _ => x.2 - (intOf i).toNat)
          case atStart => exact ⟨x.1, Nat.le_refl _, by omega, rfl, cov_in CH.out⟩
          case round =>
            obtain ⟨m, hm1, hm2, rfl, C⟩ := hrel
            clear CH
            have A' := A.below A.lt C.bel
            obtain ⟨d0, d1⟩ := A'
            by_cases hlt2 : m < x.2
            · have hmn : m < n := by have := H3.out.1; omega
              obtain ⟨bb, e1, _⟩ := C.cell m hmn
              have e2 := C.free m hmn
              have CH : Hid (Cov w3 wr g n (UptoIn sp k x m)) := C
              clear C
              go_wp2_with fail
              go_roundw
              case rel => exact ⟨m + 1, by omega, by omega, by go_num, cov_store CH.out hmn⟩
              case measure => simp [intOf]; omega
            · have C2 : Hid (Cov w3 wr g n (Upto sp (k + 1))) := cov_next C hx (by omega)
              clear C
              go_wp2_with fail
              go_roundw
              case rel => exact ⟨k + 1, by omega, by go_num, C2.out⟩
              case measure => simp [intOf]; omega
        · have CH : Hid (Cov w3 wr g n (Upto sp k)) := C
          clear C
          have hkn : k = n2 := by omega
          have HK : Hid (k = n2) := hkn
          clear hkn
          go_wp2_with fail
          go_loopw [9] (fun i wq => ∃ j : Nat, j ≤ n ∧ i = .int .i64 j ∧ Cov w3 wq g n (Upto sp k)) (fun i _ => n - (intOf i).toNat)
          case atStart => exact ⟨0, Nat.zero_le _, rfl, CH.out⟩
          case round =>
            clear CH
            obtain ⟨j, hj, rfl, C⟩ := hrel
            by_cases hlt2 : j < n
            · obtain ⟨bb, e1, e2⟩ := C.cell j hlt2
              have CH : Hid (Cov w3 wr g n (Upto sp k)) := C
              clear C
              cases bb
              · have hse : isPunctL ts (j : Int) [59] = true := by
                  rcases hf.cov j (by have := H3.out.1; omega) with h | ⟨i, x, hx, h1, h2⟩
                  · exact h
                  · have hi := (List.getElem?_eq_some_iff.1 hx).1
                    exact absurd (e2 ⟨i, x, by have := HK.out; have := HS.out.1; omega, hx, h1, h2⟩) (by simp)
                clear e2
                go_wp2_with (first | (go_at_call 23; refine (isPunctTok_any _ _ _ _ _ _ ts (H3.out.below CH.out.bel)).mono ?_; rintro e w' ⟨rfl, rfl⟩))
                go_roundw
                case rel => exact ⟨j + 1, by omega, by go_num, CH.out⟩
                case measure => simp [intOf]; omega
              · clear e2
                go_wp2_with fail
                go_roundw
                case rel => exact ⟨j + 1, by omega, by go_num, CH.out⟩
                case measure => simp [intOf]; omega
            · have BF : Hid (Below w0.heap.size w0 wr) := BW.out.trans (C.bel.mono BW.out.size)
              clear C
              go_wp2_with fail
              go_ret
              exact lawPost_mk BF.out
end Go.Proofs.Qxb6602215a
