import Derived.Test.Qxb6602215aSpanWalk
namespace Go.Proofs.Qxb6602215a
open Go.RowKit Go.Deep
set_option linter.unusedVariables false
theorem Try.info42 : (Try.prog.info? 42).map (fun i => (i.zero, i.size, i.bytes)) = some (some (.agg #[.int .i64 0, .int .i64 0]), 2, 16) := by kernel_rfl

/-- The two cells of a span. -/
structure SpAt (w : World) (b o : Nat) (x : Nat × Nat) : Prop where
  c0 : w.cell? ⟨b, o, none⟩ = some (.int .i64 x.1)
  c1 : w.cell? ⟨b, o + 1, none⟩ = some (.int .i64 x.2)

/-- A slice at 'ao' of 'n' spans reads as 'sp'. -/
def SpSl (w : World) (ao : Option Addr) (n : Nat) (sp : List (Nat × Nat)) : Prop :=
  sp.length = n ∧ (n = 0 ∨ ∃ b o, ao = some ⟨b, o, none⟩ ∧ ∀ i x, sp[i]? = some x → SpAt w b (o + i * 2) x)

theorem SpAt.below {w w' : World} {B b o : Nat} {x : Nat × Nat} (h : SpAt w b o x) (hb : b < B) (bel : Below B w w') : SpAt w' b o x :=
  ⟨(bel.cell (p := ⟨b, o, none⟩) hb).trans h.c0, (bel.cell (p := ⟨b, o + 1, none⟩) hb).trans h.c1⟩
theorem SpAt.lt {w : World} {b o : Nat} {x : Nat × Nat} (h : SpAt w b o x) : b < w.heap.size := World.block_lt_of_cell? w ⟨b, o, none⟩ h.c0
theorem SpSl.below {w w' : World} {ao : Option Addr} {n : Nat} {sp : List (Nat × Nat)} (h : SpSl w ao n sp) (bel : Below w.heap.size w w') : SpSl w' ao n sp := by
  refine ⟨h.1, ?_⟩
  rcases h.2 with h0 | ⟨b, o, ha, hc⟩
  · exact Or.inl h0
  · exact Or.inr ⟨b, o, ha, fun i t ht => (hc i t ht).below (hc i t ht).lt bel⟩
theorem SpSl.at {w : World} {a : Addr} {n : Nat} {sp : List (Nat × Nat)} (h : SpSl w (some a) n sp) {k : Nat} (hk : k < n) :
    ∃ b o x, a = ⟨b, o, none⟩ ∧ Hid (sp[k]? = some x) ∧ SpAt w b (o + k * 2) x := by
  obtain ⟨hl, h0 | ⟨b, o, ha, hc⟩⟩ := h
  · omega
  · have hk' : k < sp.length := by omega
    exact ⟨b, o, sp[k], Option.some.inj ha, List.getElem?_eq_getElem hk', hc k _ (List.getElem?_eq_getElem hk')⟩

/-- What a callee that hands spans back leaves. -/
def SpRet (w : World) (ts : List Tk) (e : Ending) (w' : World) : Prop := ∃ ao n c sp, e = .returned (.slice ao n c) ∧ SpFin ts sp ∧ SpSl w' ao n sp ∧ Below w.heap.size w w'

theorem spRet_of {w w' : World} {ts : List Tk} {e : Ending} (h : Spanned w ts e w') : SpRet w ts e w' := by
  obtain ⟨v, sp, rfl, hf, ⟨hl, ho⟩, hb⟩ := h
  rcases ho with ⟨rfl, hn⟩ | ⟨g, cap, cur, rfl, hg, hh, hle, _, hs, htk⟩
  · exact ⟨none, 0, 0, sp, rfl, hf, ⟨hn, Or.inl rfl⟩, hb⟩
  · refine ⟨some ⟨g, 0, none⟩, sp.length, cap, sp, rfl, hf, ⟨rfl, Or.inr ⟨g, 0, rfl, fun i x hx => ?_⟩⟩, hb⟩
    have hi := (List.getElem?_eq_some_iff.1 hx).1
    obtain ⟨g0, g1⟩ := spRow_get sp i x hx
    rw [← htk, List.getElem?_take, if_pos (by omega)] at g0 g1
    rw [Nat.zero_add]
    exact ⟨by rw [cell_of_row w' g _ cur 54 (0, 0) hh]; simpa using g0, by rw [cell_of_row w' g _ cur 54 (0, 0) hh]; simpa using g1⟩

/-- A made row, k spans of it filled. -/
structure SpFilled (w wr : World) (g n k : Nat) (sp : List (Nat × Nat)) : Prop where
  bel : Below w.heap.size w wr
  glt : w.heap.size ≤ g
  th : wr.there g 0 (n * 2)
  fill : ∀ i x, i < k → sp[i]? = some x → SpAt wr g (i * 2) x

theorem spFilled_start {w w1 : World} {e : TypeId} {n : Nat} {xs : List Value} {sp : List (Nat × Nat)} (hown : w1.ownsRow w.heap.size e 2 (.slice (some ⟨w.heap.size, 0, none⟩) n n) n xs) (hg : w.grownBy w1 none) : SpFilled w w1 w.heap.size n 0 sp :=
  ⟨(Below.refl _ _).grown hg (Nat.le_refl _) (by simp), Nat.le_refl _, there_of_owns hown, fun i t hi => by omega⟩
theorem SpFilled.slot {w wr : World} {g n k : Nat} {sp : List (Nat × Nat)} (F : SpFilled w wr g n k sp) (hk : k < n) (j : Nat) (hj : j < 2) : (∃ u, wr.cell? ⟨g, k * 2 + j, none⟩ = some u) ∧ wr.frozen? ⟨g, k * 2 + j, none⟩ = false := by
  have := F.th (k * 2 + j) (by omega)
  rw [Nat.zero_add] at this
  exact ⟨Option.isSome_iff_exists.1 this.1, this.2⟩
theorem spAt_of_range {w : World} {b o : Nat} {x : Nat × Nat} (h : w.rangeAt b o (spCells x)) : SpAt w b o x := ⟨h 0 _ rfl, h 1 _ rfl⟩
theorem SpAt.range {w : World} {b o : Nat} {x : Nat × Nat} (h : SpAt w b o x) : w.rangeAt b o (spCells x) := fun j v hv => by
  match j, hv with
  | 0, hv => obtain rfl := Option.some.inj hv; exact h.c0
  | 1, hv => obtain rfl := Option.some.inj hv; exact h.c1
theorem spFilled_step0 {w wr : World} {g n k : Nat} {sp : List (Nat × Nat)} {t : Nat × Nat} (F : SpFilled w wr g n k sp) (hk : k < n) (ht : Hid (sp[k]? = some t)) : SpFilled w (wr.setCells g (k * 2) (spCells t)).drew g n (k + 1) sp := by
  refine ⟨(below_setCells F.glt _ _ _ F.bel).drew, F.glt, (World.there_drew _ _ _ _).2 (World.there_setCells F.th _ _ _), fun i u hi hu => ?_⟩
  apply spAt_of_range
  rw [World.rangeAt_drew]
  by_cases hik : i = k
  · subst hik
    have e : u = t := Option.some.inj (hu.symm.trans ht.out)
    subst e
    exact World.rangeAt_setCells_same _ _ _ _ (fun j hj => by
      have hj' : j < 2 := hj
      have := F.th (i * 2 + j) (by omega)
      rwa [Nat.zero_add] at this)
  · exact World.rangeAt_setCells_apart (F.fill i u (by omega) hu).range _ _ _ (Or.inr (Or.inl (by show i * 2 + 2 ≤ k * 2; omega)))
theorem spFilled_step {w wr : World} {g n k : Nat} {sp : List (Nat × Nat)} {t : Nat × Nat} (F : SpFilled w wr g n k sp) (hk : k < n) (ht : Hid (sp[k]? = some t)) :
    SpFilled w ((wr.setCell ⟨g, k * 2, none⟩ (.int .i64 t.1)).setCell ⟨g, k * 2 + 1, none⟩ (.int .i64 t.2)).drew g n (k + 1) sp :=
  spFilled_step0 F hk ht
theorem spRet_mk {n k g : Nat} {w w0 wr : World} {ts : List Tk} {sp : List (Nat × Nat)} (F : SpFilled w0 wr g n k sp) (hb : Below w.heap.size w w0) (hf : SpFin ts sp) (hl : sp.length = n) (hk : n ≤ k) : SpRet w ts (.returned (.slice (some ⟨g, 0, none⟩) n n)) wr :=
  ⟨_, _, _, sp, rfl, hf, ⟨hl, Or.inr ⟨g, 0, rfl, fun i t ht => by
    rw [Nat.zero_add]
    exact F.fill i t (by have := (List.getElem?_eq_some_iff.1 ht).1; omega) ht⟩⟩, hb.trans (F.bel.mono hb.size)⟩

set_option maxRecDepth 100000 in
set_option maxHeartbeats 1000000 in
theorem zzSpans_any (ao : Option Addr) (n c : Nat) (w : World) (ts : List Tk) (h : Toks w ao n ts) (hm : n ≤ 1048576) :
    Calls Try.prog 22 #[.slice ao n c] w (SpRet w ts) := by
  have H : Hid (Toks w ao n ts) := h
  clear h
  obtain ⟨i0, hi, hz0, hz1, hz2⟩ := info_parts Try.info42
  go_enter Try.func22, Try.ntmps22
  go_wp2_with fail
  refine (zzToks_any ao n c w ts H.out hm).mono ?_
  rintro e w1 ⟨a1, c1, rfl, T1, B1⟩
  have HT1 : Hid (Toks w1 a1 n ts) := T1
  clear T1
  go_wp2_with fail
  refine (spans_any a1 n c1 w1 ts HT1.out hm).mono ?_
  rintro e w2 hs
  obtain ⟨a2, n2, c2, sp, rfl, hf, S2, B2'⟩ := spRet_of hs
  clear hs
  have B2 : Below w.heap.size w w2 := B1.trans (B2'.mono B1.size)
  clear B1 B2' HT1
  have hlen : n2 ≤ 1048577 := by have := hf.len; have := S2.1; have := H.out.1; omega
  have HS : Hid (SpSl w2 a2 n2 sp) := S2
  clear S2
  cases a2 with
  | none =>
    have hq := fun wx => Lib.run_eql_slice_nil (P := Try.prog) wx 51 54 none n2 c2 0 0 Try.underlying51
    go_wp2
    go_ret
    refine ⟨_, _, _, sp, rfl, hf, ⟨?_, Or.inl rfl⟩, B2⟩
    rcases HS.out with ⟨h1, h2 | ⟨_, _, h2, _⟩⟩
    · omega
    · cases h2
  | some a =>
    have hq := fun wx => Lib.run_eql_slice_nil (P := Try.prog) wx 51 54 (some a) n2 c2 0 0 Try.underlying51
    have hbytes : i0.bytes * n2 ≤ 281474976710656 := by rw [hz2]; omega
    go_wp2_with (at_make; refine wpList_make_full _ rfl _ _ 39 rfl w2.heap.size 42 i0 _ 2 Try.underlying39 hi hz0 hz1 _ _ _ _ n2 rfl rfl rfl rfl hbytes (by unfold maxLen; omega) (Nat.le_refl _) ?_)
    intro w3 hown hgrow
    have F0 := spFilled_start (sp := sp) hown hgrow
    clear hown hgrow hq hi hz0 hz1 hz2 hbytes
    go_wp2
    go_loopw [5] (fun i wr => ∃ k : Nat, k ≤ n2 ∧ i = .int .i64 k ∧ SpFilled w2 wr w2.heap.size n2 k sp) (fun i _ => n2 - (intOf i).toNat)
    case atStart => exact ⟨0, Nat.zero_le _, rfl, F0⟩
    case round =>
      obtain ⟨k, hk, rfl, F⟩ := hrel
      by_cases hlt : k < n2
      · obtain ⟨b, o, x, hao, hx, T0⟩ := HS.out.at hlt
        subst hao
        have T := T0.below T0.lt F.bel
        have hbw := T0.lt
        have FH : Hid (SpFilled w2 wr w2.heap.size n2 k sp) := F
        obtain ⟨c0, c1⟩ := T
        obtain ⟨⟨u0, d0⟩, f0⟩ := F.slot hlt 0 (by omega)
        obtain ⟨⟨u1, d1⟩, f1⟩ := F.slot hlt 1 (by omega)
        have hne : ¬ b = w2.heap.size := by omega
        have hne' : ¬ w2.heap.size = b := by omega
        clear F T0
        rw [Nat.add_zero] at d0 f0
        have hlt' : (k : Int) < (n2 : Int) := by omega
        have hk0 : (0 : Int) ≤ (k : Int) := by omega
        go_wp2
        go_region_held3 (fun w' => w'.cell? ⟨b, o + k * 2, none⟩ = some (.int .i64 x.1) ∧ w'.cell? ⟨b, o + k * 2 + 1, none⟩ = some (.int .i64 x.2)) (go_keep) (fail)
        go_wp2
        go_roundw
        case rel => exact ⟨k + 1, by omega, by go_num, spFilled_step FH.out hlt hx⟩
        case measure => simp [intOf]; omega
      · go_wp2
        go_ret
        exact spRet_mk F B2 hf HS.out.1 (by omega)
end Go.Proofs.Qxb6602215a
