import Derived.Test.Qxb6602215aLeaves
import Derived.Deep.RegionHeld3
namespace Go.Proofs.Qxb6602215a
open Go.RowKit Go.Deep
set_option linter.unusedVariables false
theorem Try.info50 : (Try.prog.info? 50).map (fun i => (i.zero, i.size, i.bytes)) = some (some (.agg #[.bool false, .string ByteArray.empty, .string ByteArray.empty, .int .i64 0, .int .i64 0]), 5, 56) := by kernel_rfl
theorem Try.info58 : (Try.prog.info? 58).map (fun i => (i.zero, i.size, i.bytes)) = some (some (.agg #[.bool false, .string ByteArray.empty, .string ByteArray.empty, .int .i64 0, .int .i64 0]), 5, 56) := by kernel_rfl

theorem there_of_owns {w : World} {base : Nat} {e : TypeId} {size g n cap : Nat} {xs : List Value} (h : w.ownsRow base e size (.slice (some ⟨g, 0, none⟩) n cap) n xs) : w.there g 0 (n * size) := by
  obtain ⟨_, ⟨hv, _⟩ | ⟨g', cap', cur, hv, _, hg, hle, _, hs, _⟩⟩ := h
  · cases hv
  · simp only [Value.slice.injEq, Option.some.injEq, Addr.mk.injEq] at hv
    obtain ⟨⟨rfl, _⟩, _, rfl⟩ := hv
    intro j hj
    have : n * size ≤ cap * size := Nat.mul_le_mul_right _ hle
    refine ⟨?_, frozen_of_row w g _ cur e hg⟩
    rw [cell_of_row w g _ cur e (0, 0) hg]
    simp [show j < cur.size by omega]

theorem Toks.at2 {w : World} {a : Addr} {n : Nat} {ts : List Tk} (h : Toks w (some a) n ts) {k : Nat} (hk : k < n) :
    ∃ b o t, a = ⟨b, o, none⟩ ∧ Hid (ts[k]? = some t) ∧ TkAt w b (o + k * 5) t := by
  obtain ⟨hl, h0 | ⟨b, o, ha, hc⟩⟩ := h
  · omega
  · have hk' : k < ts.length := by omega
    exact ⟨b, o, ts[k], Option.some.inj ha, List.getElem?_eq_getElem hk', hc k _ (List.getElem?_eq_getElem hk')⟩

/-- A made row, k tokens of it filled. -/
structure Filled (w wr : World) (g n k : Nat) (ts : List Tk) : Prop where
  bel : Below w.heap.size w wr
  glt : w.heap.size ≤ g
  th : wr.there g 0 (n * 5)
  fill : ∀ i t, i < k → ts[i]? = some t → TkAt wr g (i * 5) t

theorem filled_start {w w1 : World} {e : TypeId} {n : Nat} {xs : List Value} {ts : List Tk} (hown : w1.ownsRow w.heap.size e 5 (.slice (some ⟨w.heap.size, 0, none⟩) n n) n xs) (hg : w.grownBy w1 none) : Filled w w1 w.heap.size n 0 ts :=
  ⟨(Below.refl _ _).grown hg (Nat.le_refl _) (by simp), Nat.le_refl _, there_of_owns hown, fun i t hi => by omega⟩

theorem Filled.slot {w wr : World} {g n k : Nat} {ts : List Tk} (F : Filled w wr g n k ts) (hk : k < n) (j : Nat) (hj : j < 5) : (∃ u, wr.cell? ⟨g, k * 5 + j, none⟩ = some u) ∧ wr.frozen? ⟨g, k * 5 + j, none⟩ = false := by
  have := F.th (k * 5 + j) (by omega)
  rw [Nat.zero_add] at this
  exact ⟨Option.isSome_iff_exists.1 this.1, this.2⟩

def Tk.cells (t : Tk) : List Value := [.bool t.word, .string t.text, .string t.uesc, .int .i64 t.st, .int .i64 t.en]

theorem tkAt_of_range {w : World} {b o : Nat} {t : Tk} (h : w.rangeAt b o t.cells) : TkAt w b o t :=
  ⟨h 0 _ rfl, h 1 _ rfl, h 2 _ rfl, h 3 _ rfl, h 4 _ rfl⟩

theorem TkAt.range {w : World} {b o : Nat} {t : Tk} (h : TkAt w b o t) : w.rangeAt b o t.cells := fun j v hv => by
  match j, hv with
  | 0, hv => obtain rfl := Option.some.inj hv; exact h.c0
  | 1, hv => obtain rfl := Option.some.inj hv; exact h.c1
  | 2, hv => obtain rfl := Option.some.inj hv; exact h.c2
  | 3, hv => obtain rfl := Option.some.inj hv; exact h.c3
  | 4, hv => obtain rfl := Option.some.inj hv; exact h.c4

theorem below_setCells {B : Nat} {a : World} {b : Nat} (hb : B ≤ b) : ∀ (vs : List Value) (o : Nat) (w : World), Below B a w → Below B a (w.setCells b o vs)
  | [], _, _, h => h
  | v :: r, o, w, h => below_setCells hb r (o + 1) _ (h.setCell (p := ⟨b, o, none⟩) hb v)

theorem filled_step0 {w wr : World} {g n k : Nat} {ts : List Tk} {t : Tk} (F : Filled w wr g n k ts) (hk : k < n) (ht : Hid (ts[k]? = some t)) : Filled w (wr.setCells g (k * 5) t.cells).drew g n (k + 1) ts := by
  refine ⟨(below_setCells F.glt _ _ _ F.bel).drew, F.glt, (World.there_drew _ _ _ _).2 (World.there_setCells F.th _ _ _), fun i u hi hu => ?_⟩
  apply tkAt_of_range
  rw [World.rangeAt_drew]
  by_cases hik : i = k
  · subst hik
    have e : u = t := Option.some.inj (hu.symm.trans ht.out)
    subst e
    exact World.rangeAt_setCells_same _ _ _ _ (fun j hj => by
      have hj' : j < 5 := hj
      have := F.th (i * 5 + j) (by omega)
      rwa [Nat.zero_add] at this)
  · exact World.rangeAt_setCells_apart (F.fill i u (by omega) hu).range _ _ _ (Or.inr (Or.inl (by show i * 5 + 5 ≤ k * 5; omega)))

theorem filled_step {w wr : World} {g n k : Nat} {ts : List Tk} {t : Tk} (F : Filled w wr g n k ts) (hk : k < n) (ht : Hid (ts[k]? = some t)) :
    Filled w (((((wr.setCell ⟨g, k * 5, none⟩ (.bool t.word)).setCell ⟨g, k * 5 + 1, none⟩ (.string t.text)).setCell ⟨g, k * 5 + 2, none⟩ (.string t.uesc)).setCell ⟨g, k * 5 + 3, none⟩ (.int .i64 t.st)).setCell ⟨g, k * 5 + 4, none⟩ (.int .i64 t.en)).drew g n (k + 1) ts :=
  filled_step0 F hk ht

/-- What a copying callee leaves. -/
def Copied (n : Nat) (w : World) (ts : List Tk) (e : Ending) (w' : World) : Prop := ∃ a' c', e = .returned (.slice a' n c') ∧ Toks w' a' n ts ∧ Below w.heap.size w w'

theorem copied_mk {n k g : Nat} {w wr : World} {ts : List Tk} (F : Filled w wr g n k ts) (hl : ts.length = n) (hk : n ≤ k) : Copied n w ts (.returned (.slice (some ⟨g, 0, none⟩) n n)) wr :=
  ⟨_, _, rfl, ⟨hl, Or.inr ⟨g, 0, rfl, fun i t ht => by
    rw [Nat.zero_add]
    exact F.fill i t (by have := (List.getElem?_eq_some_iff.1 ht).1; omega) ht⟩⟩, F.bel⟩

set_option maxHeartbeats 1000000 in
theorem toZZ_some (a : Addr) (n c : Nat) (w : World) (ts : List Tk) (h : Toks w (some a) n ts) (hm : n ≤ 1048576) :
    Calls Try.prog 13 #[.slice (some a) n c] w (Copied n w ts) := by
  have H : Hid (Toks w (some a) n ts) := h
  clear h
  obtain ⟨i0, hi, hz0, hz1, hz2⟩ := info_parts Try.info50
  have hbytes : i0.bytes * n ≤ 281474976710656 := by rw [hz2]; omega
  have hq := fun wx => Lib.run_eql_slice_nil (P := Try.prog) wx 22 35 (some a) n c 0 0 Try.underlying22
  go_enter Try.func13, Try.ntmps13
  go_wp2_with (at_make; refine wpList_make_full _ rfl _ _ 27 rfl w.heap.size 50 i0 _ 5 Try.underlying27 hi hz0 hz1 _ _ _ _ n rfl rfl rfl rfl hbytes (by unfold maxLen; omega) (Nat.le_refl _) ?_)
  intro w1 hown hgrow
  have F0 := filled_start (ts := ts) hown hgrow
  clear hown hgrow hq hi hz0 hz1 hz2 hbytes
  go_wp2
  go_loopw [4] (fun i wr => ∃ k : Nat, k ≤ n ∧ i = .int .i64 k ∧ Filled w wr w.heap.size n k ts) (fun i _ => n - (intOf i).toNat)
  case atStart => exact ⟨0, Nat.zero_le _, rfl, F0⟩
  case round =>
    obtain ⟨k, hk, rfl, F⟩ := hrel
    by_cases hlt : k < n
    · obtain ⟨b, o, t, hao, ht, T0⟩ := H.out.at2 hlt
      subst hao
      have T := T0.below T0.lt F.bel
      have hbw := T0.lt
      have FH : Hid (Filled w wr w.heap.size n k ts) := F
      obtain ⟨c0, c1, c2, c3, c4⟩ := T
      obtain ⟨⟨u0, d0⟩, f0⟩ := F.slot hlt 0 (by omega)
      obtain ⟨⟨u1, d1⟩, f1⟩ := F.slot hlt 1 (by omega)
      obtain ⟨⟨u2, d2⟩, f2⟩ := F.slot hlt 2 (by omega)
      obtain ⟨⟨u3, d3⟩, f3⟩ := F.slot hlt 3 (by omega)
      obtain ⟨⟨u4, d4⟩, f4⟩ := F.slot hlt 4 (by omega)
      have hne : ¬ b = w.heap.size := by omega
      have hne' : ¬ w.heap.size = b := by omega
      clear F T0
      rw [Nat.add_zero] at d0 f0
      have hlt' : (k : Int) < (n : Int) := by omega
      have hk0 : (0 : Int) ≤ (k : Int) := by omega
      go_wp2
      go_region_held3 (fun w' => w'.cell? ⟨b, o + k * 5, none⟩ = some (.bool t.word) ∧ w'.cell? ⟨b, o + k * 5 + 1, none⟩ = some (.string t.text) ∧ w'.cell? ⟨b, o + k * 5 + 2, none⟩ = some (.string t.uesc) ∧ w'.cell? ⟨b, o + k * 5 + 3, none⟩ = some (.int .i64 t.st) ∧ w'.cell? ⟨b, o + k * 5 + 4, none⟩ = some (.int .i64 t.en)) (go_keep) (fail)
      go_wp2
      go_roundw
      case rel => exact ⟨k + 1, by omega, by go_num, filled_step FH.out hlt ht⟩
      case measure => simp [intOf]; omega
    · go_wp2
      go_ret
      exact copied_mk F H.out.1 (by omega)

set_option maxHeartbeats 1000000 in
theorem toZZ_nil (n c : Nat) (w : World) (ts : List Tk) (h : Toks w none n ts) :
    Calls Try.prog 13 #[.slice none n c] w (Copied n w ts) := by
  obtain ⟨hl, h0 | ⟨b, o, ha, hc⟩⟩ := h
  · subst h0
    have hq := fun wx => Lib.run_eql_slice_nil (P := Try.prog) wx 22 35 none 0 c 0 0 Try.underlying22
    go_enter Try.func13, Try.ntmps13
    go_wp2
    go_ret
    exact ⟨_, _, rfl, ⟨hl, Or.inl rfl⟩, Below.refl _ _⟩
  · cases ha

theorem toZZ_any (ao : Option Addr) (n c : Nat) (w : World) (ts : List Tk) (h : Toks w ao n ts) (hm : n ≤ 1048576) :
    Calls Try.prog 13 #[.slice ao n c] w (Copied n w ts) := by
  cases ao with
  | none => exact toZZ_nil n c w ts h
  | some a => exact toZZ_some a n c w ts h hm

set_option maxHeartbeats 1000000 in
theorem zzToks_some (a : Addr) (n c : Nat) (w : World) (ts : List Tk) (h : Toks w (some a) n ts) (hm : n ≤ 1048576) :
    Calls Try.prog 29 #[.slice (some a) n c] w (Copied n w ts) := by
  have H : Hid (Toks w (some a) n ts) := h
  clear h
  obtain ⟨i0, hi, hz0, hz1, hz2⟩ := info_parts Try.info58
  have hbytes : i0.bytes * n ≤ 281474976710656 := by rw [hz2]; omega
  have hq := fun wx => Lib.run_eql_slice_nil (P := Try.prog) wx 27 50 (some a) n c 0 0 Try.underlying27
  go_enter Try.func29, Try.ntmps29
  go_wp2_with (at_make; refine wpList_make_full _ rfl _ _ 48 rfl w.heap.size 58 i0 _ 5 Try.underlying48 hi hz0 hz1 _ _ _ _ n rfl rfl rfl rfl hbytes (by unfold maxLen; omega) (Nat.le_refl _) ?_)
  intro w1 hown hgrow
  have F0 := filled_start (ts := ts) hown hgrow
  clear hown hgrow hq hi hz0 hz1 hz2 hbytes
  go_wp2
  go_loopw [4] (fun i wr => ∃ k : Nat, k ≤ n ∧ i = .int .i64 k ∧ Filled w wr w.heap.size n k ts) (fun i _ => n - (intOf i).toNat)
  case atStart => exact ⟨0, Nat.zero_le _, rfl, F0⟩
  case round =>
    obtain ⟨k, hk, rfl, F⟩ := hrel
    by_cases hlt : k < n
    · obtain ⟨b, o, t, hao, ht, T0⟩ := H.out.at2 hlt
      subst hao
      have T := T0.below T0.lt F.bel
      have hbw := T0.lt
      have FH : Hid (Filled w wr w.heap.size n k ts) := F
      obtain ⟨c0, c1, c2, c3, c4⟩ := T
      obtain ⟨⟨u0, d0⟩, f0⟩ := F.slot hlt 0 (by omega)
      obtain ⟨⟨u1, d1⟩, f1⟩ := F.slot hlt 1 (by omega)
      obtain ⟨⟨u2, d2⟩, f2⟩ := F.slot hlt 2 (by omega)
      obtain ⟨⟨u3, d3⟩, f3⟩ := F.slot hlt 3 (by omega)
      obtain ⟨⟨u4, d4⟩, f4⟩ := F.slot hlt 4 (by omega)
      have hne : ¬ b = w.heap.size := by omega
      have hne' : ¬ w.heap.size = b := by omega
      clear F T0
      rw [Nat.add_zero] at d0 f0
      have hlt' : (k : Int) < (n : Int) := by omega
      have hk0 : (0 : Int) ≤ (k : Int) := by omega
      go_wp2
      go_region_held3 (fun w' => w'.cell? ⟨b, o + k * 5, none⟩ = some (.bool t.word) ∧ w'.cell? ⟨b, o + k * 5 + 1, none⟩ = some (.string t.text) ∧ w'.cell? ⟨b, o + k * 5 + 2, none⟩ = some (.string t.uesc) ∧ w'.cell? ⟨b, o + k * 5 + 3, none⟩ = some (.int .i64 t.st) ∧ w'.cell? ⟨b, o + k * 5 + 4, none⟩ = some (.int .i64 t.en)) (go_keep) (fail)
      go_wp2
      go_roundw
      case rel => exact ⟨k + 1, by omega, by go_num, filled_step FH.out hlt ht⟩
      case measure => simp [intOf]; omega
    · go_wp2
      go_ret
      exact copied_mk F H.out.1 (by omega)

set_option maxHeartbeats 1000000 in
theorem zzToks_nil (n c : Nat) (w : World) (ts : List Tk) (h : Toks w none n ts) :
    Calls Try.prog 29 #[.slice none n c] w (Copied n w ts) := by
  obtain ⟨hl, h0 | ⟨b, o, ha, hc⟩⟩ := h
  · subst h0
    have hq := fun wx => Lib.run_eql_slice_nil (P := Try.prog) wx 27 50 none 0 c 0 0 Try.underlying27
    go_enter Try.func29, Try.ntmps29
    go_wp2
    go_ret
    exact ⟨_, _, rfl, ⟨hl, Or.inl rfl⟩, Below.refl _ _⟩
  · cases ha

theorem zzToks_any (ao : Option Addr) (n c : Nat) (w : World) (ts : List Tk) (h : Toks w ao n ts) (hm : n ≤ 1048576) :
    Calls Try.prog 29 #[.slice ao n c] w (Copied n w ts) := by
  cases ao with
  | none => exact zzToks_nil n c w ts h
  | some a => exact zzToks_some a n c w ts h hm

end Go.Proofs.Qxb6602215a
