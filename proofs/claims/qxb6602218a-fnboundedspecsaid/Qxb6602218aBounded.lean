import Derived.Test.Qxb6602218aLeaves
namespace Go.Proofs.Qxb6602218a
open Go.RowKit Go.Deep
set_option linter.unusedVariables false

def bOther : ByteArray := ⟨#[111, 116, 104, 101, 114]⟩
def long (s : ByteArray) : Bool := decide (63 < s.size)
def bnd (s : ByteArray) : ByteArray := if long s then bOther else s

/-- What slices.Clone leaves of a slice that is not nil and not empty. -/
def Dup (n : Nat) (ss : List ByteArray) (w : World) (e : Ending) (w' : World) : Prop :=
  ∃ g cap, e = .returned (.slice (some ⟨g, 0, none⟩) n cap) ∧ w.heap.size ≤ g ∧ Rw w' g n cap ss ∧ Below w.heap.size w w'

theorem own_empty {w W : World} (h : w.heap.size ≤ W.heap.size) {g : Nat} (hg : W.heap.size = g) : (W.alloc (.cells #[] 9)).ownsRow w.heap.size 9 1 (.slice (some ⟨g, 0, none⟩) 0 0) 0 [] := by
  subst hg
  exact ⟨by simp, Or.inr ⟨W.heap.size, 0, #[], rfl, h, heap_alloc_new W _, Nat.le_refl _, by simp [maxLen], by simp, by simp⟩⟩

theorem strs_one (ss : List ByteArray) : ∀ u ∈ ss.map Value.string, u.oneCell' = true := by
  intro u hu
  obtain ⟨_, _, rfl⟩ := List.mem_map.1 hu
  rfl

theorem dup_mk {w w1 : World} {v' : Value} {n : Nat} {ss : List ByteArray} (ho : w1.ownsRow w.heap.size 9 1 v' (0 + n) ([] ++ ss.map Value.string)) (hg : (w.alloc (.cells #[] 9)).grownBy w1 (Value.slice (some ⟨w.heap.size, 0, none⟩) 0 0).ownBlock)
    (hnil : v' = .slice none 0 0 ↔ Value.slice (some ⟨w.heap.size, 0, none⟩) 0 0 = .slice none 0 0 ∧ n = 0) (hn : 0 < n) : Dup n ss w (.returned v') w1 := by
  rw [Nat.zero_add, List.nil_append] at ho
  have hb : Below w.heap.size w w1 := ((Below.refl w.heap.size w).alloc (Nat.le_refl _) _).grown hg (by simp) (fun k hk => by simp [Value.ownBlock] at hk; omega)
  have ho' := ho
  rcases ho.2 with ⟨rfl, h0⟩ | ⟨g, cap, cur, rfl, hgg, _⟩
  · omega
  · exact ⟨g, cap, rfl, hgg, rw_of_owns ho', hb⟩

set_option maxRecDepth 100000 in
set_option maxHeartbeats 1000000 in
theorem dup_any (b o n c : Nat) (w : World) (ss : List ByteArray) (hl : ss.length = n) (hc : ∀ i s, ss[i]? = some s → w.cell? ⟨b, o + i, none⟩ = some (.string s)) (hn : 0 < n) (hm : n ≤ 1048576) :
    Calls Try.prog 11 #[.slice (some ⟨b, o, none⟩) n c] w (Dup n ss w) := by
  have HC : Hid (∀ i s, ss[i]? = some s → w.cell? ⟨b, o + i, none⟩ = some (.string s)) := hc
  have HL : Hid (ss.length = n) := hl
  clear hc hl
  obtain ⟨i0, hi, hz0, hz1, hz2⟩ := info_parts Try.info9
  have hq := fun wx => Lib.run_eql_slice_nil (P := Try.prog) wx 22 9 (some ⟨b, o, none⟩) n c 0 0 Try.underlying22
  have hnews : ∀ j u, (ss.map Value.string)[j]? = some u → (w.alloc (.cells #[] 9)).cell? ((⟨b, o, none⟩ : Addr).add j) = some u := by
    intro j u hu
    rw [Addr.add_lit]
    rw [List.getElem?_map] at hu
    obtain ⟨s, hs, rfl⟩ := Option.map_eq_some_iff.1 hu
    have := HC.out j s hs
    rw [World.cell?_alloc_lt _ _ _ (World.block_lt_of_cell? w _ this)]
    exact this
  have HN : Hid (∀ j u, (ss.map Value.string)[j]? = some u → (w.alloc (.cells #[] 9)).cell? ((⟨b, o, none⟩ : Addr).add j) = some u) := hnews
  clear hnews
  go_enter Try.func11, Try.ntmps11
  go_wp2_with (at_builtin; refine wpList_append_own _ rfl (.tmp 5) (.tmp 6) 22 rfl w.heap.size 9 i0 _ 1 16 Try.underlying22 hi hz0 hz1 hz2 rfl (by decide) _ 0 [] rfl (own_empty (w := w) (Nat.le_refl _) rfl) ⟨b, o, none⟩ n c (ss.map Value.string) rfl (by have := HL.out; simp; omega) HN.out (strs_one ss) (by unfold maxLen; omega) (by omega) (by simp) ?_; intro v' w1 hown' hgrow hnil)
  go_ret
  exact dup_mk hown' hgrow hnil hn

/-! ### bounded -/
def mix (ss : List ByteArray) (k : Nat) : List ByteArray := (ss.take k).map bnd ++ ss.drop k
theorem mix_get (ss : List ByteArray) (k i : Nat) : (mix ss k)[i]? = (ss[i]?).map (fun s => if i < k then bnd s else s) := by
  unfold mix
  by_cases hi : i < k
  · by_cases hil : i < ss.length
    · rw [List.getElem?_append_left (by simp; omega)]
      simp [hi]
    · rw [List.getElem?_append_right (by simp; omega)]
      simp [List.getElem?_eq_none (show ss.length ≤ i by omega)]
      omega
  · by_cases hk : k ≤ ss.length
    · rw [List.getElem?_append_right (by simp; omega)]
      simp only [List.length_map, List.length_take, List.getElem?_drop, hi, if_false]
      rw [show k + (i - min k ss.length) = i by omega]
      simp
    · rw [List.getElem?_append_right (by simp; omega)]
      simp [List.getElem?_eq_none (show ss.length ≤ i by omega)]
      omega
theorem mix_zero (ss : List ByteArray) : mix ss 0 = ss := by simp [mix]
theorem mix_short {ss : List ByteArray} {k : Nat} (h : ∀ i s, i < k → ss[i]? = some s → long s = false) : mix ss k = ss := by
  apply List.ext_getElem?
  intro i
  rw [mix_get]
  cases hs : ss[i]? with
  | none => rfl
  | some s =>
    by_cases hi : i < k
    · simp [hi, bnd, h i s hi hs]
    · simp [hi]
theorem mix_next_short {ss : List ByteArray} {k : Nat} {s : ByteArray} (hs : Hid (ss[k]? = some s)) (h : long s = false) : mix ss (k + 1) = mix ss k := by
  apply List.ext_getElem?
  intro i
  rw [mix_get, mix_get]
  cases hi : ss[i]? with
  | none => rfl
  | some u =>
    by_cases e : i = k
    · subst e
      have : u = s := Option.some.inj (hi.symm.trans hs.out)
      subst this
      simp [bnd, h]
    · simp only [Option.map_some]
      by_cases hik : i < k
      · rw [if_pos (by omega), if_pos hik]
      · rw [if_neg (by omega), if_neg hik]
theorem mix_next_long {ss : List ByteArray} {k : Nat} {s : ByteArray} (hs : Hid (ss[k]? = some s)) (h : long s = true) : mix ss (k + 1) = (mix ss k).set k bOther := by
  apply List.ext_getElem?
  intro i
  have hk := (List.getElem?_eq_some_iff.1 hs.out).1
  rw [mix_get]
  by_cases e : i = k
  · subst e
    rw [List.getElem?_set_self (by simp [mix]; omega), hs.out]
    simp [bnd, h]
  · rw [List.getElem?_set_ne (by omega), mix_get]
    cases hi : ss[i]? with
    | none => rfl
    | some u =>
      simp only [Option.map_some]
      by_cases hik : i < k
      · rw [if_pos (by omega), if_pos hik]
      · rw [if_neg (by omega), if_neg hik]
theorem mix_all (ss : List ByteArray) : mix ss ss.length = ss.map bnd := by simp [mix]

/-- What holds of 'out' when k values have been looked at. -/
def BRel (w : World) (n : Nat) (ss : List ByteArray) (k : Nat) (v : Value) (wr : World) : Prop :=
  (v = .slice none 0 0 ∧ (∀ (i : Nat) (s : ByteArray), i < k → ss[i]? = some s → long s = false) ∧ wr = w) ∨
  (∃ g cap, v = .slice (some ⟨g, 0, none⟩) n cap ∧ w.heap.size ≤ g ∧ (∃ (i : Nat) (s : ByteArray), ss[i]? = some s ∧ long s = true) ∧ Rw wr g n cap (mix ss k) ∧ Below w.heap.size w wr)

/-- What bounded answers. -/
def BPost (w : World) (v0 : Value) (n : Nat) (ss : List ByteArray) (e : Ending) (w' : World) : Prop :=
  ((∀ (i : Nat) (s : ByteArray), ss[i]? = some s → long s = false) ∧ e = .returned v0 ∧ w' = w) ∨
  ((∃ (i : Nat) (s : ByteArray), ss[i]? = some s ∧ long s = true) ∧ ∃ g cap, e = .returned (.slice (some ⟨g, 0, none⟩) n cap) ∧ w.heap.size ≤ g ∧ Rw w' g n cap (ss.map bnd) ∧ Below w.heap.size w w')

set_option maxRecDepth 100000 in
set_option maxHeartbeats 2000000 in
theorem bounded_any (ao : Option Addr) (n c : Nat) (w : World) (ss : List ByteArray) (h : StrS w ao n ss) (hm : n ≤ 1048576) :
    Calls Try.prog 10 #[.slice ao n c] w (BPost w (.slice ao n c) n ss) := by
  have H : Hid (StrS w ao n ss) := h
  clear h
  have hq0 := fun wx => Lib.run_eql_slice_nil (P := Try.prog) wx 22 9 none 0 0 0 0 Try.underlying22
  go_enter Try.func10, Try.ntmps10
  go_wp2
  go_loopw [3, 8] (fun v i wr => ∃ k : Nat, k ≤ n ∧ i = .int .i64 k ∧ BRel w n ss k v wr) (fun _ i _ => n - (intOf i).toNat)
  case atStart => exact ⟨0, Nat.zero_le _, rfl, Or.inl ⟨rfl, fun i s hi => by omega, rfl⟩⟩
  case round =>
    obtain ⟨k, hk, rfl, B⟩ := hrel
    by_cases hlt : k < n
    · have Hl := H.out.1
      have bel : Below w.heap.size w wr := by
        rcases B with ⟨_, _, rfl⟩ | ⟨_, _, _, _, _, _, b⟩
        · exact Below.refl _ _
        · exact b
      obtain ⟨b, o, s, hao, hs, c0⟩ := (H.out.below bel).at hlt
      subst hao
      by_cases hlong : 63 < s.size
      · have hl : Hid (long s = true) := by show long s = true; simp [long, hlong]
        rcases B with ⟨rfl, hsh, rfl⟩ | ⟨g, cap, rfl, hg, hex, R, bel2⟩
        · have HSH : Hid (∀ (i : Nat) (s : ByteArray), i < k → ss[i]? = some s → long s = false) := hsh
          have HCc : Hid (∀ i s, ss[i]? = some s → wr.cell? ⟨b, o + i, none⟩ = some (.string s)) := fun i s hs => by
            obtain ⟨_, h0 | ⟨b', o', ha, hc⟩⟩ := H.out
            · omega
            · simp only [Option.some.injEq, Addr.mk.injEq, and_true] at ha
              obtain ⟨rfl, rfl⟩ := ha
              exact hc i s hs
          clear hsh bel
          go_wp2_with fail
          refine (dup_any b o n c wr ss Hl HCc.out (by omega) hm).mono ?_
          rintro e w1 ⟨g, cap, rfl, hg, R, bel⟩
          have d0 := R.cell hs.out
          have f0 := R.frozen k
          have hbg : ¬ b = g := by have := World.block_lt_of_cell? wr _ c0; simp at this; omega
          have RH : Hid (Rw w1 g n cap ss) := R
          clear R
          go_wp2
          go_roundw
          case rel =>
            refine ⟨k + 1, by omega, by go_num, Or.inr ⟨g, cap, rfl, hg, ⟨k, s, hs.out, hl.out⟩, ?_, bel.setCell hg _⟩⟩
            rw [mix_next_long hs hl.out, mix_short HSH.out]
            exact RH.out.store k bOther
          case measure => simp [intOf]; omega
        · have hq := fun wx => Lib.run_eql_slice_nil (P := Try.prog) wx 22 9 (some ⟨g, 0, none⟩) n cap 0 0 Try.underlying22
          have hms : (mix ss k)[k]? = some s := by rw [mix_get, hs.out]; simp
          have d0 := R.cell hms
          have f0 := R.frozen k
          have RH : Hid (Rw wr g n cap (mix ss k)) := R
          clear R hms
          go_wp2
          go_roundw
          case rel =>
            refine ⟨k + 1, by omega, by go_num, Or.inr ⟨g, cap, rfl, hg, hex, ?_, bel2.setCell hg _⟩⟩
            rw [mix_next_long hs hl.out]
            exact RH.out.store k bOther
          case measure => simp [intOf]; omega
      · have hl : Hid (long s = false) := by show long s = false; simp [long]; omega
        have BH : Hid (BRel w n ss k _ wr) := B
        clear B
        go_wp2
        go_roundw
        case rel =>
          refine ⟨k + 1, by omega, by go_num, ?_⟩
          rcases BH.out with ⟨rfl, hsh, rfl⟩ | ⟨g, cap, rfl, hg, hex, R, bel2⟩
          · refine Or.inl ⟨rfl, fun i u hi hu => ?_, rfl⟩
            by_cases e : i = k
            · subst e
              have : u = s := Option.some.inj (hu.symm.trans hs.out)
              subst this
              exact hl.out
            · exact hsh i u (by omega) hu
          · exact Or.inr ⟨g, cap, rfl, hg, hex, by rw [mix_next_short hs hl.out]; exact R, bel2⟩
        case measure => simp [intOf]; omega
    · have hkn : k = ss.length := by have := H.out.1; omega
      rcases B with ⟨rfl, hsh, rfl⟩ | ⟨g, cap, rfl, hg, hex, R, bel2⟩
      · have HSH : Hid (∀ (i : Nat) (s : ByteArray), i < k → ss[i]? = some s → long s = false) := hsh
        have HK : Hid (k = ss.length) := hkn
        clear hsh hkn
        go_wp2
        go_ret
        exact Or.inl ⟨fun i s hs => HSH.out i s (by have := (List.getElem?_eq_some_iff.1 hs).1; have := HK.out; omega) hs, rfl, rfl⟩
      · have hq := fun wx => Lib.run_eql_slice_nil (P := Try.prog) wx 22 9 (some ⟨g, 0, none⟩) n cap 0 0 Try.underlying22
        subst hkn
        rw [mix_all] at R
        have HR : Hid (Rw wr g n cap (ss.map bnd)) := R
        clear R
        go_wp2
        go_ret
        exact Or.inr ⟨hex, g, cap, rfl, hg, HR.out, bel2⟩
end Go.Proofs.Qxb6602218a
