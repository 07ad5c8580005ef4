import Derived.Test.Qxb6602218aDoorRowsOf
namespace Go.Proofs.Qxb6602218aDoor
open Go.RowKit Go.Deep
set_option linter.unusedVariables false


/-- The bytes of a list of strings. -/
def tot (ss : List ByteArray) : Nat := (ss.map ByteArray.size).sum
theorem tot_snoc (l : List ByteArray) (s : ByteArray) : tot (l ++ [s]) = tot l + s.size := by simp [tot]
theorem tot_take {ss : List ByteArray} {k : Nat} {s : ByteArray} (h : Hid (ss[k]? = some s)) : tot (ss.take (k + 1)) = tot (ss.take k) + s.size := by
  have hk := (List.getElem?_eq_some_iff.1 h.out).1
  have e : ss[k] = s := (List.getElem?_eq_some_iff.1 h.out).2
  rw [List.take_succ_eq_append_getElem hk, tot_snoc, e]
theorem tot_full {ss : List ByteArray} {k : Nat} (h : ss.length ≤ k) : tot (ss.take k) = tot ss := by rw [List.take_of_length_le h]

/-- What a guard answers. -/
def Guarded (n m : Nat) (w : World) (e : Ending) (w' : World) : Prop := ∃ b, e = .returned (.bool b) ∧ (b = true → n ≤ m) ∧ w' = w
theorem guarded_mk {n m : Nat} {w : World} {b : Bool} (h : b = true → n ≤ m) : Guarded n m w (.returned (.bool b)) w := ⟨b, rfl, h, rfl⟩
theorem guarded_no {n m : Nat} (w : World) : Guarded n m w (.returned (.bool false)) w := ⟨false, rfl, by simp, rfl⟩

set_option maxHeartbeats 1000000 in
theorem zz6_any (ao : Option Addr) (n c : Nat) (w : World) (ss : List ByteArray) (h : StrS w ao n ss) (hm : n ≤ maxLen) :
    Calls Tryd.prog 6 #[.slice ao n c] w (Guarded (n + tot ss) 1048576 w) := by
  unfold maxLen at hm
  by_cases hbig : n ≤ 1048576
  · clear hm
    have H : Hid (StrS w ao n ss) := h
    clear h
    go_enter Tryd.func6, Tryd.ntmps6
    go_wp2
    go_loop [3, 4] (fun z i => ∃ (k q : Nat), k ≤ n ∧ i = .int .i64 k ∧ z = .int .i64 q ∧ q ≤ 1048576 ∧ Hid (q = n + tot (ss.take k))) (fun _ i => n - (intOf i).toNat)
    case atStart => exact ⟨0, n, Nat.zero_le _, rfl, rfl, hbig, by show n = n + tot (ss.take 0); simp [tot]⟩
    case round =>
      obtain ⟨k, q, hk, rfl, rfl, hq, HQ⟩ := hrel
      by_cases hlt : k < n
      · obtain ⟨b, o, s, hao, hs, c0⟩ := H.out.at hlt
        subst hao
        have HT := tot_take hs
        have HT' : Hid (tot (ss.take (k + 1)) = tot (ss.take k) + s.size) := HT
        clear HT
        by_cases g1 : s.size ≤ 1048576
        · by_cases g2 : q + s.size ≤ 1048576
          · go_wp2
            go_round
            case rel => exact ⟨k + 1, q + s.size, by omega, by go_num, by go_num, g2, by show _ = _; rw [HT'.out]; have := HQ.out; omega⟩
            case measure => simp [intOf]; omega
          · go_wp2
            go_ret
            exact guarded_no _
        · go_wp2
          go_ret
          exact guarded_no _
      · have hh : n + tot ss ≤ 1048576 := by have := HQ.out; have := H.out.1; rw [tot_full (by omega)] at *; omega
        have HH : Hid (n + tot ss ≤ 1048576) := hh
        clear hh
        go_wp2
        go_ret
        exact guarded_mk (fun _ => HH.out)
  · clear h
    go_enter Tryd.func6, Tryd.ntmps6
    go_wp2
    go_ret
    exact guarded_no _

/-- bytesOf answers some number and turns nothing. -/
def SomeInt (w : World) (e : Ending) (w' : World) : Prop := ∃ z : Int, e = .returned (.int .i64 z) ∧ w' = w
set_option maxHeartbeats 1000000 in
theorem bytesOf_any (ao : Option Addr) (n c : Nat) (w : World) (ss : List ByteArray) (h : StrS w ao n ss) (hm : n ≤ 1048576) :
    Calls Tryd.prog 7 #[.slice ao n c] w (SomeInt w) := by
  have H : Hid (StrS w ao n ss) := h
  clear h
  go_enter Tryd.func7, Tryd.ntmps7
  go_wp2
  go_loop [3, 4] (fun z i => (∃ q : Int, z = .int .i64 q) ∧ ∃ k : Nat, k ≤ n ∧ i = .int .i64 k) (fun _ i => n - (intOf i).toNat)
  case atStart => exact ⟨⟨_, rfl⟩, 0, Nat.zero_le _, rfl⟩
  case round =>
    obtain ⟨⟨q, rfl⟩, k, hk, rfl⟩ := hrel
    by_cases hlt : k < n
    · obtain ⟨b, o, s, hao, hs, c0⟩ := H.out.at hlt
      subst hao
      go_wp2
      all_goals first
        | (go_ret; exact ⟨_, rfl, rfl⟩)
        | (go_round
           case rel => exact ⟨⟨_, rfl⟩, k + 1, by omega, by go_num⟩
           case measure => simp [intOf]; omega)
    · go_wp2
      go_ret
      exact ⟨_, rfl, rfl⟩

/-- What cloneStrings leaves. -/
def Cloned (a : Option Addr) (n : Nat) (ss : List ByteArray) (w : World) (e : Ending) (w' : World) : Prop :=
  (a = none ∧ n = 0 ∧ e = .returned (.slice none 0 0) ∧ w' = w) ∨ (∃ x, a = some x) ∧ ∃ g, e = .returned (.slice (some ⟨g, 0, none⟩) n n) ∧ w.heap.size ≤ g ∧ Rw w' g n n ss ∧ Below w.heap.size w w'

/-- A made row, k strings of it filled. -/
structure Fil (w wr : World) (g n k : Nat) (ss : List ByteArray) : Prop where
  bel : Below w.heap.size w wr
  glt : w.heap.size ≤ g
  own : ∃ xs : List ByteArray, Rw wr g n n xs ∧ ∀ i, i < k → xs[i]? = ss[i]?
theorem fil_start {w w1 : World} {n : Nat} {ss : List ByteArray} (hown : w1.ownsRow w.heap.size 9 1 (.slice (some ⟨w.heap.size, 0, none⟩) n n) n (madeCells #[Value.string ByteArray.empty] n).toList) (hg : w.grownBy w1 none) : Fil w w1 w.heap.size n 0 ss := by
  refine ⟨(Below.refl _ _).grown hg (Nat.le_refl _) (by simp), Nat.le_refl _, List.replicate n ByteArray.empty, rw_of_owns (base := w.heap.size) ?_, fun i hi => by omega⟩
  rw [toList_madeCells_one] at hown
  simpa using hown
theorem fil_step {w wr : World} {g n k : Nat} {ss : List ByteArray} {s : ByteArray} (F : Fil w wr g n k ss) (hk : k < n) (hs : Hid (ss[k]? = some s)) : Fil w (wr.setCell ⟨g, k, none⟩ (.string s)) g n (k + 1) ss := by
  obtain ⟨xs, R, hx⟩ := F.own
  have hl := R.len
  refine ⟨F.bel.setCell F.glt _, F.glt, xs.set k s, R.store k s, fun i hi => ?_⟩
  by_cases hik : i = k
  · subst hik
    rw [hs.out, List.getElem?_set_self (by omega)]
  · rw [List.getElem?_set_ne (by omega)]
    exact hx i (by omega)
theorem fil_end {w wr : World} {g n k : Nat} {ss : List ByteArray} (F : Fil w wr g n k ss) (hl : ss.length = n) (hk : n ≤ k) : Rw wr g n n ss := by
  obtain ⟨xs, R, hx⟩ := F.own
  have hxl := R.len
  have e : xs = ss := List.ext_getElem? fun i => by
    by_cases hi : i < n
    · exact hx i (by omega)
    · rw [List.getElem?_eq_none (by omega), List.getElem?_eq_none (by omega)]
  rw [← e]; exact R
theorem Fil.slot {w wr : World} {g n k : Nat} {ss : List ByteArray} (F : Fil w wr g n k ss) (hk : k < n) : (∃ u, wr.cell? ⟨g, k, none⟩ = some u) ∧ wr.frozen? ⟨g, k, none⟩ = false := by
  obtain ⟨xs, R, _⟩ := F.own
  have hl := R.len
  exact ⟨⟨_, R.cell (List.getElem?_eq_getElem (by omega))⟩, R.frozen k⟩

set_option maxHeartbeats 1000000 in
theorem clone_some (a : Addr) (n c : Nat) (w : World) (ss : List ByteArray) (h : StrS w (some a) n ss) (hm : n ≤ 1048576) :
    Calls Tryd.prog 8 #[.slice (some a) n c] w (Cloned (some a) n ss w) := by
  have H : Hid (StrS w (some a) n ss) := h
  clear h
  obtain ⟨i0, hi, hz0, hz1, hz2⟩ := info_parts Tryd.info9
  have hbytes : i0.bytes * n ≤ 281474976710656 := by rw [hz2]; omega
  have hq := fun wx => Lib.run_eql_slice_nil (P := Tryd.prog) wx 22 9 (some a) n c 0 0 Tryd.underlying22
  go_enter Tryd.func8, Tryd.ntmps8
  go_wp2_with (at_make; refine wpList_make_full _ rfl _ _ 22 rfl w.heap.size 9 i0 _ 1 Tryd.underlying22 hi hz0 hz1 _ _ _ _ n rfl rfl rfl rfl hbytes (by unfold maxLen; omega) (Nat.le_refl _) ?_)
  intro w1 hown hgrow
  have F0 : Fil w w1 w.heap.size n 0 ss := fil_start hown hgrow
  clear hown hgrow hq hi hz0 hz1 hz2 hbytes
  go_wp2
  go_loopw [4] (fun i wr => ∃ k : Nat, k ≤ n ∧ i = .int .i64 k ∧ Fil w wr w.heap.size n k ss) (fun i _ => n - (intOf i).toNat)
  case atStart => exact ⟨0, Nat.zero_le _, rfl, F0⟩
  case round =>
    obtain ⟨k, hk, rfl, F⟩ := hrel
    by_cases hlt : k < n
    · obtain ⟨b, o, s, hao, hs, c0⟩ := (H.out.below F.bel).at hlt
      simp only [Option.some.injEq] at hao
      subst hao
      obtain ⟨⟨u, d0⟩, f0⟩ := F.slot hlt
      have FH : Hid (Fil w wr w.heap.size n k ss) := F
      clear F
      go_wp2
      go_roundw
      case rel => exact ⟨k + 1, by omega, by go_num, fil_step FH.out hlt hs⟩
      case measure => simp [intOf]; omega
    · go_wp2
      go_ret
      exact Or.inr ⟨⟨a, rfl⟩, w.heap.size, rfl, F.glt, fil_end F H.out.1 (by omega), F.bel⟩

set_option maxHeartbeats 1000000 in
theorem clone_nil (n c : Nat) (w : World) (ss : List ByteArray) (h : StrS w none n ss) :
    Calls Tryd.prog 8 #[.slice none n c] w (Cloned none n ss w) := by
  obtain ⟨hl, h0 | ⟨b, o, ha, hc⟩⟩ := h
  · subst h0
    have hq := fun wx => Lib.run_eql_slice_nil (P := Tryd.prog) wx 22 9 none 0 c 0 0 Tryd.underlying22
    go_enter Tryd.func8, Tryd.ntmps8
    go_wp2
    go_ret
    exact Or.inl ⟨rfl, rfl, rfl, rfl⟩
  · cases ha
theorem clone_any (ao : Option Addr) (n c : Nat) (w : World) (ss : List ByteArray) (h : StrS w ao n ss) (hm : n ≤ 1048576) :
    Calls Tryd.prog 8 #[.slice ao n c] w (Cloned ao n ss w) := by
  cases ao with
  | none => exact clone_nil n c w ss h
  | some a => exact clone_some a n c w ss h hm

set_option maxRecDepth 100000 in
set_option maxHeartbeats 2000000 in
theorem zz11_any (a1 a2 : Option Addr) (n1 c1 n2 c2 : Nat) (w : World) (s1 s2 : List ByteArray) (h1 : StrS w a1 n1 s1) (h2 : StrS w a2 n2 s2) (hm1 : n1 ≤ maxLen) (hm2 : n2 ≤ maxLen) :
    Calls Tryd.prog 11 #[.slice a1 n1 c1, .slice a2 n2 c2] w (Guarded ((n1 + tot s1) + (n2 + tot s2)) 1048576 w) := by
  unfold maxLen at hm1 hm2
  by_cases hbig : n1 ≤ 1048576
  case neg =>
    clear h1 h2
    go_enter Tryd.func11, Tryd.ntmps11
    go_wp2
    go_ret
    exact guarded_no _
  have H1 : Hid (StrS w a1 n1 s1) := h1
  have H2 : Hid (StrS w a2 n2 s2) := h2
  clear h1 h2 hm1
  go_enter Tryd.func11, Tryd.ntmps11
  go_wp2
  go_loop [5, 6] (fun z i => ∃ (k q : Nat), k ≤ n1 ∧ i = .int .i64 k ∧ z = .int .i64 q ∧ q ≤ 1048576 ∧ Hid (q = n1 + tot (s1.take k))) (fun _ i => n1 - (intOf i).toNat)
  case atStart => exact ⟨0, n1, Nat.zero_le _, rfl, rfl, hbig, by show n1 = n1 + tot (s1.take 0); simp [tot]⟩
  case round =>
    obtain ⟨k, q, hk, rfl, rfl, hq, HQ⟩ := hrel
    by_cases hlt : k < n1
    · obtain ⟨b, o, s, hao, hs, c0⟩ := H1.out.at hlt
      subst hao
      have HT := tot_take hs
      have HT' : Hid (tot (s1.take (k + 1)) = tot (s1.take k) + s.size) := HT
      clear HT
      by_cases g1 : s.size ≤ 1048576
      · by_cases g2 : q + s.size ≤ 1048576
        · go_wp2
          go_round
          case rel => exact ⟨k + 1, q + s.size, by omega, by go_num, by go_num, g2, by show _ = _; rw [HT'.out]; have := HQ.out; omega⟩
          case measure => simp [intOf]; omega
        · go_wp2
          go_ret
          exact guarded_no _
      · go_wp2
        go_ret
        exact guarded_no _
    · have hh : q = n1 + tot s1 := by have h3 := HQ.out; have := H1.out.1; rw [tot_full (by omega)] at h3; exact h3
      have HH : Hid (q = n1 + tot s1) := hh
      clear hh HQ
      by_cases hbig2 : n2 ≤ 1048576
      case neg =>
        go_wp2_with fail
        go_ret
        exact guarded_no _
      by_cases hq2 : q + n2 ≤ 1048576
      case neg =>
        go_wp2_with fail
        go_ret
        exact guarded_no _
      go_wp2_with fail
      go_loop [5, 7] (fun z i => ∃ (k p : Nat), k ≤ n2 ∧ i = .int .i64 k ∧ z = .int .i64 p ∧ p ≤ 1048576 ∧ Hid (p = q + n2 + tot (s2.take k))) (fun _ i => n2 - (intOf i).toNat)
      case atStart => exact ⟨0, q + n2, Nat.zero_le _, rfl, by go_num, hq2, by show q + n2 = q + n2 + tot (s2.take 0); simp [tot]⟩
      case round =>
        obtain ⟨k2, p, hk2, rfl, rfl, hp, HP⟩ := hrel
        by_cases hlt2 : k2 < n2
        · obtain ⟨b, o, s, hao, hs, c0⟩ := H2.out.at hlt2
          subst hao
          have HT := tot_take hs
          have HT' : Hid (tot (s2.take (k2 + 1)) = tot (s2.take k2) + s.size) := HT
          clear HT
          by_cases g1 : s.size ≤ 1048576
          · by_cases g2 : p + s.size ≤ 1048576
            · go_wp2
              go_round
              case rel => exact ⟨k2 + 1, p + s.size, by omega, by go_num, by go_num, g2, by show _ = _; rw [HT'.out]; have := HP.out; omega⟩
              case measure => simp [intOf]; omega
            · go_wp2
              go_ret
              exact guarded_no _
          · go_wp2
            go_ret
            exact guarded_no _
        · have hh : (n1 + tot s1) + (n2 + tot s2) ≤ 1048576 := by have h3 := HP.out; have := H2.out.1; rw [tot_full (by omega)] at h3; have := HH.out; omega
          have HH2 : Hid ((n1 + tot s1) + (n2 + tot s2) ≤ 1048576) := hh
          clear hh
          go_wp2
          go_ret
          exact guarded_mk (fun _ => HH2.out)
end Go.Proofs.Qxb6602218aDoor
