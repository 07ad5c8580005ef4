import Derived.Test.Qxb6602215aStrs
import Derived.Test.Qxb6602215aCopies
namespace Go.Proofs.Qxb6602215a
open Go.RowKit Go.Deep
set_option linter.unusedVariables false
theorem Try.info35 : (Try.prog.info? 35).map (fun i => (i.zero, i.size, i.bytes)) = some (some (.agg #[.bool false, .string ByteArray.empty, .string ByteArray.empty, .int .i64 0, .int .i64 0]), 5, 56) := by kernel_rfl

/-- A word; a sign. -/
def wt (s : ByteArray) : Tk := ⟨true, s, ⟨#[]⟩, 0, 0⟩
def pt (s : ByteArray) : Tk := ⟨false, s, ⟨#[]⟩, 0, 0⟩
def tkRow (ts : List Tk) : List Value := ts.flatMap Tk.cells
theorem tkRow_append (a b : List Tk) : tkRow (a ++ b) = tkRow a ++ tkRow b := by simp [tkRow]
theorem tkRow_length (ts : List Tk) : (tkRow ts).length = ts.length * 5 := by
  induction ts with
  | nil => rfl
  | cons a l ih => simp [tkRow, Tk.cells] at ih ⊢; omega
theorem tkRow_one (ts : List Tk) : ∀ u ∈ tkRow ts, u.oneCell' = true := by
  intro u hu
  obtain ⟨t, _, ht⟩ := List.mem_flatMap.1 hu
  simp [Tk.cells] at ht
  rcases ht with rfl | rfl | rfl | rfl | rfl <;> rfl
theorem tkRow_get (ts : List Tk) (i : Nat) (t : Tk) (h : ts[i]? = some t) : ∀ j v, t.cells[j]? = some v → (tkRow ts)[i * 5 + j]? = some v := by
  induction ts generalizing i with
  | nil => simp at h
  | cons a l ih =>
    intro j v hv
    have hj : j < 5 := (List.getElem?_eq_some_iff.1 hv).1
    cases i with
    | zero =>
      simp at h; subst h
      show (a.cells ++ tkRow l)[0 * 5 + j]? = some v
      rw [Nat.zero_mul, Nat.zero_add, List.getElem?_append_left (by exact hj)]
      exact hv
    | succ i =>
      have := ih i (by simpa using h) j v hv
      show (a.cells ++ tkRow l)[(i + 1) * 5 + j]? = some v
      rw [List.getElem?_append_right (by show a.cells.length ≤ _; simp [Tk.cells]; omega), show (i + 1) * 5 + j - a.cells.length = i * 5 + j by simp [Tk.cells]; omega]
      exact this

/-- A slice of tokens that the call builds by append. -/
structure TkW (w wr : World) (v : Value) (ts : List Tk) : Prop where
  own : wr.ownsRow w.heap.size 35 5 v ts.length (tkRow ts)
  bel : Below w.heap.size w wr

theorem tkW_start {w wr : World} (h : Below w.heap.size w wr) : TkW w wr (.slice none 0 0) [] := ⟨World.ownsRow_nil _ _ _ _, h⟩
theorem TkW.alloc {w wr : World} {v : Value} {ts : List Tk} (S : TkW w wr v ts) (o : Obj) : TkW w (wr.alloc o) v ts :=
  ⟨S.own.alloc o, S.bel.alloc S.bel.size o⟩
theorem TkW.push {w W w1 : World} {v v' : Value} {ts new : List Tk} {m : Nat} (S : TkW w W v ts) (hm : new.length = m)
    (ho : w1.ownsRow w.heap.size 35 5 v' (ts.length + m) (tkRow ts ++ tkRow new)) (hg : W.grownBy w1 v.ownBlock) : TkW w w1 v' (ts ++ new) := by
  subst hm
  refine ⟨?_, S.bel.grown hg S.bel.size (fun g h => (S.own.lt g h).1)⟩
  rw [tkRow_append, List.length_append]
  exact ho
theorem many_new {W : World} {cs : Array Value} {t : TypeId} {g : Nat} {news : List Value} (hg : W.heap.size = g) (hc : cs.toList = news) : ∀ (j : Nat) (u : Value), news[j]? = some u → (W.alloc (.cells cs t)).cell? ((⟨g, 0, none⟩ : Addr).add j) = some u := by
  subst hg hc
  exact World.news_of_block (heap_alloc_new W _)

theorem TkW.sl {w w' : World} {v : Value} {ts : List Tk} (S : TkW w w' v ts) : ∃ ao c, v = .slice ao ts.length c ∧ Toks w' ao ts.length ts := by
  obtain ⟨⟨hl, ho⟩, hb⟩ := S
  rcases ho with ⟨rfl, hz⟩ | ⟨g, cap, cur, rfl, hg, hh, hle, _, hs, htk⟩
  · exact ⟨none, 0, by rw [hz], rfl, Or.inl hz⟩
  · refine ⟨some ⟨g, 0, none⟩, cap, rfl, rfl, Or.inr ⟨g, 0, rfl, fun i t ht => tkAt_of_range fun j v hv => ?_⟩⟩
    have hi := (List.getElem?_eq_some_iff.1 ht).1
    have hj : j < 5 := (List.getElem?_eq_some_iff.1 hv).1
    have g0 := tkRow_get ts i t ht j v hv
    rw [← htk, List.getElem?_take, if_pos (by omega)] at g0
    rw [Nat.zero_add, cell_of_row w' g _ cur 35 (0, 0) hh]
    simpa using g0

/-- Two rows of different element types lie in different blocks. -/
theorem other_block {w : World} {base base' : Nat} {e e' : TypeId} {size size' n n' : Nat} {v v' : Value} {xs xs' : List Value} (h : w.ownsRow base e size v n xs) (h' : w.ownsRow base' e' size' v' n' xs') (hne : e ≠ e') :
    v.ownBlock = none ∨ v.ownBlock ≠ v'.ownBlock := by
  rcases h.2 with ⟨rfl, _⟩ | ⟨g, cap, cur, rfl, _, hh, _⟩
  · exact Or.inl rfl
  · right
    rcases h'.2 with ⟨rfl, _⟩ | ⟨g', cap', cur', rfl, _, hh', _⟩
    · simp [Value.ownBlock]
    · intro eq
      simp [Value.ownBlock] at eq
      subst eq
      rw [hh] at hh'
      simp at hh'
      exact hne hh'.2

/-- A string row stays while the token row is appended to. -/
theorem StrW.kept {w W w1 : World} {v vt : Value} {ss : List ByteArray} {ts : List Tk} (S : StrW w W v ss) (T : TkW w W vt ts) (hg : W.grownBy w1 vt.ownBlock) : StrW w w1 v ss :=
  ⟨S.own.kept hg (other_block S.own T.own (by decide)), S.bel.grown hg S.bel.size (fun g h => (T.own.lt g h).1), S.nil⟩
theorem TkW.kept {w W w1 : World} {v vt : Value} {ss : List ByteArray} {ts : List Tk} (T : TkW w W vt ts) (S : StrW w W v ss) (hg : W.grownBy w1 v.ownBlock) : TkW w w1 vt ts :=
  ⟨T.own.kept hg (other_block T.own S.own (by decide)), T.bel.grown hg T.bel.size (fun g h => (S.own.lt g h).1)⟩

def tkObj (t : Tk) : Obj := .cells #[.bool t.word, .string t.text, .string t.uesc, .int .i64 t.st, .int .i64 t.en] 35
def tkVal (t : Tk) : Value := .agg #[.bool t.word, .string t.text, .string t.uesc, .int .i64 t.st, .int .i64 t.en]

set_option maxHeartbeats 400000 in
theorem wordTok_any (s : ByteArray) (w : World) :
    Calls Try.prog 17 #[.string s] w fun e w' => e = .returned (.agg #[.bool true, .string s, .string ⟨#[]⟩, .int .i64 0, .int .i64 0]) ∧ w' = w.alloc (.cells #[.bool true, .string s, .string ⟨#[]⟩, .int .i64 0, .int .i64 0] 35) := by
  go_enter Try.func17, Try.ntmps17
  go_wp2
  exact bodyPost_ret (v := .agg #[.bool true, .string s, .string ⟨#[]⟩, .int .i64 0, .int .i64 0]) (by simp [results, Try.results17, go_sem]) rfl ⟨rfl, rfl⟩

set_option maxHeartbeats 400000 in
theorem punctTok_any (s : ByteArray) (w : World) :
    Calls Try.prog 18 #[.string s] w fun e w' => e = .returned (.agg #[.bool false, .string s, .string ⟨#[]⟩, .int .i64 0, .int .i64 0]) ∧ w' = w.alloc (.cells #[.bool false, .string s, .string ⟨#[]⟩, .int .i64 0, .int .i64 0] 35) := by
  go_enter Try.func18, Try.ntmps18
  go_wp2
  exact bodyPost_ret (v := .agg #[.bool false, .string s, .string ⟨#[]⟩, .int .i64 0, .int .i64 0]) (by simp [results, Try.results18, go_sem]) rfl ⟨rfl, rfl⟩
end Go.Proofs.Qxb6602215a
