import Derived.Test.Qxb6602215aProg
import Derived.Test.Qxb6602215aToks
import Derived.OpenShut
namespace Go.Proofs.Qxb6602215a
open Go.RowKit Go.Deep
set_option linter.unusedVariables false

theorem fields35 : ∃ f0 f1 f2 f3 f4 : Field, Try.prog.underlying 35 = some (.struct #[f0, f1, f2, f3, f4]) ∧ f0.type = 4 ∧ f1.type = 9 ∧ f2.type = 9 ∧ f3.type = 3 ∧ f4.type = 3 ∧ f0.offset = 0 ∧ f1.offset = 1 ∧ f2.offset = 2 ∧ f3.offset = 3 ∧ f4.offset = 4 :=
  ⟨_, _, _, _, _, Try.underlying35, rfl, rfl, rfl, rfl, rfl, rfl, rfl, rfl, rfl, rfl⟩
theorem Try.cells35 : Try.prog.cellsOf 35 = 5 := by kernel_rfl
theorem Try.cells4 : Try.prog.cellsOf 4 = 1 := by kernel_rfl
theorem Try.cells9 : Try.prog.cellsOf 9 = 1 := by kernel_rfl
theorem Try.cells3 : Try.prog.cellsOf 3 = 1 := by kernel_rfl

section
variable {H : Type} {enc : TypeId × Value → H} {W : World} {base : Nat} {spare : Nat → Bool} {held : Bool}

/-- One token, out of its reading. -/
theorem open_tok {a : Addr} {fuel : Nat} {cs : List Value} {x : DataW H × List MemPlace} (hc : W.cells? base a 5 = some cs) (h : DataW.trod enc Try.prog W base spare held fuel 35 cs = some x) :
    ∃ (t : Tk), W.cell? a = some (.bool t.word) ∧ W.cell? (a.add 1) = some (.string t.text) ∧ W.cell? (a.add 2) = some (.string t.uesc) ∧ W.cell? (a.add 3) = some (.int .i64 t.st) ∧ W.cell? (a.add 4) = some (.int .i64 t.en) := by
  obtain ⟨f0, f1, f2, f3, f4, hu, t0, t1, t2, t3, t4, o0, o1, o2, o3, o4⟩ := fields35
  obtain ⟨_, hlen, hcell⟩ := World.cells?_some hc
  obtain ⟨xs, n, _, _, _, hxl, hf⟩ := DataW.trod_struct hu h
  match xs, hxl, cs, hlen with
  | [y0, y1, y2, y3, y4], _, [v0, v1, v2, v3, v4], _ =>
    have g0 := hf 0 f0 rfl
    have g1 := hf 1 f1 rfl
    have g2 := hf 2 f2 rfl
    have g3 := hf 3 f3 rfl
    have g4 := hf 4 f4 rfl
    simp [o0, o1, o2, o3, o4, t0, t1, t2, t3, t4, Try.cells4, Try.cells9, Try.cells3] at g0 g1 g2 g3 g4
    obtain ⟨b0, e0, _⟩ := DataW.trod_bool Try.underlying4 g0
    obtain ⟨s1, e1, _⟩ := DataW.trod_string Try.underlying9 g1
    obtain ⟨s2, e2, _⟩ := DataW.trod_string Try.underlying9 g2
    obtain ⟨z3, e3, _⟩ := DataW.trod_int Try.underlying3 g3
    obtain ⟨z4, e4, _⟩ := DataW.trod_int Try.underlying3 g4
    simp at e0 e1 e2 e3 e4
    subst e0 e1 e2 e3 e4
    refine ⟨⟨b0, s1, s2, z3, z4⟩, ?_, ?_, ?_, ?_, ?_⟩
    · have := hcell 0 (by omega); simpa [Addr.add] using this
    · have := hcell 1 (by omega); simpa using this
    · have := hcell 2 (by omega); simpa using this
    · have := hcell 3 (by omega); simpa using this
    · have := hcell 4 (by omega); simpa using this

/-- A slice of tokens, out of its reading. -/
theorem open_toks {ao : Option Addr} {n c fuel : Nat} {x : DataW H × List MemPlace} (h : DataW.trod enc Try.prog W base spare held fuel 22 [.slice ao n c] = some x) : (∃ ts, Toks W ao n ts) ∧ n ≤ maxLen := by
  rcases open_slice Try.underlying22 h with ⟨hcs, _⟩ | ⟨a, len, cap, m, k, D, Pl, hcs, hb, hl, hm, hmm, _, hx⟩
  · simp at hcs
    obtain ⟨rfl, rfl, rfl⟩ := hcs
    exact ⟨⟨[], rfl, Or.inl rfl⟩, by simp [maxLen]⟩
  · simp at hcs
    obtain ⟨rfl, rfl, rfl⟩ := hcs
    refine ⟨?_, by omega⟩
    have hlm : n ≤ m := by rw [hmm]; split <;> omega
    rw [Try.cells35] at hx
    haveI : Inhabited Tk := ⟨Tk.zero⟩
    obtain ⟨f, hfn⟩ := choose_lt (n := n) (p := fun i (t : Tk) => W.cell? (a.add (i * 5)) = some (.bool t.word) ∧ W.cell? ((a.add (i * 5)).add 1) = some (.string t.text) ∧ W.cell? ((a.add (i * 5)).add 2) = some (.string t.uesc) ∧ W.cell? ((a.add (i * 5)).add 3) = some (.int .i64 t.st) ∧ W.cell? ((a.add (i * 5)).add 4) = some (.int .i64 t.en)) (fun i hi => by
      obtain ⟨cs', h1, h2⟩ := hx i (by omega)
      exact open_tok h1 h2)
    refine ⟨(List.range n).map f, by simp, ?_⟩
    by_cases hn : n = 0
    · exact Or.inl hn
    · right
      obtain ⟨b, o, spot⟩ := a
      have h0 := (hfn 0 (by omega)).1
      have hspot : spot = none := by simpa [Addr.add] using World.cell?_spot h0
      subst hspot
      refine ⟨b, o, rfl, fun i t ht => ?_⟩
      have hi : i < n := by have := (List.getElem?_eq_some_iff.1 ht).1; simpa using this
      have e : t = f i := by simp [hi] at ht; exact ht.symm
      subst e
      have := hfn i hi
      simp only [Go.WideShapes.add_plain] at this
      exact ⟨this.1, this.2.1, this.2.2.1, this.2.2.2.1, this.2.2.2.2⟩
end
end Go.Proofs.Qxb6602215a
