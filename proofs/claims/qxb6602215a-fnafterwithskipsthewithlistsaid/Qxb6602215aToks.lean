import Derived.WalkKit
import Derived.Deep.Slices
import Derived.Deep.MidRow
import Derived.ChangeSame
namespace Go.Proofs.Qxb6602215a
open Go.RowKit Go.Deep

/-- A token: the five fields of Tok, ZZToken and token. -/
structure Tk where
  word : Bool
  text : ByteArray
  uesc : ByteArray
  st : Int
  en : Int

def Tk.zero : Tk := ⟨false, ByteArray.empty, ByteArray.empty, 0, 0⟩

/-- The five cells of one token. -/
structure TkAt (w : World) (b o : Nat) (t : Tk) : Prop where
  c0 : w.cell? ⟨b, o, none⟩ = some (.bool t.word)
  c1 : w.cell? ⟨b, o + 1, none⟩ = some (.string t.text)
  c2 : w.cell? ⟨b, o + 2, none⟩ = some (.string t.uesc)
  c3 : w.cell? ⟨b, o + 3, none⟩ = some (.int .i64 t.st)
  c4 : w.cell? ⟨b, o + 4, none⟩ = some (.int .i64 t.en)

/-- A slice at 'ao' of 'n' tokens reads as 'ts'. -/
def Toks (w : World) (ao : Option Addr) (n : Nat) (ts : List Tk) : Prop :=
  ts.length = n ∧ (n = 0 ∨ ∃ b o, ao = some ⟨b, o, none⟩ ∧ ∀ i t, ts[i]? = some t → TkAt w b (o + i * 5) t)

theorem TkAt.below {w w' : World} {B b o : Nat} {t : Tk} (h : TkAt w b o t) (hb : b < B) (bel : Below B w w') : TkAt w' b o t :=
  ⟨(bel.cell (p := ⟨b, o, none⟩) hb).trans h.c0, (bel.cell (p := ⟨b, o + 1, none⟩) hb).trans h.c1, (bel.cell (p := ⟨b, o + 2, none⟩) hb).trans h.c2, (bel.cell (p := ⟨b, o + 3, none⟩) hb).trans h.c3, (bel.cell (p := ⟨b, o + 4, none⟩) hb).trans h.c4⟩

theorem TkAt.lt {w : World} {b o : Nat} {t : Tk} (h : TkAt w b o t) : b < w.heap.size := World.block_lt_of_cell? w ⟨b, o, none⟩ h.c0

/-- What was read stays read where nothing old has turned. -/
theorem Toks.below {w w' : World} {ao : Option Addr} {n : Nat} {ts : List Tk} (h : Toks w ao n ts) (bel : Below w.heap.size w w') : Toks w' ao n ts := by
  refine ⟨h.1, ?_⟩
  rcases h.2 with h0 | ⟨b, o, ha, hc⟩
  · exact Or.inl h0
  · exact Or.inr ⟨b, o, ha, fun i t ht => (hc i t ht).below (hc i t ht).lt bel⟩

/-- The word test, plainly. -/
def isWordL (ts : List Tk) (i : Int) (s : List UInt8) : Bool :=
  decide (0 ≤ i) && decide (i < ts.length) && (ts.getD i.toNat Tk.zero).word && ((ts.getD i.toNat Tk.zero).text.toList == s)
/-- The test on punctuation, plainly. -/
def isPunctL (ts : List Tk) (i : Int) (s : List UInt8) : Bool :=
  decide (0 ≤ i) && decide (i < ts.length) && !(ts.getD i.toNat Tk.zero).word && ((ts.getD i.toNat Tk.zero).text.toList == s)

end Go.Proofs.Qxb6602215a
