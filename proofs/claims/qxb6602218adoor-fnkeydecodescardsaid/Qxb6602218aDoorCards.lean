/-
  DERIVED. GIVEN WITH THE SEED: THE CARDS: each row of Qxb6602218aDoorRows.lean that lists a variable, with what it lists TIED to the program's text (the seventh form; the later family's looks); each row that meets fmt, with fmt's text TOLD by the authors' own Lean function (tested against real Go, not proved from fmt's source: count such statements apart). THE CARD IS WHAT COUNTS. Prove the row's statement (the work); the ties are given (Qxb6602218aDoorTie.lean); close each card by the builder's one call (the guide's Derived/Test/ToyasCard.lean, 'card_holds'). Laid BY PROGRAM, IN A SANDBOX (cutbox-door.mjs). By AI agents, Wed Nov 11 2026. No macro, syntax, notation, axiom, sorry.
-/
import Derived.Test.Qxb6602218aDoorRows
import GoSem.ClaimSeven
namespace Go.Proofs.Qxb6602218aDoor
namespace Rows

/-- THE TIED CARD OF 'zzlaws_metrics_b1.FnKeyDecodes'. -/
def fnKeyDecodesCard : Claim7 := { stood := { row := fnKeyDecodesRow, standIns := [], harness := (true, "b0c0738a7307f667f878daf7b0d66f3d9f24ef6233cac2b566178082ffae5b95"), looks := false }, kinds := [], alts := [], laidByText := true, laidKinds := [.data, .data, .data], laidTests := true, laidLooks := .later }
def FnKeyDecodesCardSaid : Prop := Claim7.holds Tryd.pinned (.plain (OpenSpec.ofChange fnKeyDecodesSpec)) fnKeyDecodesCard

/-- THE TIED CARD OF 'zzlaws_metrics_b1.FnKeyInjective'. -/
def fnKeyInjectiveCard : Claim7 := { stood := { row := fnKeyInjectiveRow, standIns := [], harness := (true, "b0c0738a7307f667f878daf7b0d66f3d9f24ef6233cac2b566178082ffae5b95"), looks := false }, kinds := [], alts := [], laidByText := true, laidKinds := [.data, .data, .data], laidTests := true, laidLooks := .later }
def FnKeyInjectiveCardSaid : Prop := Claim7.holds Tryd.pinned (.plain (OpenSpec.ofChange fnKeyInjectiveSpec)) fnKeyInjectiveCard

/-- THE TIED CARD OF 'zzlaws_metrics_b1.FnKeyConcat'. -/
def fnKeyConcatCard : Claim7 := { stood := { row := fnKeyConcatRow, standIns := [], harness := (true, "b0c0738a7307f667f878daf7b0d66f3d9f24ef6233cac2b566178082ffae5b95"), looks := false }, kinds := [], alts := [], laidByText := true, laidKinds := [.data, .data, .data], laidTests := true, laidLooks := .later }
def FnKeyConcatCardSaid : Prop := Claim7.holds Tryd.pinned (.plain (OpenSpec.ofChange fnKeyConcatSpec)) fnKeyConcatCard
end Rows
end Go.Proofs.Qxb6602218aDoor
