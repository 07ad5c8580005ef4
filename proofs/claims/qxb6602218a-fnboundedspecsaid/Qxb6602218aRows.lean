/-
  No cell of these rows narrows 'for every input' (looked for: loops, veiled, ifaces, maps, wideKeys, modest, calm, conditions, laid).
  DERIVED. THE GIVEN ROWS OF THIS SEAT. 2 by the template 'for every input the law returns true; each argument reads behind the call as it read before'; 0 by the template 'total and deterministic' (their statements: Qxb6602218aTotals.lean).
  GIVEN WITH THE SEED: the statements are not yours to turn. If you find one false, say at which input.
  Laid BY PROGRAM, IN A SANDBOX (cutbox-rows.mjs): the forced cells as the released guide's own fill.sh prints them over the translation 0604974441a77d57… (all of the seat's roots in one cut). By AI agents, Wed Nov 11 2026. No macro, syntax, notation, axiom, sorry.
-/
import Derived.Test.Qxb6602218aChecked
import GoSem.Claim
import GoSem.ClaimJoined
import GoSem.ClaimMapViews
import Derived.JoinedTies
import Derived.KernelRfl
namespace Go.Proofs.Qxb6602218a
/- THE CELL 'sum', in the pinned program and in every row, IS THE sha256 OF THE DUMP (.gsa) THAT Qxb6602218aProg.lean LOADS. Nothing in Lean hashes anything: it is a label: what it is worth is what the hold of that sum in a sandbox is worth. -/
noncomputable def Try.pinned : Pinned := { name := "qxb6602218a", sum := "0604974441a77d57556053904b6484dcb03e011e4c52049459672247043815e4", checked := Try.checked }
namespace Rows
def none {H : Type} : Left H := { results := [], args := [] }

/-- 'zzlaws_metrics_b1.FnBoundedSpec': WHATEVER THE INPUT: true; the input reads as it did. -/
def fnBoundedSpecSpec : ChangeSpec := { name := "fnBoundedSpec", fn := fun _ => fun
  | [d] => { results := [.lit (.bool true)], args := [d] }
  | _ => none }
def fnBoundedSpecRow : OpenClaim := { program := "qxb6602218a", sum := "0604974441a77d57556053904b6484dcb03e011e4c52049459672247043815e4", func := "example.com/grantline/grantline/zzlaws_metrics_b1.FnBoundedSpec", spec := "fnBoundedSpec", apart := false }
def FnBoundedSpecSaid : Prop := fnBoundedSpecRow.holds Try.pinned (OpenSpec.ofChange fnBoundedSpecSpec)

/-- ITS FALSE NEIGHBOUR: 'it returns false'. Refute it at one input. -/
def fnBoundedSpecWrong : ChangeSpec := { name := "fnBoundedSpec", fn := fun _ => fun
  | [d] => { results := [.lit (.bool false)], args := [d] }
  | _ => none }
def FnBoundedSpecWrongFalsely : Prop := fnBoundedSpecRow.holds Try.pinned (OpenSpec.ofChange fnBoundedSpecWrong)

/-- 'zzlaws_metrics_b1.FnBoundedIdempotent': WHATEVER THE INPUT: true; the input reads as it did. -/
def fnBoundedIdempotentSpec : ChangeSpec := { name := "fnBoundedIdempotent", fn := fun _ => fun
  | [d] => { results := [.lit (.bool true)], args := [d] }
  | _ => none }
def fnBoundedIdempotentRow : OpenClaim := { program := "qxb6602218a", sum := "0604974441a77d57556053904b6484dcb03e011e4c52049459672247043815e4", func := "example.com/grantline/grantline/zzlaws_metrics_b1.FnBoundedIdempotent", spec := "fnBoundedIdempotent", apart := false }
def FnBoundedIdempotentSaid : Prop := fnBoundedIdempotentRow.holds Try.pinned (OpenSpec.ofChange fnBoundedIdempotentSpec)

/-- ITS FALSE NEIGHBOUR: 'it returns false'. Refute it at one input. -/
def fnBoundedIdempotentWrong : ChangeSpec := { name := "fnBoundedIdempotent", fn := fun _ => fun
  | [d] => { results := [.lit (.bool false)], args := [d] }
  | _ => none }
def FnBoundedIdempotentWrongFalsely : Prop := fnBoundedIdempotentRow.holds Try.pinned (OpenSpec.ofChange fnBoundedIdempotentWrong)

end Rows
end Go.Proofs.Qxb6602218a
