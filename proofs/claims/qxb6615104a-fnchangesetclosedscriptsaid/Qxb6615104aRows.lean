/-
  No cell of these rows narrows 'for every input' (looked for: loops, veiled, ifaces, maps, wideKeys, modest, calm, conditions, laid).
  DERIVED. THE GIVEN ROWS OF THIS SEAT. 2 by the template 'for every input the law returns true; each argument reads behind the call as it read before'; 0 by the template 'total and deterministic' (their statements: Qxb6615104aTotals.lean).
  GIVEN WITH THE SEED: the statements are not yours to turn. If you find one false, say at which input.
  Laid BY PROGRAM, IN A SANDBOX (cutbox-rows.mjs): the forced cells as the released guide's own fill.sh prints them over the translation b7a4081abacdebc9… (all of the seat's roots in one cut). By AI agents, Wed Nov 11 2026. No macro, syntax, notation, axiom, sorry.
-/
import Derived.Test.Qxb6615104aChecked
import GoSem.Claim
import GoSem.ClaimJoined
import GoSem.ClaimMapViews
import Derived.JoinedTies
import Derived.KernelRfl
namespace Go.Proofs.Qxb6615104a
/- THE CELL 'sum', in the pinned program and in every row, IS THE sha256 OF THE DUMP (.gsa) THAT Qxb6615104aProg.lean LOADS. Nothing in Lean hashes anything: it is a label: what it is worth is what the hold of that sum in a sandbox is worth. -/
noncomputable def Try.pinned : Pinned := { name := "qxb6615104a", sum := "b7a4081abacdebc999df49e6347fd3077739d0d2fbc9f144ba5c83125986ee93", checked := Try.checked }
namespace Rows
def none {H : Type} : Left H := { results := [], args := [] }

/-- 'zzlaws_internal_webhook_b1.FnChangeSetClosedScript': WHATEVER THE INPUT: true; the input reads as it did. -/
def fnChangeSetClosedScriptSpec : ChangeSpec := { name := "fnChangeSetClosedScript", fn := fun _ => fun
  | [d1, d2] => { results := [.lit (.bool true)], args := [d1, d2] }
  | _ => none }
def fnChangeSetClosedScriptRow : OpenClaim := { program := "qxb6615104a", sum := "b7a4081abacdebc999df49e6347fd3077739d0d2fbc9f144ba5c83125986ee93", func := "example.com/countersign/countersign/zzlaws_internal_webhook_b1.FnChangeSetClosedScript", spec := "fnChangeSetClosedScript", apart := false }
def FnChangeSetClosedScriptSaid : Prop := fnChangeSetClosedScriptRow.holds Try.pinned (OpenSpec.ofChange fnChangeSetClosedScriptSpec)

/-- ITS FALSE NEIGHBOUR: 'it returns false'. Refute it at one input. -/
def fnChangeSetClosedScriptWrong : ChangeSpec := { name := "fnChangeSetClosedScript", fn := fun _ => fun
  | [d1, d2] => { results := [.lit (.bool false)], args := [d1, d2] }
  | _ => none }
def FnChangeSetClosedScriptWrongFalsely : Prop := fnChangeSetClosedScriptRow.holds Try.pinned (OpenSpec.ofChange fnChangeSetClosedScriptWrong)

/-- 'zzlaws_internal_webhook_b1.FnChangeSetClosedOrderFree': WHATEVER THE INPUT: true; the input reads as it did. -/
def fnChangeSetClosedOrderFreeSpec : ChangeSpec := { name := "fnChangeSetClosedOrderFree", fn := fun _ => fun
  | [d1, d2, d3, d4, d5, d6] => { results := [.lit (.bool true)], args := [d1, d2, d3, d4, d5, d6] }
  | _ => none }
def fnChangeSetClosedOrderFreeRow : OpenClaim := { program := "qxb6615104a", sum := "b7a4081abacdebc999df49e6347fd3077739d0d2fbc9f144ba5c83125986ee93", func := "example.com/countersign/countersign/zzlaws_internal_webhook_b1.FnChangeSetClosedOrderFree", spec := "fnChangeSetClosedOrderFree", apart := false }
def FnChangeSetClosedOrderFreeSaid : Prop := fnChangeSetClosedOrderFreeRow.holds Try.pinned (OpenSpec.ofChange fnChangeSetClosedOrderFreeSpec)

/-- ITS FALSE NEIGHBOUR: 'it returns false'. Refute it at one input. -/
def fnChangeSetClosedOrderFreeWrong : ChangeSpec := { name := "fnChangeSetClosedOrderFree", fn := fun _ => fun
  | [d1, d2, d3, d4, d5, d6] => { results := [.lit (.bool false)], args := [d1, d2, d3, d4, d5, d6] }
  | _ => none }
def FnChangeSetClosedOrderFreeWrongFalsely : Prop := fnChangeSetClosedOrderFreeRow.holds Try.pinned (OpenSpec.ofChange fnChangeSetClosedOrderFreeWrong)

end Rows
end Go.Proofs.Qxb6615104a
