/-
  No cell of these rows narrows 'for every input' (looked for: loops, veiled, ifaces, maps, wideKeys, modest, calm, conditions, laid).
  DERIVED. THE GIVEN ROWS OF THIS SEAT. 2 by the template 'for every input the law returns true; each argument reads behind the call as it read before'; 0 by the template 'total and deterministic' (their statements: Qxb6608688aTotals.lean).
  GIVEN WITH THE SEED: the statements are not yours to turn. If you find one false, say at which input.
  Laid BY PROGRAM, IN A SANDBOX (cutbox-rows.mjs): the forced cells as the released guide's own fill.sh prints them over the translation 994963caaf683bd7… (all of the seat's roots in one cut). By AI agents, Wed Nov 11 2026. No macro, syntax, notation, axiom, sorry.
-/
import Derived.Test.Qxb6608688aChecked
import GoSem.Claim
import GoSem.ClaimJoined
import GoSem.ClaimMapViews
import Derived.JoinedTies
import Derived.KernelRfl
namespace Go.Proofs.Qxb6608688a
/- THE CELL 'sum', in the pinned program and in every row, IS THE sha256 OF THE DUMP (.gsa) THAT Qxb6608688aProg.lean LOADS. Nothing in Lean hashes anything: it is a label: what it is worth is what the hold of that sum in a sandbox is worth. -/
noncomputable def Try.pinned : Pinned := { name := "qxb6608688a", sum := "994963caaf683bd774d72abce17e29ceb1796c86e7348fd25eceb23a38984702", checked := Try.checked }
namespace Rows
def none {H : Type} : Left H := { results := [], args := [] }

/-- 'zzlaws_lconf_b1.FnHeadAppendsItsLineAfterBuffer': WHATEVER THE INPUT: true; the input reads as it did. -/
def fnHeadAppendsItsLineAfterBufferSpec : ChangeSpec := { name := "fnHeadAppendsItsLineAfterBuffer", fn := fun _ => fun
  | [d1, d2, d3, d4] => { results := [.lit (.bool true)], args := [d1, d2, d3, d4] }
  | _ => none }
def fnHeadAppendsItsLineAfterBufferRow : OpenClaim := { program := "qxb6608688a", sum := "994963caaf683bd774d72abce17e29ceb1796c86e7348fd25eceb23a38984702", func := "example.com/config-dialects/config-dialects/zzlaws_lconf_b1.FnHeadAppendsItsLineAfterBuffer", spec := "fnHeadAppendsItsLineAfterBuffer", apart := false }
def FnHeadAppendsItsLineAfterBufferSaid : Prop := fnHeadAppendsItsLineAfterBufferRow.holds Try.pinned (OpenSpec.ofChange fnHeadAppendsItsLineAfterBufferSpec)

/-- ITS FALSE NEIGHBOUR: 'it returns false'. Refute it at one input. -/
def fnHeadAppendsItsLineAfterBufferWrong : ChangeSpec := { name := "fnHeadAppendsItsLineAfterBuffer", fn := fun _ => fun
  | [d1, d2, d3, d4] => { results := [.lit (.bool false)], args := [d1, d2, d3, d4] }
  | _ => none }
def FnHeadAppendsItsLineAfterBufferWrongFalsely : Prop := fnHeadAppendsItsLineAfterBufferRow.holds Try.pinned (OpenSpec.ofChange fnHeadAppendsItsLineAfterBufferWrong)

/-- 'zzlaws_lconf_b1.FnHeadNameCutAndDepthStep': WHATEVER THE INPUT: true; the input reads as it did. -/
def fnHeadNameCutAndDepthStepSpec : ChangeSpec := { name := "fnHeadNameCutAndDepthStep", fn := fun _ => fun
  | [d1, d2, d3, d4, d5] => { results := [.lit (.bool true)], args := [d1, d2, d3, d4, d5] }
  | _ => none }
def fnHeadNameCutAndDepthStepRow : OpenClaim := { program := "qxb6608688a", sum := "994963caaf683bd774d72abce17e29ceb1796c86e7348fd25eceb23a38984702", func := "example.com/config-dialects/config-dialects/zzlaws_lconf_b1.FnHeadNameCutAndDepthStep", spec := "fnHeadNameCutAndDepthStep", apart := false }
def FnHeadNameCutAndDepthStepSaid : Prop := fnHeadNameCutAndDepthStepRow.holds Try.pinned (OpenSpec.ofChange fnHeadNameCutAndDepthStepSpec)

/-- ITS FALSE NEIGHBOUR: 'it returns false'. Refute it at one input. -/
def fnHeadNameCutAndDepthStepWrong : ChangeSpec := { name := "fnHeadNameCutAndDepthStep", fn := fun _ => fun
  | [d1, d2, d3, d4, d5] => { results := [.lit (.bool false)], args := [d1, d2, d3, d4, d5] }
  | _ => none }
def FnHeadNameCutAndDepthStepWrongFalsely : Prop := fnHeadNameCutAndDepthStepRow.holds Try.pinned (OpenSpec.ofChange fnHeadNameCutAndDepthStepWrong)

end Rows
end Go.Proofs.Qxb6608688a
