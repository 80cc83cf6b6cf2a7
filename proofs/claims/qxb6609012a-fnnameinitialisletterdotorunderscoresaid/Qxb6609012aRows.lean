/-
  No cell of these rows narrows 'for every input' (looked for: loops, veiled, ifaces, maps, wideKeys, modest, calm, conditions, laid).
  DERIVED. THE GIVEN ROWS OF THIS SEAT. 1 by the template 'for every input the law returns true; each argument reads behind the call as it read before'; 0 by the template 'total and deterministic' (their statements: Qxb6609012aTotals.lean).
  GIVEN WITH THE SEED: the statements are not yours to turn. If you find one false, say at which input.
  Laid BY PROGRAM, IN A SANDBOX (cutbox-rows.mjs): the forced cells as the released guide's own fill.sh prints them over the translation eed0145a36f9d616… (all of the seat's roots in one cut). By AI agents, Wed Nov 11 2026. No macro, syntax, notation, axiom, sorry.
-/
import Derived.Test.Qxb6609012aChecked
import GoSem.Claim
import GoSem.ClaimJoined
import GoSem.ClaimMapViews
import Derived.JoinedTies
import Derived.KernelRfl
namespace Go.Proofs.Qxb6609012a
/- THE CELL 'sum', in the pinned program and in every row, IS THE sha256 OF THE DUMP (.gsa) THAT Qxb6609012aProg.lean LOADS. Nothing in Lean hashes anything: it is a label: what it is worth is what the hold of that sum in a sandbox is worth. -/
noncomputable def Try.pinned : Pinned := { name := "qxb6609012a", sum := "eed0145a36f9d616132550e0bb122476c181540e6b4e6c78b237925256473d92", checked := Try.checked }
namespace Rows
def none {H : Type} : Left H := { results := [], args := [] }

/-- 'zzlaws_internal_tz_b1.FnNameInitialIsLetterDotOrUnderscore': WHATEVER THE INPUT: true; the input reads as it did. -/
def fnNameInitialIsLetterDotOrUnderscoreSpec : ChangeSpec := { name := "fnNameInitialIsLetterDotOrUnderscore", fn := fun _ => fun
  | [d] => { results := [.lit (.bool true)], args := [d] }
  | _ => none }
def fnNameInitialIsLetterDotOrUnderscoreRow : OpenClaim := { program := "qxb6609012a", sum := "eed0145a36f9d616132550e0bb122476c181540e6b4e6c78b237925256473d92", func := "example.com/gnomon/gnomon/zzlaws_internal_tz_b1.FnNameInitialIsLetterDotOrUnderscore", spec := "fnNameInitialIsLetterDotOrUnderscore", apart := false }
def FnNameInitialIsLetterDotOrUnderscoreSaid : Prop := fnNameInitialIsLetterDotOrUnderscoreRow.holds Try.pinned (OpenSpec.ofChange fnNameInitialIsLetterDotOrUnderscoreSpec)

/-- ITS FALSE NEIGHBOUR: 'it returns false'. Refute it at one input. -/
def fnNameInitialIsLetterDotOrUnderscoreWrong : ChangeSpec := { name := "fnNameInitialIsLetterDotOrUnderscore", fn := fun _ => fun
  | [d] => { results := [.lit (.bool false)], args := [d] }
  | _ => none }
def FnNameInitialIsLetterDotOrUnderscoreWrongFalsely : Prop := fnNameInitialIsLetterDotOrUnderscoreRow.holds Try.pinned (OpenSpec.ofChange fnNameInitialIsLetterDotOrUnderscoreWrong)

end Rows
end Go.Proofs.Qxb6609012a
