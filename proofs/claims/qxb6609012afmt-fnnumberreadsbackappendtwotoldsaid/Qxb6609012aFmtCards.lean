/-
  DERIVED. GIVEN WITH THE SEED: THE CARDS: each row of Qxb6609012aFmtRows.lean that lists a variable, with what it lists TIED to the program's text (the seventh form; the later family's looks); each row that meets fmt, with fmt's text TOLD by the authors' own Lean function (tested against real Go, not proved from fmt's source: count such statements apart). THE CARD IS WHAT COUNTS. Prove the row's statement (the work); the ties are given (Qxb6609012aFmtTie.lean); close each card by the builder's one call (the guide's Derived/Test/ToyasCard.lean, 'card_holds'). Laid BY PROGRAM, IN A SANDBOX (cutbox-door.mjs). By AI agents, Wed Nov 11 2026. No macro, syntax, notation, axiom, sorry.
-/
import Derived.Test.Qxb6609012aFmtRows
import GoSem.ClaimSeven
namespace Go.Proofs.Qxb6609012aFmt
namespace Rows

/-- THE TOLD AND TIED CARD OF 'zzlaws_internal_tz_b1.FnNumberReadsLongestRunWithinWidth'. -/
def fnNumberReadsLongestRunWithinWidthCard : Claim7 := { stood := { row := fnNumberReadsLongestRunWithinWidthRow, standIns := [], harness := (true, "4f8008ac504a7bd1f71e5b7e9ab197bf0023f31b253710d9cd2226350bf60882"), looks := true }, told := true, laidByText := true, laidKinds := [.data, .data, .data, .sentinel, .sentinel], laidTests := true, laidLooks := .later, goes := false }
def FnNumberReadsLongestRunWithinWidthToldSaid : Prop := Claim7.holds Tryf.pinned (.plain (OpenSpec.ofChange fnNumberReadsLongestRunWithinWidthSpec)) fnNumberReadsLongestRunWithinWidthCard
/-- ITS FALSE NEIGHBOUR. Refute it at one input. -/
def FnNumberReadsLongestRunWithinWidthToldWrongFalsely : Prop := Claim7.holds Tryf.pinned (.plain (OpenSpec.ofChange fnNumberReadsLongestRunWithinWidthWrong)) fnNumberReadsLongestRunWithinWidthCard

/-- THE TOLD AND TIED CARD OF 'zzlaws_internal_tz_b1.FnNumberReadsBackAppendTwo'. -/
def fnNumberReadsBackAppendTwoCard : Claim7 := { stood := { row := fnNumberReadsBackAppendTwoRow, standIns := [], harness := (true, "4f8008ac504a7bd1f71e5b7e9ab197bf0023f31b253710d9cd2226350bf60882"), looks := true }, told := true, laidByText := true, laidKinds := [.data, .data, .data, .sentinel, .sentinel], laidTests := true, laidLooks := .later, goes := false }
def FnNumberReadsBackAppendTwoToldSaid : Prop := Claim7.holds Tryf.pinned (.plain (OpenSpec.ofChange fnNumberReadsBackAppendTwoSpec)) fnNumberReadsBackAppendTwoCard
/-- ITS FALSE NEIGHBOUR. Refute it at one input. -/
def FnNumberReadsBackAppendTwoToldWrongFalsely : Prop := Claim7.holds Tryf.pinned (.plain (OpenSpec.ofChange fnNumberReadsBackAppendTwoWrong)) fnNumberReadsBackAppendTwoCard
end Rows
end Go.Proofs.Qxb6609012aFmt
