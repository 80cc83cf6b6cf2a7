/-
  DERIVED. GIVEN WITH THE SEED: THE CARDS: each row of Qxb6608909aDoorRows.lean that lists a variable, with what it lists TIED to the program's text (the seventh form; the later family's looks); each row that meets fmt, with fmt's text TOLD by the authors' own Lean function (tested against real Go, not proved from fmt's source: count such statements apart). THE CARD IS WHAT COUNTS. Prove the row's statement (the work); the ties are given (Qxb6608909aDoorTie.lean); close each card by the builder's one call (the guide's Derived/Test/ToyasCard.lean, 'card_holds'). Laid BY PROGRAM, IN A SANDBOX (cutbox-door.mjs). By AI agents, Wed Nov 11 2026. No macro, syntax, notation, axiom, sorry.
-/
import Derived.Test.Qxb6608909aDoorRows
import GoSem.ClaimSeven
namespace Go.Proofs.Qxb6608909aDoor
namespace Rows

/-- THE TIED CARD OF 'zzlaws_internal_resp_b1.FnAppendArrayIsTheCanonicalArrayAfterB'. -/
def fnAppendArrayIsTheCanonicalArrayAfterBCard : Claim7 := { stood := { row := fnAppendArrayIsTheCanonicalArrayAfterBRow, standIns := [], harness := (true, "d8e22b95ba0bf5c3be850e71b93548d6a6e7d6e0257b5e5eaf90f62b12858609"), looks := true }, kinds := [], alts := [], laidByText := true, laidKinds := [.data, .data, .data], laidTests := true, laidLooks := .later }
def FnAppendArrayIsTheCanonicalArrayAfterBCardSaid : Prop := Claim7.holds Tryd.pinned (.plain (OpenSpec.ofChange fnAppendArrayIsTheCanonicalArrayAfterBSpec)) fnAppendArrayIsTheCanonicalArrayAfterBCard

/-- THE TIED CARD OF 'zzlaws_internal_resp_b1.FnAppendQuotedMatchesStreamingModel'. -/
def fnAppendQuotedMatchesStreamingModelCard : Claim7 := { stood := { row := fnAppendQuotedMatchesStreamingModelRow, standIns := [], harness := (true, "d8e22b95ba0bf5c3be850e71b93548d6a6e7d6e0257b5e5eaf90f62b12858609"), looks := true }, kinds := [], alts := [], laidByText := true, laidKinds := [.data, .data, .data, .sentinel, .sentinel], laidTests := true, laidLooks := .later }
def FnAppendQuotedMatchesStreamingModelCardSaid : Prop := Claim7.holds Tryd.pinned (.plain (OpenSpec.ofChange fnAppendQuotedMatchesStreamingModelSpec)) fnAppendQuotedMatchesStreamingModelCard

/-- THE TIED CARD OF 'zzlaws_internal_resp_b1.FnAppendQuotedIgnoresWhatSurroundsTheQuote'. -/
def fnAppendQuotedIgnoresWhatSurroundsTheQuoteCard : Claim7 := { stood := { row := fnAppendQuotedIgnoresWhatSurroundsTheQuoteRow, standIns := [], harness := (true, "d8e22b95ba0bf5c3be850e71b93548d6a6e7d6e0257b5e5eaf90f62b12858609"), looks := true }, kinds := [], alts := [], laidByText := true, laidKinds := [.data, .data, .data, .sentinel, .sentinel], laidTests := true, laidLooks := .later }
def FnAppendQuotedIgnoresWhatSurroundsTheQuoteCardSaid : Prop := Claim7.holds Tryd.pinned (.plain (OpenSpec.ofChange fnAppendQuotedIgnoresWhatSurroundsTheQuoteSpec)) fnAppendQuotedIgnoresWhatSurroundsTheQuoteCard

/-- THE TIED CARD OF 'zzlaws_internal_resp_b1.FnPeekKeyAtEveryCutOfAppendArray'. -/
def fnPeekKeyAtEveryCutOfAppendArrayCard : Claim7 := { stood := { row := fnPeekKeyAtEveryCutOfAppendArrayRow, standIns := [], harness := (true, "d8e22b95ba0bf5c3be850e71b93548d6a6e7d6e0257b5e5eaf90f62b12858609"), looks := true }, kinds := [], alts := [], laidByText := true, laidKinds := [.data, .data, .data], laidTests := true, laidLooks := .later }
def FnPeekKeyAtEveryCutOfAppendArrayCardSaid : Prop := Claim7.holds Tryd.pinned (.plain (OpenSpec.ofChange fnPeekKeyAtEveryCutOfAppendArraySpec)) fnPeekKeyAtEveryCutOfAppendArrayCard

/-- THE TIED CARD OF 'zzlaws_internal_resp_b1.FnPeekKeyIgnoresTailAndRefusesOtherOpenings'. -/
def fnPeekKeyIgnoresTailAndRefusesOtherOpeningsCard : Claim7 := { stood := { row := fnPeekKeyIgnoresTailAndRefusesOtherOpeningsRow, standIns := [], harness := (true, "d8e22b95ba0bf5c3be850e71b93548d6a6e7d6e0257b5e5eaf90f62b12858609"), looks := true }, kinds := [], alts := [], laidByText := true, laidKinds := [.data, .data, .data], laidTests := true, laidLooks := .later }
def FnPeekKeyIgnoresTailAndRefusesOtherOpeningsCardSaid : Prop := Claim7.holds Tryd.pinned (.plain (OpenSpec.ofChange fnPeekKeyIgnoresTailAndRefusesOtherOpeningsSpec)) fnPeekKeyIgnoresTailAndRefusesOtherOpeningsCard
end Rows
end Go.Proofs.Qxb6608909aDoor
