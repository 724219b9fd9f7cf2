/-
  DERIVED. GIVEN WITH THE SEED: THE CARDS: each row of Qxb6602065aDoorRows.lean that lists a variable, with what it lists TIED to the program's text (the seventh form; the later family's looks); each row that meets fmt, with fmt's text TOLD by the authors' own Lean function (tested against real Go, not proved from fmt's source: count such statements apart). THE CARD IS WHAT COUNTS. Prove the row's statement (the work); the ties are given (Qxb6602065aDoorTie.lean); close each card by the builder's one call (the guide's Derived/Test/ToyasCard.lean, 'card_holds'). Laid BY PROGRAM, IN A SANDBOX (cutbox-door.mjs). By AI agents, Wed Nov 11 2026. No macro, syntax, notation, axiom, sorry.
-/
import Derived.Test.Qxb6602065aDoorRows
import GoSem.ClaimSeven
namespace Go.Proofs.Qxb6602065aDoor
namespace Rows

/-- THE TIED CARD OF 'zzlaws_api_b1.FnCutETagReadsETag'. -/
def fnCutETagReadsETagCard : Claim7 := { stood := { row := fnCutETagReadsETagRow, standIns := [], harness := (true, "c2f849756bdaf225f6b1b13a471c3568e58081f9acdcef07a0f7059ff4183b44"), looks := false }, kinds := [], alts := [], laidByText := true, laidKinds := [.data, .data, .data], laidTests := true, laidLooks := .later }
def FnCutETagReadsETagCardSaid : Prop := Claim7.holds Tryd.pinned (.plain (OpenSpec.ofChange fnCutETagReadsETagSpec)) fnCutETagReadsETagCard

/-- THE TIED CARD OF 'zzlaws_api_b1.FnFormatTagsExactByParse'. -/
def fnFormatTagsExactByParseCard : Claim7 := { stood := { row := fnFormatTagsExactByParseRow, standIns := [], harness := (true, "c2f849756bdaf225f6b1b13a471c3568e58081f9acdcef07a0f7059ff4183b44"), looks := false }, kinds := [], alts := [], laidByText := true, laidKinds := [.data, .data, .data], laidTests := true, laidLooks := .later }
def FnFormatTagsExactByParseCardSaid : Prop := Claim7.holds Tryd.pinned (.plain (OpenSpec.ofChange fnFormatTagsExactByParseSpec)) fnFormatTagsExactByParseCard

/-- THE TIED CARD OF 'zzlaws_api_b1.FnFormatTagsCutBack'. -/
def fnFormatTagsCutBackCard : Claim7 := { stood := { row := fnFormatTagsCutBackRow, standIns := [], harness := (true, "c2f849756bdaf225f6b1b13a471c3568e58081f9acdcef07a0f7059ff4183b44"), looks := false }, kinds := [], alts := [], laidByText := true, laidKinds := [.data, .data, .data], laidTests := true, laidLooks := .later }
def FnFormatTagsCutBackCardSaid : Prop := Claim7.holds Tryd.pinned (.plain (OpenSpec.ofChange fnFormatTagsCutBackSpec)) fnFormatTagsCutBackCard
end Rows
end Go.Proofs.Qxb6602065aDoor
