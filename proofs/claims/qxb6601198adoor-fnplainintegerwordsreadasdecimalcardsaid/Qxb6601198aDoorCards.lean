/-
  DERIVED. GIVEN WITH THE SEED: THE CARDS: each row of Qxb6601198aDoorRows.lean that lists a variable, with what it lists TIED to the program's text (the seventh form; the later family's looks); each row that meets fmt, with fmt's text TOLD by the authors' own Lean function (tested against real Go, not proved from fmt's source: count such statements apart). THE CARD IS WHAT COUNTS. Prove the row's statement (the work); the ties are given (Qxb6601198aDoorTie.lean); close each card by the builder's one call (the guide's Derived/Test/ToyasCard.lean, 'card_holds'). Laid BY PROGRAM, IN A SANDBOX (cutbox-door.mjs). By AI agents, Wed Nov 11 2026. No macro, syntax, notation, axiom, sorry.
-/
import Derived.Test.Qxb6601198aDoorRows
import GoSem.ClaimSeven
namespace Go.Proofs.Qxb6601198aDoor
namespace Rows

/-- THE TIED CARD OF 'zzlaws_internal_document_b1.FnPlainIntegerWordsReadAsDecimal'. -/
def fnPlainIntegerWordsReadAsDecimalCard : Claim7 := { stood := { row := fnPlainIntegerWordsReadAsDecimalRow, standIns := [], harness := (true, "88a7da659ef273b30ab9e597e9cd4870c5490d086bb8372a6d77cb30e227e911"), looks := true }, kinds := [], alts := [], laidByText := true, laidKinds := [.data, .data, .data, .sentinel, .sentinel], laidTests := true, laidLooks := .later }
def FnPlainIntegerWordsReadAsDecimalCardSaid : Prop := Claim7.holds Tryd.pinned (.plain (OpenSpec.ofChange fnPlainIntegerWordsReadAsDecimalSpec)) fnPlainIntegerWordsReadAsDecimalCard

/-- THE TIED CARD OF 'zzlaws_internal_document_b1.FnIntegerMatchesGrammar'. -/
def fnIntegerMatchesGrammarCard : Claim7 := { stood := { row := fnIntegerMatchesGrammarRow, standIns := [], harness := (true, "88a7da659ef273b30ab9e597e9cd4870c5490d086bb8372a6d77cb30e227e911"), looks := true }, kinds := [], alts := [], laidByText := true, laidKinds := [.data, .data, .data, .sentinel, .sentinel], laidTests := true, laidLooks := .later }
def FnIntegerMatchesGrammarCardSaid : Prop := Claim7.holds Tryd.pinned (.plain (OpenSpec.ofChange fnIntegerMatchesGrammarSpec)) fnIntegerMatchesGrammarCard

/-- THE TIED CARD OF 'zzlaws_internal_document_b1.FnIntegerReadsEveryRendering'. -/
def fnIntegerReadsEveryRenderingCard : Claim7 := { stood := { row := fnIntegerReadsEveryRenderingRow, standIns := [], harness := (true, "88a7da659ef273b30ab9e597e9cd4870c5490d086bb8372a6d77cb30e227e911"), looks := true }, kinds := [], alts := [], laidByText := true, laidKinds := [.data, .data, .data, .sentinel, .sentinel], laidTests := true, laidLooks := .later }
def FnIntegerReadsEveryRenderingCardSaid : Prop := Claim7.holds Tryd.pinned (.plain (OpenSpec.ofChange fnIntegerReadsEveryRenderingSpec)) fnIntegerReadsEveryRenderingCard

/-- THE TIED CARD OF 'zzlaws_internal_document_b1.FnIntegerSignFlips'. -/
def fnIntegerSignFlipsCard : Claim7 := { stood := { row := fnIntegerSignFlipsRow, standIns := [], harness := (true, "88a7da659ef273b30ab9e597e9cd4870c5490d086bb8372a6d77cb30e227e911"), looks := true }, kinds := [], alts := [], laidByText := true, laidKinds := [.data, .data, .data, .sentinel, .sentinel], laidTests := true, laidLooks := .later }
def FnIntegerSignFlipsCardSaid : Prop := Claim7.holds Tryd.pinned (.plain (OpenSpec.ofChange fnIntegerSignFlipsSpec)) fnIntegerSignFlipsCard
end Rows
end Go.Proofs.Qxb6601198aDoor
