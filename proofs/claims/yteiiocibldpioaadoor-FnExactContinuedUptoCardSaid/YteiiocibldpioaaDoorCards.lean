/-
  DERIVED. GIVEN WITH THE SEED: THE CARDS: each row of YteiiocibldpioaaDoorRows.lean that lists a variable, with what it lists TIED to the program's text (the seventh form; the later family's looks); each row that meets fmt, with fmt's text TOLD by the authors' own Lean function (tested against real Go, not proved from fmt's source: count such statements apart). THE CARD IS WHAT COUNTS. Prove the row's statement (the work); the ties are given (YteiiocibldpioaaDoorTie.lean); close each card by the builder's one call (the guide's Derived/Test/ToyasCard.lean, 'card_holds'). Laid BY PROGRAM, IN A SANDBOX (cutbox-door.mjs). By AI agents, Wed Nov 11 2026. No macro, syntax, notation, axiom, sorry.
-/
import Derived.Test.YteiiocibldpioaaDoorRows
import GoSem.ClaimSeven
namespace Go.Proofs.YteiiocibldpioaaDoor
namespace Rows

/-- THE TIED CARD OF 'laws.FnDotPieces'. -/
def fnDotPiecesCard : Claim7 := { stood := { row := fnDotPiecesRow, standIns := [], harness := (true, "04f956d29fd4841f39ff4b74649ab107815f83d14cf15e601a55942e333ed0b3"), looks := true }, kinds := [], alts := [], laidByText := true, laidKinds := [.sentinel], laidTests := true, laidLooks := .later }
def FnDotPiecesCardSaid : Prop := Claim7.holds Tryd.pinned (.plain (OpenSpec.ofChange fnDotPiecesSpec)) fnDotPiecesCard

/-- THE TIED CARD OF 'laws.FnExactDotWrite'. -/
def fnExactDotWriteCard : Claim7 := { stood := { row := fnExactDotWriteRow, standIns := [], harness := (true, "04f956d29fd4841f39ff4b74649ab107815f83d14cf15e601a55942e333ed0b3"), looks := true }, kinds := [], alts := [], laidByText := true, laidKinds := [.sentinel], laidTests := true, laidLooks := .later }
def FnExactDotWriteCardSaid : Prop := Claim7.holds Tryd.pinned (.plain (OpenSpec.ofChange fnExactDotWriteSpec)) fnExactDotWriteCard

/-- THE TIED CARD OF 'laws.FnDotReads'. -/
def fnDotReadsCard : Claim7 := { stood := { row := fnDotReadsRow, standIns := [], harness := (true, "04f956d29fd4841f39ff4b74649ab107815f83d14cf15e601a55942e333ed0b3"), looks := true }, kinds := [], alts := [], laidByText := true, laidKinds := [.sentinel, .sentinel, .sentinel, .sentinel, .sentinel], laidTests := true, laidLooks := .later }
def FnDotReadsCardSaid : Prop := Claim7.holds Tryd.pinned (.plain (OpenSpec.ofChange fnDotReadsSpec)) fnDotReadsCard

/-- THE TIED CARD OF 'laws.FnDotCut'. -/
def fnDotCutCard : Claim7 := { stood := { row := fnDotCutRow, standIns := [], harness := (true, "04f956d29fd4841f39ff4b74649ab107815f83d14cf15e601a55942e333ed0b3"), looks := true }, kinds := [], alts := [], laidByText := true, laidKinds := [.sentinel, .sentinel, .sentinel, .sentinel, .sentinel], laidTests := true, laidLooks := .later }
def FnDotCutCardSaid : Prop := Claim7.holds Tryd.pinned (.plain (OpenSpec.ofChange fnDotCutSpec)) fnDotCutCard

/-- THE TIED CARD OF 'laws.FnExactDot'. -/
def fnExactDotCard : Claim7 := { stood := { row := fnExactDotRow, standIns := [], harness := (true, "04f956d29fd4841f39ff4b74649ab107815f83d14cf15e601a55942e333ed0b3"), looks := true }, kinds := [], alts := [], laidByText := true, laidKinds := [.sentinel, .sentinel, .sentinel, .sentinel, .sentinel], laidTests := true, laidLooks := .later }
def FnExactDotCardSaid : Prop := Claim7.holds Tryd.pinned (.plain (OpenSpec.ofChange fnExactDotSpec)) fnExactDotCard

/-- THE TIED CARD OF 'laws.FnExactLines'. -/
def fnExactLinesCard : Claim7 := { stood := { row := fnExactLinesRow, standIns := [], harness := (true, "04f956d29fd4841f39ff4b74649ab107815f83d14cf15e601a55942e333ed0b3"), looks := true }, kinds := [], alts := [], laidByText := true, laidKinds := [.sentinel, .sentinel, .sentinel, .sentinel, .sentinel, .sentinel, .sentinel], laidTests := true, laidLooks := .later }
def FnExactLinesCardSaid : Prop := Claim7.holds Tryd.pinned (.plain (OpenSpec.ofChange fnExactLinesSpec)) fnExactLinesCard

/-- THE TIED CARD OF 'laws.FnSlowLines'. -/
def fnSlowLinesCard : Claim7 := { stood := { row := fnSlowLinesRow, standIns := [], harness := (true, "04f956d29fd4841f39ff4b74649ab107815f83d14cf15e601a55942e333ed0b3"), looks := true }, kinds := [], alts := [], laidByText := true, laidKinds := [.sentinel, .sentinel, .sentinel, .sentinel, .sentinel, .sentinel, .sentinel], laidTests := true, laidLooks := .later }
def FnSlowLinesCardSaid : Prop := Claim7.holds Tryd.pinned (.plain (OpenSpec.ofChange fnSlowLinesSpec)) fnSlowLinesCard

/-- THE TIED CARD OF 'laws.FnExactDotLines'. -/
def fnExactDotLinesCard : Claim7 := { stood := { row := fnExactDotLinesRow, standIns := [], harness := (true, "04f956d29fd4841f39ff4b74649ab107815f83d14cf15e601a55942e333ed0b3"), looks := true }, kinds := [], alts := [], laidByText := true, laidKinds := [.sentinel, .sentinel, .sentinel, .sentinel, .sentinel, .sentinel, .sentinel], laidTests := true, laidLooks := .later }
def FnExactDotLinesCardSaid : Prop := Claim7.holds Tryd.pinned (.plain (OpenSpec.ofChange fnExactDotLinesSpec)) fnExactDotLinesCard

/-- THE TIED CARD OF 'laws.FnExactContinued'. -/
def fnExactContinuedCard : Claim7 := { stood := { row := fnExactContinuedRow, standIns := [], harness := (true, "04f956d29fd4841f39ff4b74649ab107815f83d14cf15e601a55942e333ed0b3"), looks := true }, kinds := [], alts := [], laidByText := true, laidKinds := [.sentinel, .sentinel, .sentinel, .sentinel, .sentinel, .sentinel, .sentinel, .sentinel], laidTests := true, laidLooks := .later }
def FnExactContinuedCardSaid : Prop := Claim7.holds Tryd.pinned (.plain (OpenSpec.ofChange fnExactContinuedSpec)) fnExactContinuedCard

/-- THE TIED CARD OF 'laws.FnDotBoth'. -/
def fnDotBothCard : Claim7 := { stood := { row := fnDotBothRow, standIns := [], harness := (true, "04f956d29fd4841f39ff4b74649ab107815f83d14cf15e601a55942e333ed0b3"), looks := true }, kinds := [], alts := [], laidByText := true, laidKinds := [.sentinel, .sentinel, .sentinel, .sentinel, .sentinel, .sentinel, .sentinel], laidTests := true, laidLooks := .later }
def FnDotBothCardSaid : Prop := Claim7.holds Tryd.pinned (.plain (OpenSpec.ofChange fnDotBothSpec)) fnDotBothCard

/-- THE TIED CARD OF 'laws.FnDotRound'. -/
def fnDotRoundCard : Claim7 := { stood := { row := fnDotRoundRow, standIns := [], harness := (true, "04f956d29fd4841f39ff4b74649ab107815f83d14cf15e601a55942e333ed0b3"), looks := true }, kinds := [], alts := [], laidByText := true, laidKinds := [.sentinel, .sentinel, .sentinel, .sentinel, .sentinel, .sentinel], laidTests := true, laidLooks := .later }
def FnDotRoundCardSaid : Prop := Claim7.holds Tryd.pinned (.plain (OpenSpec.ofChange fnDotRoundSpec)) fnDotRoundCard

/-- THE SECOND FORM's CARD OF 'laws.FnDotPieces'. -/
def fnDotPiecesUptoCard : Claim7 := { stood := { row := fnDotPiecesUptoRow, standIns := [], harness := (true, "04f956d29fd4841f39ff4b74649ab107815f83d14cf15e601a55942e333ed0b3"), looks := true }, kinds := [], alts := [], laidByText := true, laidKinds := [.sentinel], laidTests := true, laidLooks := .later }
def FnDotPiecesUptoCardSaid : Prop := Claim7.holds Tryd.pinned (.plain (OpenSpec.upto fnDotPiecesSpec)) fnDotPiecesUptoCard

/-- THE SECOND FORM's CARD OF 'laws.FnExactDotWrite'. -/
def fnExactDotWriteUptoCard : Claim7 := { stood := { row := fnExactDotWriteUptoRow, standIns := [], harness := (true, "04f956d29fd4841f39ff4b74649ab107815f83d14cf15e601a55942e333ed0b3"), looks := true }, kinds := [], alts := [], laidByText := true, laidKinds := [.sentinel], laidTests := true, laidLooks := .later }
def FnExactDotWriteUptoCardSaid : Prop := Claim7.holds Tryd.pinned (.plain (OpenSpec.upto fnExactDotWriteSpec)) fnExactDotWriteUptoCard

/-- THE SECOND FORM's CARD OF 'laws.FnDotReads'. -/
def fnDotReadsUptoCard : Claim7 := { stood := { row := fnDotReadsUptoRow, standIns := [], harness := (true, "04f956d29fd4841f39ff4b74649ab107815f83d14cf15e601a55942e333ed0b3"), looks := true }, kinds := [], alts := [], laidByText := true, laidKinds := [.sentinel, .sentinel, .sentinel, .sentinel, .sentinel], laidTests := true, laidLooks := .later }
def FnDotReadsUptoCardSaid : Prop := Claim7.holds Tryd.pinned (.plain (OpenSpec.upto fnDotReadsSpec)) fnDotReadsUptoCard

/-- THE SECOND FORM's CARD OF 'laws.FnDotCut'. -/
def fnDotCutUptoCard : Claim7 := { stood := { row := fnDotCutUptoRow, standIns := [], harness := (true, "04f956d29fd4841f39ff4b74649ab107815f83d14cf15e601a55942e333ed0b3"), looks := true }, kinds := [], alts := [], laidByText := true, laidKinds := [.sentinel, .sentinel, .sentinel, .sentinel, .sentinel], laidTests := true, laidLooks := .later }
def FnDotCutUptoCardSaid : Prop := Claim7.holds Tryd.pinned (.plain (OpenSpec.upto fnDotCutSpec)) fnDotCutUptoCard

/-- THE SECOND FORM's CARD OF 'laws.FnExactDot'. -/
def fnExactDotUptoCard : Claim7 := { stood := { row := fnExactDotUptoRow, standIns := [], harness := (true, "04f956d29fd4841f39ff4b74649ab107815f83d14cf15e601a55942e333ed0b3"), looks := true }, kinds := [], alts := [], laidByText := true, laidKinds := [.sentinel, .sentinel, .sentinel, .sentinel, .sentinel], laidTests := true, laidLooks := .later }
def FnExactDotUptoCardSaid : Prop := Claim7.holds Tryd.pinned (.plain (OpenSpec.upto fnExactDotSpec)) fnExactDotUptoCard

/-- THE SECOND FORM's CARD OF 'laws.FnExactLines'. -/
def fnExactLinesUptoCard : Claim7 := { stood := { row := fnExactLinesUptoRow, standIns := [], harness := (true, "04f956d29fd4841f39ff4b74649ab107815f83d14cf15e601a55942e333ed0b3"), looks := true }, kinds := [], alts := [], laidByText := true, laidKinds := [.sentinel, .sentinel, .sentinel, .sentinel, .sentinel, .sentinel, .sentinel], laidTests := true, laidLooks := .later }
def FnExactLinesUptoCardSaid : Prop := Claim7.holds Tryd.pinned (.plain (OpenSpec.upto fnExactLinesSpec)) fnExactLinesUptoCard

/-- THE SECOND FORM's CARD OF 'laws.FnSlowLines'. -/
def fnSlowLinesUptoCard : Claim7 := { stood := { row := fnSlowLinesUptoRow, standIns := [], harness := (true, "04f956d29fd4841f39ff4b74649ab107815f83d14cf15e601a55942e333ed0b3"), looks := true }, kinds := [], alts := [], laidByText := true, laidKinds := [.sentinel, .sentinel, .sentinel, .sentinel, .sentinel, .sentinel, .sentinel], laidTests := true, laidLooks := .later }
def FnSlowLinesUptoCardSaid : Prop := Claim7.holds Tryd.pinned (.plain (OpenSpec.upto fnSlowLinesSpec)) fnSlowLinesUptoCard

/-- THE SECOND FORM's CARD OF 'laws.FnExactDotLines'. -/
def fnExactDotLinesUptoCard : Claim7 := { stood := { row := fnExactDotLinesUptoRow, standIns := [], harness := (true, "04f956d29fd4841f39ff4b74649ab107815f83d14cf15e601a55942e333ed0b3"), looks := true }, kinds := [], alts := [], laidByText := true, laidKinds := [.sentinel, .sentinel, .sentinel, .sentinel, .sentinel, .sentinel, .sentinel], laidTests := true, laidLooks := .later }
def FnExactDotLinesUptoCardSaid : Prop := Claim7.holds Tryd.pinned (.plain (OpenSpec.upto fnExactDotLinesSpec)) fnExactDotLinesUptoCard

/-- THE SECOND FORM's CARD OF 'laws.FnExactContinued'. -/
def fnExactContinuedUptoCard : Claim7 := { stood := { row := fnExactContinuedUptoRow, standIns := [], harness := (true, "04f956d29fd4841f39ff4b74649ab107815f83d14cf15e601a55942e333ed0b3"), looks := true }, kinds := [], alts := [], laidByText := true, laidKinds := [.sentinel, .sentinel, .sentinel, .sentinel, .sentinel, .sentinel, .sentinel, .sentinel], laidTests := true, laidLooks := .later }
def FnExactContinuedUptoCardSaid : Prop := Claim7.holds Tryd.pinned (.plain (OpenSpec.upto fnExactContinuedSpec)) fnExactContinuedUptoCard

/-- THE SECOND FORM's CARD OF 'laws.FnDotBoth'. -/
def fnDotBothUptoCard : Claim7 := { stood := { row := fnDotBothUptoRow, standIns := [], harness := (true, "04f956d29fd4841f39ff4b74649ab107815f83d14cf15e601a55942e333ed0b3"), looks := true }, kinds := [], alts := [], laidByText := true, laidKinds := [.sentinel, .sentinel, .sentinel, .sentinel, .sentinel, .sentinel, .sentinel], laidTests := true, laidLooks := .later }
def FnDotBothUptoCardSaid : Prop := Claim7.holds Tryd.pinned (.plain (OpenSpec.upto fnDotBothSpec)) fnDotBothUptoCard

/-- THE SECOND FORM's CARD OF 'laws.FnDotRound'. -/
def fnDotRoundUptoCard : Claim7 := { stood := { row := fnDotRoundUptoRow, standIns := [], harness := (true, "04f956d29fd4841f39ff4b74649ab107815f83d14cf15e601a55942e333ed0b3"), looks := true }, kinds := [], alts := [], laidByText := true, laidKinds := [.sentinel, .sentinel, .sentinel, .sentinel, .sentinel, .sentinel], laidTests := true, laidLooks := .later }
def FnDotRoundUptoCardSaid : Prop := Claim7.holds Tryd.pinned (.plain (OpenSpec.upto fnDotRoundSpec)) fnDotRoundUptoCard
end Rows
end Go.Proofs.YteiiocibldpioaaDoor
