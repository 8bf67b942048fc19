/-
  DERIVED. GIVEN WITH THE SEED: THE CARDS: each row of YtfnkkjehkegpgaaDoorRows.lean that lists a variable, with what it lists TIED to the program's text (the seventh form; the later family's looks); each row that meets fmt, with fmt's text TOLD by the authors' own Lean function (tested against real Go, not proved from fmt's source: count such statements apart). THE CARD IS WHAT COUNTS. Prove the row's statement (the work); the ties are given (YtfnkkjehkegpgaaDoorTie.lean); close each card by the builder's one call (the guide's Derived/Test/ToyasCard.lean, 'card_holds'). Laid BY PROGRAM, IN A SANDBOX (cutbox-door.mjs). By AI agents, Wed Nov 11 2026. No macro, syntax, notation, axiom, sorry.
-/
import Derived.Test.YtfnkkjehkegpgaaDoorRows
import GoSem.ClaimSeven
namespace Go.Proofs.YtfnkkjehkegpgaaDoor
namespace Rows

/-- THE TIED CARD OF 'laws.FnExactResponse'. -/
def fnExactResponseCard : Claim7 := { stood := { row := fnExactResponseRow, standIns := [], harness := (true, "7fe5def02579b12b060a3f7d254f480549912e3247358f39fbfe293751df09a3"), looks := true }, kinds := [], alts := [], laidByText := true, laidKinds := [.data, .data, .data, .sentinel, .sentinel, .sentinel, .sentinel, .sentinel, .sentinel, .sentinel, .sentinel, .sentinel], laidTests := true, laidLooks := .later }
def FnExactResponseCardSaid : Prop := Claim7.holds Tryd.pinned (.plain (OpenSpec.ofChange fnExactResponseSpec)) fnExactResponseCard

/-- THE TIED CARD OF 'laws.FnBadCode'. -/
def fnBadCodeCard : Claim7 := { stood := { row := fnBadCodeRow, standIns := [], harness := (true, "7fe5def02579b12b060a3f7d254f480549912e3247358f39fbfe293751df09a3"), looks := true }, kinds := [], alts := [], laidByText := true, laidKinds := [.data, .data, .data, .sentinel, .sentinel, .sentinel, .sentinel], laidTests := true, laidLooks := .later }
def FnBadCodeCardSaid : Prop := Claim7.holds Tryd.pinned (.plain (OpenSpec.ofChange fnBadCodeSpec)) fnBadCodeCard

/-- THE TIED CARD OF 'laws.FnExactCode'. -/
def fnExactCodeCard : Claim7 := { stood := { row := fnExactCodeRow, standIns := [], harness := (true, "7fe5def02579b12b060a3f7d254f480549912e3247358f39fbfe293751df09a3"), looks := true }, kinds := [], alts := [], laidByText := true, laidKinds := [.data, .data, .data, .sentinel, .sentinel, .sentinel, .sentinel], laidTests := true, laidLooks := .later }
def FnExactCodeCardSaid : Prop := Claim7.holds Tryd.pinned (.plain (OpenSpec.ofChange fnExactCodeSpec)) fnExactCodeCard

/-- THE TIED CARD OF 'laws.FnExactCodeLine'. -/
def fnExactCodeLineCard : Claim7 := { stood := { row := fnExactCodeLineRow, standIns := [], harness := (true, "7fe5def02579b12b060a3f7d254f480549912e3247358f39fbfe293751df09a3"), looks := true }, kinds := [], alts := [], laidByText := true, laidKinds := [.data, .data, .data, .sentinel, .sentinel, .sentinel, .sentinel, .sentinel, .sentinel, .sentinel, .sentinel, .sentinel], laidTests := true, laidLooks := .later }
def FnExactCodeLineCardSaid : Prop := Claim7.holds Tryd.pinned (.plain (OpenSpec.ofChange fnExactCodeLineSpec)) fnExactCodeLineCard

/-- THE TIED CARD OF 'laws.FnMany'. -/
def fnManyCard : Claim7 := { stood := { row := fnManyRow, standIns := [], harness := (true, "7fe5def02579b12b060a3f7d254f480549912e3247358f39fbfe293751df09a3"), looks := true }, kinds := [], alts := [], laidByText := true, laidKinds := [.data, .data, .data, .sentinel, .sentinel, .sentinel, .sentinel, .sentinel, .sentinel, .sentinel, .sentinel, .sentinel], laidTests := true, laidLooks := .later }
def FnManyCardSaid : Prop := Claim7.holds Tryd.pinned (.plain (OpenSpec.ofChange fnManySpec)) fnManyCard

/-- THE SECOND FORM's CARD OF 'laws.FnExactResponse'. -/
def fnExactResponseUptoCard : Claim7 := { stood := { row := fnExactResponseUptoRow, standIns := [], harness := (true, "7fe5def02579b12b060a3f7d254f480549912e3247358f39fbfe293751df09a3"), looks := true }, kinds := [], alts := [], laidByText := true, laidKinds := [.data, .data, .data, .sentinel, .sentinel, .sentinel, .sentinel, .sentinel, .sentinel, .sentinel, .sentinel, .sentinel], laidTests := true, laidLooks := .later }
def FnExactResponseUptoCardSaid : Prop := Claim7.holds Tryd.pinned (.plain (OpenSpec.upto fnExactResponseSpec)) fnExactResponseUptoCard

/-- THE SECOND FORM's CARD OF 'laws.FnBadCode'. -/
def fnBadCodeUptoCard : Claim7 := { stood := { row := fnBadCodeUptoRow, standIns := [], harness := (true, "7fe5def02579b12b060a3f7d254f480549912e3247358f39fbfe293751df09a3"), looks := true }, kinds := [], alts := [], laidByText := true, laidKinds := [.data, .data, .data, .sentinel, .sentinel, .sentinel, .sentinel], laidTests := true, laidLooks := .later }
def FnBadCodeUptoCardSaid : Prop := Claim7.holds Tryd.pinned (.plain (OpenSpec.upto fnBadCodeSpec)) fnBadCodeUptoCard

/-- THE SECOND FORM's CARD OF 'laws.FnExactCode'. -/
def fnExactCodeUptoCard : Claim7 := { stood := { row := fnExactCodeUptoRow, standIns := [], harness := (true, "7fe5def02579b12b060a3f7d254f480549912e3247358f39fbfe293751df09a3"), looks := true }, kinds := [], alts := [], laidByText := true, laidKinds := [.data, .data, .data, .sentinel, .sentinel, .sentinel, .sentinel], laidTests := true, laidLooks := .later }
def FnExactCodeUptoCardSaid : Prop := Claim7.holds Tryd.pinned (.plain (OpenSpec.upto fnExactCodeSpec)) fnExactCodeUptoCard

/-- THE SECOND FORM's CARD OF 'laws.FnExactCodeLine'. -/
def fnExactCodeLineUptoCard : Claim7 := { stood := { row := fnExactCodeLineUptoRow, standIns := [], harness := (true, "7fe5def02579b12b060a3f7d254f480549912e3247358f39fbfe293751df09a3"), looks := true }, kinds := [], alts := [], laidByText := true, laidKinds := [.data, .data, .data, .sentinel, .sentinel, .sentinel, .sentinel, .sentinel, .sentinel, .sentinel, .sentinel, .sentinel], laidTests := true, laidLooks := .later }
def FnExactCodeLineUptoCardSaid : Prop := Claim7.holds Tryd.pinned (.plain (OpenSpec.upto fnExactCodeLineSpec)) fnExactCodeLineUptoCard

/-- THE SECOND FORM's CARD OF 'laws.FnMany'. -/
def fnManyUptoCard : Claim7 := { stood := { row := fnManyUptoRow, standIns := [], harness := (true, "7fe5def02579b12b060a3f7d254f480549912e3247358f39fbfe293751df09a3"), looks := true }, kinds := [], alts := [], laidByText := true, laidKinds := [.data, .data, .data, .sentinel, .sentinel, .sentinel, .sentinel, .sentinel, .sentinel, .sentinel, .sentinel, .sentinel], laidTests := true, laidLooks := .later }
def FnManyUptoCardSaid : Prop := Claim7.holds Tryd.pinned (.plain (OpenSpec.upto fnManySpec)) fnManyUptoCard
end Rows
end Go.Proofs.YtfnkkjehkegpgaaDoor
