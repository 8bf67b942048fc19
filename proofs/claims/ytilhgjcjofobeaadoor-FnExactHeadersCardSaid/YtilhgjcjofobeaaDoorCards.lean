/-
  DERIVED. GIVEN WITH THE SEED: THE CARDS: each row of YtilhgjcjofobeaaDoorRows.lean that lists a variable, with what it lists TIED to the program's text (the seventh form; the later family's looks); each row that meets fmt, with fmt's text TOLD by the authors' own Lean function (tested against real Go, not proved from fmt's source: count such statements apart). THE CARD IS WHAT COUNTS. Prove the row's statement (the work); the ties are given (YtilhgjcjofobeaaDoorTie.lean); close each card by the builder's one call (the guide's Derived/Test/ToyasCard.lean, 'card_holds'). Laid BY PROGRAM, IN A SANDBOX (cutbox-door.mjs). By AI agents, Wed Nov 11 2026. No macro, syntax, notation, axiom, sorry.
-/
import Derived.Test.YtilhgjcjofobeaaDoorRows
import GoSem.ClaimSeven
namespace Go.Proofs.YtilhgjcjofobeaaDoor
namespace Rows

/-- THE TIED CARD OF 'laws.FnNoColon'. -/
def fnNoColonCard : Claim7 := { stood := { row := fnNoColonRow, standIns := [], harness := (true, "4a53f711eb23b9df3212401abe30d5f0030781d84e89b4e2744b0e77dc4e09d7"), looks := true }, kinds := [], alts := [], laidByText := true, laidKinds := [.data, .sentinel, .sentinel, .sentinel, .sentinel, .sentinel, .sentinel, .sentinel, .sentinel, .pinned], laidTests := true, laidLooks := .later }
def FnNoColonCardSaid : Prop := Claim7.holds Tryd.pinned (.plain (OpenSpec.ofChange fnNoColonSpec)) fnNoColonCard

/-- THE TIED CARD OF 'laws.FnExactHeaders'. -/
def fnExactHeadersCard : Claim7 := { stood := { row := fnExactHeadersRow, standIns := [], harness := (true, "4a53f711eb23b9df3212401abe30d5f0030781d84e89b4e2744b0e77dc4e09d7"), looks := true }, kinds := [], alts := [], laidByText := true, laidKinds := [.data, .sentinel, .sentinel, .sentinel, .sentinel, .sentinel, .sentinel, .sentinel, .sentinel, .pinned], laidTests := true, laidLooks := .later }
def FnExactHeadersCardSaid : Prop := Claim7.holds Tryd.pinned (.plain (OpenSpec.ofChange fnExactHeadersSpec)) fnExactHeadersCard

/-- THE SECOND FORM's CARD OF 'laws.FnNoColon'. -/
def fnNoColonUptoCard : Claim7 := { stood := { row := fnNoColonUptoRow, standIns := [], harness := (true, "4a53f711eb23b9df3212401abe30d5f0030781d84e89b4e2744b0e77dc4e09d7"), looks := true }, kinds := [], alts := [], laidByText := true, laidKinds := [.data, .sentinel, .sentinel, .sentinel, .sentinel, .sentinel, .sentinel, .sentinel, .sentinel, .pinned], laidTests := true, laidLooks := .later }
def FnNoColonUptoCardSaid : Prop := Claim7.holds Tryd.pinned (.plain (OpenSpec.upto fnNoColonSpec)) fnNoColonUptoCard

/-- THE SECOND FORM's CARD OF 'laws.FnExactHeaders'. -/
def fnExactHeadersUptoCard : Claim7 := { stood := { row := fnExactHeadersUptoRow, standIns := [], harness := (true, "4a53f711eb23b9df3212401abe30d5f0030781d84e89b4e2744b0e77dc4e09d7"), looks := true }, kinds := [], alts := [], laidByText := true, laidKinds := [.data, .sentinel, .sentinel, .sentinel, .sentinel, .sentinel, .sentinel, .sentinel, .sentinel, .pinned], laidTests := true, laidLooks := .later }
def FnExactHeadersUptoCardSaid : Prop := Claim7.holds Tryd.pinned (.plain (OpenSpec.upto fnExactHeadersSpec)) fnExactHeadersUptoCard
end Rows
end Go.Proofs.YtilhgjcjofobeaaDoor
