/-
  DERIVED. GIVEN WITH THE SEED: THE CARDS: each row of YtnmielbjdadggaaDoorRows.lean that lists a variable, with what it lists TIED to the program's text (the seventh form; the later family's looks); each row that meets fmt, with fmt's text TOLD by the authors' own Lean function (tested against real Go, not proved from fmt's source: count such statements apart). THE CARD IS WHAT COUNTS. Prove the row's statement (the work); the ties are given (YtnmielbjdadggaaDoorTie.lean); close each card by the builder's one call (the guide's Derived/Test/ToyasCard.lean, 'card_holds'). Laid BY PROGRAM, IN A SANDBOX (cutbox-door.mjs). By AI agents, Wed Nov 11 2026. No macro, syntax, notation, axiom, sorry.
-/
import Derived.Test.YtnmielbjdadggaaDoorRows
import GoSem.ClaimSeven
namespace Go.Proofs.YtnmielbjdadggaaDoor
namespace Rows

/-- THE TIED CARD OF 'laws.FnAdvanced'. -/
def fnAdvancedCard : Claim7 := { stood := { row := fnAdvancedRow, standIns := [], harness := (true, "127119fa0b08cc80097585b09995a3f8c37a484879884d30b3281037ea992269"), looks := false }, kinds := [], alts := [], laidByText := true, laidKinds := [.data, .pinned], laidTests := true, laidLooks := .later }
def FnAdvancedCardSaid : Prop := Claim7.holds Tryd.pinned (.plain (OpenSpec.ofChange fnAdvancedSpec)) fnAdvancedCard

/-- THE SECOND FORM's CARD OF 'laws.FnAdvanced'. -/
def fnAdvancedUptoCard : Claim7 := { stood := { row := fnAdvancedUptoRow, standIns := [], harness := (true, "127119fa0b08cc80097585b09995a3f8c37a484879884d30b3281037ea992269"), looks := false }, kinds := [], alts := [], laidByText := true, laidKinds := [.data, .pinned], laidTests := true, laidLooks := .later }
def FnAdvancedUptoCardSaid : Prop := Claim7.holds Tryd.pinned (.plain (OpenSpec.upto fnAdvancedSpec)) fnAdvancedUptoCard
end Rows
end Go.Proofs.YtnmielbjdadggaaDoor
