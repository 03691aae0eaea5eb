/-
  DERIVED. GIVEN WITH THE SEED: THE CARDS: each row of YtonndmljendcoaaDoorRows.lean that lists a variable, with what it lists TIED to the program's text (the seventh form; the later family's looks); each row that meets fmt, with fmt's text TOLD by the authors' own Lean function (tested against real Go, not proved from fmt's source: count such statements apart). THE CARD IS WHAT COUNTS. Prove the row's statement (the work); the ties are given (YtonndmljendcoaaDoorTie.lean); close each card by the builder's one call (the guide's Derived/Test/ToyasCard.lean, 'card_holds'). Laid BY PROGRAM, IN A SANDBOX (cutbox-door.mjs). By AI agents, Wed Nov 11 2026. No macro, syntax, notation, axiom, sorry.
-/
import Derived.Test.YtonndmljendcoaaDoorRows
import GoSem.ClaimSeven
namespace Go.Proofs.YtonndmljendcoaaDoor
namespace Rows

/-- THE TIED CARD OF 'laws.FnHashed'. -/
def fnHashedCard : Claim7 := { stood := { row := fnHashedRow, standIns := [], harness := (true, "3d031c1c9ba4f3be07184325bd1b2c353849f34d4567c3acac8e556ec12734b5"), looks := false }, kinds := [], alts := [], laidByText := true, laidKinds := [.data], laidTests := true, laidLooks := .later }
def FnHashedCardSaid : Prop := Claim7.holds Tryd.pinned (.plain (OpenSpec.ofChange fnHashedSpec)) fnHashedCard

/-- THE TIED CARD OF 'laws.FnHashedBy'. -/
def fnHashedByCard : Claim7 := { stood := { row := fnHashedByRow, standIns := [], harness := (true, "3d031c1c9ba4f3be07184325bd1b2c353849f34d4567c3acac8e556ec12734b5"), looks := false }, kinds := [], alts := [], laidByText := true, laidKinds := [.data], laidTests := true, laidLooks := .later }
def FnHashedByCardSaid : Prop := Claim7.holds Tryd.pinned (.plain (OpenSpec.ofChange fnHashedBySpec)) fnHashedByCard

/-- THE SECOND FORM's CARD OF 'laws.FnHashed'. -/
def fnHashedUptoCard : Claim7 := { stood := { row := fnHashedUptoRow, standIns := [], harness := (true, "3d031c1c9ba4f3be07184325bd1b2c353849f34d4567c3acac8e556ec12734b5"), looks := false }, kinds := [], alts := [], laidByText := true, laidKinds := [.data], laidTests := true, laidLooks := .later }
def FnHashedUptoCardSaid : Prop := Claim7.holds Tryd.pinned (.plain (OpenSpec.upto fnHashedSpec)) fnHashedUptoCard

/-- THE SECOND FORM's CARD OF 'laws.FnHashedBy'. -/
def fnHashedByUptoCard : Claim7 := { stood := { row := fnHashedByUptoRow, standIns := [], harness := (true, "3d031c1c9ba4f3be07184325bd1b2c353849f34d4567c3acac8e556ec12734b5"), looks := false }, kinds := [], alts := [], laidByText := true, laidKinds := [.data], laidTests := true, laidLooks := .later }
def FnHashedByUptoCardSaid : Prop := Claim7.holds Tryd.pinned (.plain (OpenSpec.upto fnHashedBySpec)) fnHashedByUptoCard
end Rows
end Go.Proofs.YtonndmljendcoaaDoor
