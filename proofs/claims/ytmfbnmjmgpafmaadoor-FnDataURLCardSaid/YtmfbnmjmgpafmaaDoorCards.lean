/-
  DERIVED. GIVEN WITH THE SEED: THE CARDS: each row of YtmfbnmjmgpafmaaDoorRows.lean that lists a variable, with what it lists TIED to the program's text (the seventh form; the later family's looks); each row that meets fmt, with fmt's text TOLD by the authors' own Lean function (tested against real Go, not proved from fmt's source: count such statements apart). THE CARD IS WHAT COUNTS. Prove the row's statement (the work); the ties are given (YtmfbnmjmgpafmaaDoorTie.lean); close each card by the builder's one call (the guide's Derived/Test/ToyasCard.lean, 'card_holds'). Laid BY PROGRAM, IN A SANDBOX (cutbox-door.mjs). By AI agents, Wed Nov 11 2026. No macro, syntax, notation, axiom, sorry.
-/
import Derived.Test.YtmfbnmjmgpafmaaDoorRows
import GoSem.ClaimSeven
namespace Go.Proofs.YtmfbnmjmgpafmaaDoor
namespace Rows

/-- THE TIED CARD OF 'laws.FnDataURL'. -/
def fnDataURLCard : Claim7 := { stood := { row := fnDataURLRow, standIns := [], harness := (true, "71638a39e6b2c2ad1988cc928f92627eecc3325d3ab3ee51edd773304afb761c"), looks := true }, kinds := [], alts := [], laidByText := true, laidKinds := [.data, .data, .pinned], laidTests := true, laidLooks := .later }
def FnDataURLCardSaid : Prop := Claim7.holds Tryd.pinned (.plain (OpenSpec.ofChange fnDataURLSpec)) fnDataURLCard

/-- THE SECOND FORM's CARD OF 'laws.FnDataURL'. -/
def fnDataURLUptoCard : Claim7 := { stood := { row := fnDataURLUptoRow, standIns := [], harness := (true, "71638a39e6b2c2ad1988cc928f92627eecc3325d3ab3ee51edd773304afb761c"), looks := true }, kinds := [], alts := [], laidByText := true, laidKinds := [.data, .data, .pinned], laidTests := true, laidLooks := .later }
def FnDataURLUptoCardSaid : Prop := Claim7.holds Tryd.pinned (.plain (OpenSpec.upto fnDataURLSpec)) fnDataURLUptoCard
end Rows
end Go.Proofs.YtmfbnmjmgpafmaaDoor
