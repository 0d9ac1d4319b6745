/-
  DERIVED. GIVEN WITH THE SEED: THE CARDS: each row of YtlimibjmccbdlaaGreatDoorRows.lean that lists a variable, with what it lists TIED to the program's text (the seventh form; the later family's looks); each row that meets fmt, with fmt's text TOLD by the authors' own Lean function (tested against real Go, not proved from fmt's source: count such statements apart). THE CARD IS WHAT COUNTS. Prove the row's statement (the work); the ties are given (YtlimibjmccbdlaaGreatDoorTie.lean); close each card by the builder's one call (the guide's Derived/Test/ToyasCard.lean, 'card_holds'). Laid BY PROGRAM, IN A SANDBOX (cutbox-door.mjs). By AI agents, Wed Nov 11 2026. No macro, syntax, notation, axiom, sorry.
-/
import Derived.Test.YtlimibjmccbdlaaGreatDoorRows
import GoSem.ClaimSeven
namespace Go.Proofs.YtlimibjmccbdlaaGreatDoor
namespace Rows

/-- THE TIED CARD OF 'laws.FnExactGauged'. -/
def fnExactGaugedCard : Claim7 := { stood := { row := fnExactGaugedRow, standIns := [], harness := (true, "24d6af14232728e3103b3fbf5edc2615ee449fc428656375c12f62cbb80ede50"), looks := true }, kinds := [], alts := [], laidByText := true, laidKinds := [.data, .data, .data], laidTests := true, laidLooks := .later }
def FnExactGaugedCardSaid : Prop := Claim7.holds Tryz.pinned (.plain (OpenSpec.ofChange fnExactGaugedSpec)) fnExactGaugedCard

/-- THE SECOND FORM's CARD OF 'laws.FnExactGauged'. -/
def fnExactGaugedUptoCard : Claim7 := { stood := { row := fnExactGaugedUptoRow, standIns := [], harness := (true, "24d6af14232728e3103b3fbf5edc2615ee449fc428656375c12f62cbb80ede50"), looks := true }, kinds := [], alts := [], laidByText := true, laidKinds := [.data, .data, .data], laidTests := true, laidLooks := .later }
def FnExactGaugedUptoCardSaid : Prop := Claim7.holds Tryz.pinned (.plain (OpenSpec.upto fnExactGaugedSpec)) fnExactGaugedUptoCard
end Rows
end Go.Proofs.YtlimibjmccbdlaaGreatDoor
