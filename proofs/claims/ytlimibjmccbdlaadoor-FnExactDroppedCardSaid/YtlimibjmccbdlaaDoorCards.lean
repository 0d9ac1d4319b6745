/-
  DERIVED. GIVEN WITH THE SEED: THE CARDS: each row of YtlimibjmccbdlaaDoorRows.lean that lists a variable, with what it lists TIED to the program's text (the seventh form; the later family's looks); each row that meets fmt, with fmt's text TOLD by the authors' own Lean function (tested against real Go, not proved from fmt's source: count such statements apart). THE CARD IS WHAT COUNTS. Prove the row's statement (the work); the ties are given (YtlimibjmccbdlaaDoorTie.lean); close each card by the builder's one call (the guide's Derived/Test/ToyasCard.lean, 'card_holds'). Laid BY PROGRAM, IN A SANDBOX (cutbox-door.mjs). By AI agents, Wed Nov 11 2026. No macro, syntax, notation, axiom, sorry.
-/
import Derived.Test.YtlimibjmccbdlaaDoorRows
import GoSem.ClaimSeven
namespace Go.Proofs.YtlimibjmccbdlaaDoor
namespace Rows

/-- THE TIED CARD OF 'laws.FnExactLine'. -/
def fnExactLineCard : Claim7 := { stood := { row := fnExactLineRow, standIns := [], harness := (true, "df75f41b08279d177e13bebb908e7e342267a1e648032708321c9ff2374654dd"), looks := true }, kinds := [], alts := [], laidByText := true, laidKinds := [.data, .data, .data], laidTests := true, laidLooks := .later }
def FnExactLineCardSaid : Prop := Claim7.holds Tryd.pinned (.plain (OpenSpec.ofChange fnExactLineSpec)) fnExactLineCard

/-- THE TIED CARD OF 'laws.FnExactPage'. -/
def fnExactPageCard : Claim7 := { stood := { row := fnExactPageRow, standIns := [], harness := (true, "df75f41b08279d177e13bebb908e7e342267a1e648032708321c9ff2374654dd"), looks := true }, kinds := [], alts := [], laidByText := true, laidKinds := [.data, .data, .data], laidTests := true, laidLooks := .later }
def FnExactPageCardSaid : Prop := Claim7.holds Tryd.pinned (.plain (OpenSpec.ofChange fnExactPageSpec)) fnExactPageCard

/-- THE TIED CARD OF 'laws.FnExactListed'. -/
def fnExactListedCard : Claim7 := { stood := { row := fnExactListedRow, standIns := [], harness := (true, "df75f41b08279d177e13bebb908e7e342267a1e648032708321c9ff2374654dd"), looks := true }, kinds := [], alts := [], laidByText := true, laidKinds := [.data, .data, .data], laidTests := true, laidLooks := .later }
def FnExactListedCardSaid : Prop := Claim7.holds Tryd.pinned (.plain (OpenSpec.ofChange fnExactListedSpec)) fnExactListedCard

/-- THE TIED CARD OF 'laws.FnExactDropped'. -/
def fnExactDroppedCard : Claim7 := { stood := { row := fnExactDroppedRow, standIns := [], harness := (true, "df75f41b08279d177e13bebb908e7e342267a1e648032708321c9ff2374654dd"), looks := true }, kinds := [], alts := [], laidByText := true, laidKinds := [.data, .data, .data], laidTests := true, laidLooks := .later }
def FnExactDroppedCardSaid : Prop := Claim7.holds Tryd.pinned (.plain (OpenSpec.ofChange fnExactDroppedSpec)) fnExactDroppedCard

/-- THE SECOND FORM's CARD OF 'laws.FnExactLine'. -/
def fnExactLineUptoCard : Claim7 := { stood := { row := fnExactLineUptoRow, standIns := [], harness := (true, "df75f41b08279d177e13bebb908e7e342267a1e648032708321c9ff2374654dd"), looks := true }, kinds := [], alts := [], laidByText := true, laidKinds := [.data, .data, .data], laidTests := true, laidLooks := .later }
def FnExactLineUptoCardSaid : Prop := Claim7.holds Tryd.pinned (.plain (OpenSpec.upto fnExactLineSpec)) fnExactLineUptoCard

/-- THE SECOND FORM's CARD OF 'laws.FnExactPage'. -/
def fnExactPageUptoCard : Claim7 := { stood := { row := fnExactPageUptoRow, standIns := [], harness := (true, "df75f41b08279d177e13bebb908e7e342267a1e648032708321c9ff2374654dd"), looks := true }, kinds := [], alts := [], laidByText := true, laidKinds := [.data, .data, .data], laidTests := true, laidLooks := .later }
def FnExactPageUptoCardSaid : Prop := Claim7.holds Tryd.pinned (.plain (OpenSpec.upto fnExactPageSpec)) fnExactPageUptoCard

/-- THE SECOND FORM's CARD OF 'laws.FnExactListed'. -/
def fnExactListedUptoCard : Claim7 := { stood := { row := fnExactListedUptoRow, standIns := [], harness := (true, "df75f41b08279d177e13bebb908e7e342267a1e648032708321c9ff2374654dd"), looks := true }, kinds := [], alts := [], laidByText := true, laidKinds := [.data, .data, .data], laidTests := true, laidLooks := .later }
def FnExactListedUptoCardSaid : Prop := Claim7.holds Tryd.pinned (.plain (OpenSpec.upto fnExactListedSpec)) fnExactListedUptoCard

/-- THE SECOND FORM's CARD OF 'laws.FnExactDropped'. -/
def fnExactDroppedUptoCard : Claim7 := { stood := { row := fnExactDroppedUptoRow, standIns := [], harness := (true, "df75f41b08279d177e13bebb908e7e342267a1e648032708321c9ff2374654dd"), looks := true }, kinds := [], alts := [], laidByText := true, laidKinds := [.data, .data, .data], laidTests := true, laidLooks := .later }
def FnExactDroppedUptoCardSaid : Prop := Claim7.holds Tryd.pinned (.plain (OpenSpec.upto fnExactDroppedSpec)) fnExactDroppedUptoCard
end Rows
end Go.Proofs.YtlimibjmccbdlaaDoor
