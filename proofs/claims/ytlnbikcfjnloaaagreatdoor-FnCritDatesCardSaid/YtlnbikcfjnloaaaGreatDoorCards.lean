/-
  DERIVED. GIVEN WITH THE SEED: THE CARDS: each row of YtlnbikcfjnloaaaGreatDoorRows.lean that lists a variable, with what it lists TIED to the program's text (the seventh form; the later family's looks); each row that meets fmt, with fmt's text TOLD by the authors' own Lean function (tested against real Go, not proved from fmt's source: count such statements apart). THE CARD IS WHAT COUNTS. Prove the row's statement (the work); the ties are given (YtlnbikcfjnloaaaGreatDoorTie.lean); close each card by the builder's one call (the guide's Derived/Test/ToyasCard.lean, 'card_holds'). Laid BY PROGRAM, IN A SANDBOX (cutbox-door.mjs). By AI agents, Wed Nov 11 2026. No macro, syntax, notation, axiom, sorry.
-/
import Derived.Test.YtlnbikcfjnloaaaGreatDoorRows
import GoSem.ClaimSeven
namespace Go.Proofs.YtlnbikcfjnloaaaGreatDoor
namespace Rows

/-- THE TIED CARD OF 'laws.FnCritDates'. -/
def fnCritDatesCard : Claim7 := { stood := { row := fnCritDatesRow, standIns := [], harness := (true, "9cb34e2d158fe19da0989c992579ee2a25a626d4ed7f3c4426f00a6014c1466c"), looks := true }, kinds := [], alts := [], laidByText := true, laidKinds := [.data, .data, .data, .data, .sentinel, .sentinel, .sentinel, .sentinel, .sentinel, .data, .data, .sentinel, .data, .pinned, .pinned], laidTests := true, laidLooks := .later }
def FnCritDatesCardSaid : Prop := Claim7.holds Tryz.pinned (.plain (OpenSpec.ofChange fnCritDatesSpec)) fnCritDatesCard

/-- THE TIED CARD OF 'laws.FnCritSizes'. -/
def fnCritSizesCard : Claim7 := { stood := { row := fnCritSizesRow, standIns := [], harness := (true, "9cb34e2d158fe19da0989c992579ee2a25a626d4ed7f3c4426f00a6014c1466c"), looks := true }, kinds := [], alts := [], laidByText := true, laidKinds := [.data, .data, .data, .data, .sentinel, .sentinel, .sentinel, .sentinel, .sentinel, .data, .data, .sentinel, .data, .pinned, .pinned], laidTests := true, laidLooks := .later }
def FnCritSizesCardSaid : Prop := Claim7.holds Tryz.pinned (.plain (OpenSpec.ofChange fnCritSizesSpec)) fnCritSizesCard

/-- THE SECOND FORM's CARD OF 'laws.FnCritDates'. -/
def fnCritDatesUptoCard : Claim7 := { stood := { row := fnCritDatesUptoRow, standIns := [], harness := (true, "9cb34e2d158fe19da0989c992579ee2a25a626d4ed7f3c4426f00a6014c1466c"), looks := true }, kinds := [], alts := [], laidByText := true, laidKinds := [.data, .data, .data, .data, .sentinel, .sentinel, .sentinel, .sentinel, .sentinel, .data, .data, .sentinel, .data, .pinned, .pinned], laidTests := true, laidLooks := .later }
def FnCritDatesUptoCardSaid : Prop := Claim7.holds Tryz.pinned (.plain (OpenSpec.upto fnCritDatesSpec)) fnCritDatesUptoCard

/-- THE SECOND FORM's CARD OF 'laws.FnCritSizes'. -/
def fnCritSizesUptoCard : Claim7 := { stood := { row := fnCritSizesUptoRow, standIns := [], harness := (true, "9cb34e2d158fe19da0989c992579ee2a25a626d4ed7f3c4426f00a6014c1466c"), looks := true }, kinds := [], alts := [], laidByText := true, laidKinds := [.data, .data, .data, .data, .sentinel, .sentinel, .sentinel, .sentinel, .sentinel, .data, .data, .sentinel, .data, .pinned, .pinned], laidTests := true, laidLooks := .later }
def FnCritSizesUptoCardSaid : Prop := Claim7.holds Tryz.pinned (.plain (OpenSpec.upto fnCritSizesSpec)) fnCritSizesUptoCard
end Rows
end Go.Proofs.YtlnbikcfjnloaaaGreatDoor
