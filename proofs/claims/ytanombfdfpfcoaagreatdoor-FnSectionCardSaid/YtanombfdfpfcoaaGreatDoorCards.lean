/-
  DERIVED. GIVEN WITH THE SEED: THE CARDS: each row of YtanombfdfpfcoaaGreatDoorRows.lean that lists a variable, with what it lists TIED to the program's text (the seventh form; the later family's looks); each row that meets fmt, with fmt's text TOLD by the authors' own Lean function (tested against real Go, not proved from fmt's source: count such statements apart). THE CARD IS WHAT COUNTS. Prove the row's statement (the work); the ties are given (YtanombfdfpfcoaaGreatDoorTie.lean); close each card by the builder's one call (the guide's Derived/Test/ToyasCard.lean, 'card_holds'). Laid BY PROGRAM, IN A SANDBOX (cutbox-door.mjs). By AI agents, Wed Nov 11 2026. No macro, syntax, notation, axiom, sorry.
-/
import Derived.Test.YtanombfdfpfcoaaGreatDoorRows
import GoSem.ClaimSeven
namespace Go.Proofs.YtanombfdfpfcoaaGreatDoor
namespace Rows

/-- THE TIED CARD OF 'laws.FnSection'. -/
def fnSectionCard : Claim7 := { stood := { row := fnSectionRow, standIns := [], harness := (true, "34f4a8730f2b583c9360e5b06039417d58e2ed85c6fc3804f1de4a9297802836"), looks := true }, kinds := [], alts := [], laidByText := true, laidKinds := [.data, .data, .data, .data, .sentinel, .sentinel, .sentinel, .sentinel, .sentinel, .sentinel, .pinned, .pinned], laidTests := true, laidLooks := .later }
def FnSectionCardSaid : Prop := Claim7.holds Tryz.pinned (.plain (OpenSpec.ofChange fnSectionSpec)) fnSectionCard

/-- THE SECOND FORM's CARD OF 'laws.FnSection'. -/
def fnSectionUptoCard : Claim7 := { stood := { row := fnSectionUptoRow, standIns := [], harness := (true, "34f4a8730f2b583c9360e5b06039417d58e2ed85c6fc3804f1de4a9297802836"), looks := true }, kinds := [], alts := [], laidByText := true, laidKinds := [.data, .data, .data, .data, .sentinel, .sentinel, .sentinel, .sentinel, .sentinel, .sentinel, .pinned, .pinned], laidTests := true, laidLooks := .later }
def FnSectionUptoCardSaid : Prop := Claim7.holds Tryz.pinned (.plain (OpenSpec.upto fnSectionSpec)) fnSectionUptoCard
end Rows
end Go.Proofs.YtanombfdfpfcoaaGreatDoor
