/-
  DERIVED. GIVEN WITH THE SEED: THE CARDS: each row of YbulkdbdsGreatDoorRows.lean that lists a variable, with what it lists TIED to the program's text (the seventh form; the later family's looks); each row that meets fmt, with fmt's text TOLD by the authors' own Lean function (tested against real Go, not proved from fmt's source: count such statements apart). THE CARD IS WHAT COUNTS. Prove the row's statement (the work); the ties are given (YbulkdbdsGreatDoorTie.lean); close each card by the builder's one call (the guide's Derived/Test/ToyasCard.lean, 'card_holds'). Laid BY PROGRAM, IN A SANDBOX (cutbox-door.mjs). By AI agents, Wed Nov 11 2026. No macro, syntax, notation, axiom, sorry.
-/
import Derived.Test.YbulkdbdsGreatDoorRows
import GoSem.ClaimSeven
namespace Go.Proofs.YbulkdbdsGreatDoor
namespace Rows

/-- THE TIED CARD OF 'xorwalk.LawS5127AFill'. -/
def lawS5127AFillCard : Claim7 := { stood := { row := lawS5127AFillRow, standIns := [], harness := (true, "0b16a3f204f36838e2d316cc709b09a97e3bdc81848779ed7e0d17a6a0b607ed"), looks := false }, kinds := [], alts := [], laidByText := true, laidKinds := [.data, .data, .data, .called, .called, .zero], laidTests := true, laidLooks := .later }
def LawS5127AFillCardSaid : Prop := Claim7.holds Ybaz.pinned (.plain (OpenSpec.ofChange lawS5127AFillSpec)) lawS5127AFillCard

/-- THE TIED CARD OF 'xorwalk.LawS5127AFull'. -/
def lawS5127AFullCard : Claim7 := { stood := { row := lawS5127AFullRow, standIns := [], harness := (true, "0b16a3f204f36838e2d316cc709b09a97e3bdc81848779ed7e0d17a6a0b607ed"), looks := false }, kinds := [], alts := [], laidByText := true, laidKinds := [.data, .data, .data, .called, .called, .zero], laidTests := true, laidLooks := .later }
def LawS5127AFullCardSaid : Prop := Claim7.holds Ybaz.pinned (.plain (OpenSpec.ofChange lawS5127AFullSpec)) lawS5127AFullCard
end Rows
end Go.Proofs.YbulkdbdsGreatDoor
