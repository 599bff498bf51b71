/-
  No cell of these rows narrows 'for every input' (looked for: loops, veiled, ifaces, maps, wideKeys, modest, calm, conditions, laid).
  DERIVED. THE GIVEN ROWS OF THIS SEAT. 1 by the template 'for every input the law returns true; each argument reads behind the call as it read before'; 0 by the template 'total and deterministic' (their statements: YbulkdbfiTotals.lean).
  GIVEN WITH THE SEED: the statements are not yours to turn. If you find one false, say at which input.
  Laid BY PROGRAM, IN A SANDBOX (cutbox-rows.mjs): the forced cells as the released guide's own fill.sh prints them over the translation 18fe5e346867090e… (all of the seat's roots in one cut). By AI agents, Wed Nov 11 2026. No macro, syntax, notation, axiom, sorry.
-/
import Derived.Test.YbulkdbfiChecked
import GoSem.Claim
import GoSem.ClaimJoined
import GoSem.ClaimMapViews
import Derived.JoinedTies
import Derived.KernelRfl
namespace Go.Proofs.Ybulkdbfi
/- THE CELL 'sum', in the pinned program and in every row, IS THE sha256 OF THE DUMP (.gsa) THAT YbulkdbfiProg.lean LOADS. Nothing in Lean hashes anything: it is a label: what it is worth is what the hold of that sum in a sandbox is worth. -/
noncomputable def Yba.pinned : Pinned := { name := "ybulkdbfi", sum := "18fe5e346867090e869345cf60b9c0174d3f600225e0007ecd36a504adc098e1", checked := Yba.checked }
namespace Rows
def none {H : Type} : Left H := { results := [], args := [] }

/-- 'cookiejar.LawS5130CSet': WHATEVER THE INPUT: true; the input reads as it did. -/
def lawS5130CSetSpec : ChangeSpec := { name := "lawS5130CSet", fn := fun _ => fun
  | [d1, d2, d3] => { results := [.lit (.bool true)], args := [d1, d2, d3] }
  | _ => none }
def lawS5130CSetRow : OpenClaim := { program := "ybulkdbfi", sum := "18fe5e346867090e869345cf60b9c0174d3f600225e0007ecd36a504adc098e1", func := "example.com/mooring/mooring/cookiejar.LawS5130CSet", spec := "lawS5130CSet", unfollowed := true, recurses := true, plainKeys := false, apart := false }
def LawS5130CSetSaid : Prop := lawS5130CSetRow.holds Yba.pinned (OpenSpec.ofChange lawS5130CSetSpec)

/-- ITS FALSE NEIGHBOUR: 'it returns false'. Refute it at one input. -/
def lawS5130CSetWrong : ChangeSpec := { name := "lawS5130CSet", fn := fun _ => fun
  | [d1, d2, d3] => { results := [.lit (.bool false)], args := [d1, d2, d3] }
  | _ => none }
def LawS5130CSetWrongFalsely : Prop := lawS5130CSetRow.holds Yba.pinned (OpenSpec.ofChange lawS5130CSetWrong)

end Rows
end Go.Proofs.Ybulkdbfi
