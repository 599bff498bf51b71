/-
  No cell of these rows narrows 'for every input' (looked for: loops, veiled, ifaces, maps, wideKeys, modest, calm, conditions, laid).
  DERIVED. THE GIVEN ROWS OF THIS SEAT. 1 by the template 'for every input the law returns true; each argument reads behind the call as it read before'; 0 by the template 'total and deterministic' (their statements: YbulkdbdsTotals.lean).
  GIVEN WITH THE SEED: the statements are not yours to turn. If you find one false, say at which input.
  Laid BY PROGRAM, IN A SANDBOX (cutbox-rows.mjs): the forced cells as the released guide's own fill.sh prints them over the translation a00200659876724a… (all of the seat's roots in one cut). By AI agents, Wed Nov 11 2026. No macro, syntax, notation, axiom, sorry.
-/
import Derived.Test.YbulkdbdsChecked
import GoSem.Claim
import GoSem.ClaimJoined
import GoSem.ClaimMapViews
import Derived.JoinedTies
import Derived.KernelRfl
namespace Go.Proofs.Ybulkdbds
/- THE CELL 'sum', in the pinned program and in every row, IS THE sha256 OF THE DUMP (.gsa) THAT YbulkdbdsProg.lean LOADS. Nothing in Lean hashes anything: it is a label: what it is worth is what the hold of that sum in a sandbox is worth. -/
noncomputable def Yba.pinned : Pinned := { name := "ybulkdbds", sum := "a00200659876724a2927a68cb0015de3bcf71c38dd7f3ca6c5799ed060501969", checked := Yba.checked }
namespace Rows
def none {H : Type} : Left H := { results := [], args := [] }

/-- 'xorwalk.LawS5127CSchedules': WHATEVER THE INPUT: true; the input reads as it did. -/
def lawS5127CSchedulesSpec : ChangeSpec := { name := "lawS5127CSchedules", fn := fun _ => fun
  | [d1, d2, d3] => { results := [.lit (.bool true)], args := [d1, d2, d3] }
  | _ => none }
def lawS5127CSchedulesRow : OpenClaim := { program := "ybulkdbds", sum := "a00200659876724a2927a68cb0015de3bcf71c38dd7f3ca6c5799ed060501969", func := "example.com/xorwalk/xorwalk.LawS5127CSchedules", spec := "lawS5127CSchedules", unfollowed := true, recurses := true, apart := false }
def LawS5127CSchedulesSaid : Prop := lawS5127CSchedulesRow.holds Yba.pinned (OpenSpec.ofChange lawS5127CSchedulesSpec)

/-- ITS FALSE NEIGHBOUR: 'it returns false'. Refute it at one input. -/
def lawS5127CSchedulesWrong : ChangeSpec := { name := "lawS5127CSchedules", fn := fun _ => fun
  | [d1, d2, d3] => { results := [.lit (.bool false)], args := [d1, d2, d3] }
  | _ => none }
def LawS5127CSchedulesWrongFalsely : Prop := lawS5127CSchedulesRow.holds Yba.pinned (OpenSpec.ofChange lawS5127CSchedulesWrong)

end Rows
end Go.Proofs.Ybulkdbds
