/-
  No cell of these rows narrows 'for every input' (looked for: loops, veiled, ifaces, maps, wideKeys, modest, calm, conditions, laid).
  DERIVED. THE GIVEN ROWS OF THIS SEAT. 3 by the template 'for every input the law returns true; each argument reads behind the call as it read before'; 0 by the template 'total and deterministic' (their statements: YbulkdbeuTotals.lean).
  GIVEN WITH THE SEED: the statements are not yours to turn. If you find one false, say at which input.
  Laid BY PROGRAM, IN A SANDBOX (cutbox-rows.mjs): the forced cells as the released guide's own fill.sh prints them over the translation 92d10efb90ef7f59… (all of the seat's roots in one cut). By AI agents, Wed Nov 11 2026. No macro, syntax, notation, axiom, sorry.
-/
import Derived.Test.YbulkdbeuChecked
import GoSem.Claim
import GoSem.ClaimJoined
import GoSem.ClaimMapViews
import Derived.JoinedTies
import Derived.KernelRfl
namespace Go.Proofs.Ybulkdbeu
/- THE CELL 'sum', in the pinned program and in every row, IS THE sha256 OF THE DUMP (.gsa) THAT YbulkdbeuProg.lean LOADS. Nothing in Lean hashes anything: it is a label: what it is worth is what the hold of that sum in a sandbox is worth. -/
noncomputable def Yba.pinned : Pinned := { name := "ybulkdbeu", sum := "92d10efb90ef7f594c8fe1790d9c9bb70f8818f6270fe5eb59652f76c3fe807a", checked := Yba.checked }
namespace Rows
def none {H : Type} : Left H := { results := [], args := [] }

/-- 'evenfill.LawS5129BModel': WHATEVER THE INPUT: true; the input reads as it did. -/
def lawS5129BModelSpec : ChangeSpec := { name := "lawS5129BModel", fn := fun _ => fun
  | [d1, d2, d3, d4, d5, d6, d7, d8] => { results := [.lit (.bool true)], args := [d1, d2, d3, d4, d5, d6, d7, d8] }
  | _ => none }
def lawS5129BModelRow : OpenClaim := { program := "ybulkdbeu", sum := "92d10efb90ef7f594c8fe1790d9c9bb70f8818f6270fe5eb59652f76c3fe807a", func := "example.com/evenfill/evenfill.LawS5129BModel", spec := "lawS5129BModel", inPlace := ["math/bits.Add64"], apart := false }
def LawS5129BModelSaid : Prop := lawS5129BModelRow.holds Yba.pinned (OpenSpec.ofChange lawS5129BModelSpec)

/-- ITS FALSE NEIGHBOUR: 'it returns false'. Refute it at one input. -/
def lawS5129BModelWrong : ChangeSpec := { name := "lawS5129BModel", fn := fun _ => fun
  | [d1, d2, d3, d4, d5, d6, d7, d8] => { results := [.lit (.bool false)], args := [d1, d2, d3, d4, d5, d6, d7, d8] }
  | _ => none }
def LawS5129BModelWrongFalsely : Prop := lawS5129BModelRow.holds Yba.pinned (OpenSpec.ofChange lawS5129BModelWrong)

/-- 'evenfill.LawS5129BRoundTrip': WHATEVER THE INPUT: true; the input reads as it did. -/
def lawS5129BRoundTripSpec : ChangeSpec := { name := "lawS5129BRoundTrip", fn := fun _ => fun
  | [d1, d2, d3, d4, d5, d6, d7, d8] => { results := [.lit (.bool true)], args := [d1, d2, d3, d4, d5, d6, d7, d8] }
  | _ => none }
def lawS5129BRoundTripRow : OpenClaim := { program := "ybulkdbeu", sum := "92d10efb90ef7f594c8fe1790d9c9bb70f8818f6270fe5eb59652f76c3fe807a", func := "example.com/evenfill/evenfill.LawS5129BRoundTrip", spec := "lawS5129BRoundTrip", inPlace := ["math/bits.Add64", "math/bits.Sub64"], apart := false }
def LawS5129BRoundTripSaid : Prop := lawS5129BRoundTripRow.holds Yba.pinned (OpenSpec.ofChange lawS5129BRoundTripSpec)

/-- ITS FALSE NEIGHBOUR: 'it returns false'. Refute it at one input. -/
def lawS5129BRoundTripWrong : ChangeSpec := { name := "lawS5129BRoundTrip", fn := fun _ => fun
  | [d1, d2, d3, d4, d5, d6, d7, d8] => { results := [.lit (.bool false)], args := [d1, d2, d3, d4, d5, d6, d7, d8] }
  | _ => none }
def LawS5129BRoundTripWrongFalsely : Prop := lawS5129BRoundTripRow.holds Yba.pinned (OpenSpec.ofChange lawS5129BRoundTripWrong)

/-- 'evenfill.LawS5129BInt64': WHATEVER THE INPUT: true; the input reads as it did. -/
def lawS5129BInt64Spec : ChangeSpec := { name := "lawS5129BInt64", fn := fun _ => fun
  | [d1, d2] => { results := [.lit (.bool true)], args := [d1, d2] }
  | _ => none }
def lawS5129BInt64Row : OpenClaim := { program := "ybulkdbeu", sum := "92d10efb90ef7f594c8fe1790d9c9bb70f8818f6270fe5eb59652f76c3fe807a", func := "example.com/evenfill/evenfill.LawS5129BInt64", spec := "lawS5129BInt64", inPlace := ["math/bits.Add64"], apart := false }
def LawS5129BInt64Said : Prop := lawS5129BInt64Row.holds Yba.pinned (OpenSpec.ofChange lawS5129BInt64Spec)

/-- ITS FALSE NEIGHBOUR: 'it returns false'. Refute it at one input. -/
def lawS5129BInt64Wrong : ChangeSpec := { name := "lawS5129BInt64", fn := fun _ => fun
  | [d1, d2] => { results := [.lit (.bool false)], args := [d1, d2] }
  | _ => none }
def LawS5129BInt64WrongFalsely : Prop := lawS5129BInt64Row.holds Yba.pinned (OpenSpec.ofChange lawS5129BInt64Wrong)

end Rows
end Go.Proofs.Ybulkdbeu
