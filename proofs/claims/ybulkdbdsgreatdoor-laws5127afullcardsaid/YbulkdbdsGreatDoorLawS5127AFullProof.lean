import Derived.Test.YbulkdbdsGreatDoorRows
import Derived.Test.YbulkdbdsGreatDoorTie
import Derived.Test.YbulkdbdsGreatDoorCards
import Derived.Test.YbulkdbdsGreatDoorLaid
import Derived.Test.YbulkdbdsGreatDoorFullG
import Derived.Test.YbulkdbdsGreatDoorFullB
import Derived.WalkKit
import Derived.ProofKit
import Derived.OpenShut
import Derived.ChangeOld
import Derived.Below
import Derived.Deep.Slices
import Derived.Deep.Strs
import Derived.Lib.SmallJoins
import Derived.Stop.Joined
import Derived.SevenTiedAt
namespace Go.Proofs.YbulkdbdsGreatDoor.lawS5127AFull
open Go.ChangeShapes Go.WideShapes Go.ChangeAt Go.RowKit Go.Deep

theorem own : ownKnob Ybaz.prog.godebug = none := by kernel_rfl
theorem laidOut : laidOutB Ybaz.prog = true := by kernel_rfl

/-- a variable's cells laid -/
def lay (h : Array Obj) (i : Nat) (cs : Array Value) : Array Obj := h.modify i fun
  | .cells _ t fr => .cells cs t fr
  | o => o
def t32 : Array Value := ([0, 1, 28, 2, 29, 14, 24, 3, 30, 22, 20, 15, 25, 17, 4, 8, 31, 27, 13, 23, 21, 19, 16, 7, 26, 12, 18, 6, 11, 5, 10, 9].map fun n => Value.int .u8 n).toArray
def t64 : Array Value := ([0, 1, 56, 2, 57, 49, 28, 3, 61, 58, 42, 50, 38, 29, 17, 4, 62, 47, 59, 36, 45, 43, 51, 22, 53, 39, 33, 30, 24, 18, 12, 5, 63, 55, 48, 27, 60, 41, 37, 16, 46, 35, 44, 21, 52, 32, 23, 11, 54, 26, 40, 15, 34, 20, 31, 10, 25, 14, 19, 9, 13, 8, 7, 6].map fun n => Value.int .u8 n).toArray
def tpow : Array Value := ([1, 10, 100, 1000, 10000, 100000, 1000000, 10000000, 100000000, 1000000000, 10000000000, 100000000000, 1000000000000, 10000000000000, 100000000000000, 1000000000000000, 10000000000000000, 100000000000000000, 1000000000000000000, 10000000000000000000].map fun n => Value.int .u64 n).toArray
/-- a world that meets the row's condition -/
def lw (w0 : World) : World :=
  { w0 with heap := ((lay (lay (lay (lay (lay w0.heap 0 #[.pointer (some ⟨12, 0, none⟩)]) 3 #[.pointer (some ⟨13, 0, none⟩)]) 4 tpow) 5 t32) 6 t64).push (.cells #[.bool false, .string ByteArray.empty] 184)).push (.cells #[.bool true, .string ByteArray.empty] 184) }
theorem laid_met (os : Os) (args : Array Value) : laidMetH Ybaz.prog Rows.lawS5127AFullRow.laid ((lw (World.holding Ybaz.prog os ⟨#[], #[], []⟩)).forCall (fun _ _ => 0) ⟨#[], args, []⟩).memory :=
  laidMet_of_run' (P := Ybaz.prog) (l := Rows.lawS5127AFullRow.laid) 8 (by kernel_rfl) (by kernel_rfl)

set_option maxRecDepth 100000 in
theorem lifted (os : Os) (started : os.Started) (H : Type) (enc : TypeId × Value → H) :
    ReturnsInHanded {} Ybaz.checked os 4 .any (fun w args => (Rows.lawS5127AFullSpec.pre enc Ybaz.prog Ybaz.f4 [] false w args ∧ laidMetH Ybaz.prog Rows.lawS5127AFullRow.laid w) ∧ sizedMet enc Ybaz.prog Ybaz.f4 (OpenSpec.ofChange Rows.lawS5127AFullSpec) false w args)
      (Rows.lawS5127AFullSpec.post enc Ybaz.prog Ybaz.f4 false true false false) := by
  refine returnsInHanded_of_change_and (C := Ybaz.checked) (X := fun w _ => laidMetH Ybaz.prog Rows.lawS5127AFullRow.laid w) (fun _ _ _ hh h => h.of_heap hh) own started (by kernel_rfl) Ybaz.func4
    (ChangeSpec.witness_shaped (enc := enc) (C := Ybaz.checked) (os := os) (X := fun w _ => laidMetH Ybaz.prog Rows.lawS5127AFullRow.laid w) false (lw (World.holding Ybaz.prog os ⟨#[], #[], []⟩)) #[.int .u8 0, .int .u8 0, .bool false] 8 rfl (World.shaped_of_RefB (by kernel_rfl) (by kernel_rfl)) (by kernel_rfl) (by kernel_rfl) (by kernel_rfl) (laid_met os _)) ?_
  intro W base args ds gs before hval0 hW _ _ hL _
  have hL' : laidMet Ybaz.prog Rows.lawS5127AFullRow.laid W := hL
  obtain ⟨z4, z6, g⟩ := gl_of_laid hL' (by kernel_rfl) (by kernel_rfl) (by kernel_rfl)
  clear hL hL'
  have hval : ∀ (j : Nat) t v, Ybaz.f4.params[j]? = some t → args[j]? = some v → Value.okWide Ybaz.prog W .any base t v := hval0
  have hW' := hW
  obtain ⟨p, q, hA0, hV, rfl, hfz, hnd⟩ := hW
  have hA : DataW.TrodAll enc Ybaz.prog W 0 (fun _ => true) true Ybaz.f4.params.toList args.toList ds p := hA0
  rw [Ybaz.params4] at hA hval
  obtain ⟨v0, vs0, d0, ds0, p0, q0, hargs, rfl, rfl, h0, r0⟩ := trodAll_cons hA
  obtain ⟨v1, vs1, d1, ds1, p1, q1, rfl, rfl, rfl, h1, r1⟩ := trodAll_cons r0
  obtain ⟨v2, vs2, d2, ds2, p2, q2, rfl, rfl, rfl, h2, r2⟩ := trodAll_cons r1
  obtain ⟨rfl, rfl, rfl⟩ := trodAll_nil r2
  obtain rfl : args = #[v0, v1, v2] := by cases args; simp_all
  obtain ⟨rfl, rfl⟩ := trodVars_none hV
  obtain ⟨a0, rfl, rfl, rfl, w0⟩ := open_int Ybaz.underlying5 (hval 0 5 v0 rfl rfl) h0
  obtain ⟨a1, rfl, rfl, rfl, w1⟩ := open_int Ybaz.underlying5 (hval 1 5 v1 rfl rfl) h1
  obtain ⟨a2, rfl, rfl, rfl⟩ := open_bool Ybaz.underlying4 (hval 2 4 v2 rfl rfl) h2
  have b0 := bounds_u8 w0
  have b1 := bounds_u8 w1
  clear hA0 hval0
  have main : Calls Ybaz.prog 4 #[.int .u8 a0, .int .u8 a1, .bool a2] W fun e w' => e = .returned (.bool true) ∧ Below W.heap.size W w' := by
    cases a2 with
    | true => exact full_good a0 a1 W g ⟨by omega, by omega⟩ ⟨by omega, by omega⟩
    | false => exact full_bad a0 a1 W g ⟨by omega, by omega⟩ ⟨by omega, by omega⟩
  refine main.mono fun e W' ⟨he, bel⟩ => ?_
  subst he
  exact ⟨_, rfl, _, _, _, [], _, [], hW', trodAll_mk1 (shut_bool Ybaz.underlying4 _), (trodAll_cons_mk (shut_int Ybaz.underlying5 w0) (trodAll_cons_mk (shut_int Ybaz.underlying5 w1) (trodAll_cons_mk (shut_bool Ybaz.underlying4 _) trodAll_mk0))), rfl, bel.frame _, fun h => by cases h⟩

theorem over : Rows.LawS5127AFullSaid :=
  OpenClaim.holds_of_wide 4 Ybaz.f4 rfl rfl rfl rfl rfl rfl rfl ⟨rfl, rfl, rfl, rfl, rfl⟩ rfl rfl rfl rfl rfl (by kernel_rfl) Ybaz.func4 (by kernel_rfl)
    (of_decide_eq_true (by kernel_rfl)) (by unfold Func.isWrapper; first | (rw [if_pos (by decide +kernel)]; kernel_rfl) | (rw [if_neg (by decide +kernel)]; exact ⟨rfl, rfl⟩))
    (fun os started H enc _ => lifted os started H enc)

/-- ████ THE STATEMENT: the tied card ████ -/
theorem proved : Rows.LawS5127AFullCardSaid :=
  Claim7.holds_tied_plain_at .later [] [.data, .data, .data, .called, .called, .zero] true (true, "0b16a3f204f36838e2d316cc709b09a97e3bdc81848779ed7e0d17a6a0b607ed") false
    over (fun _ h => by cases h) (by kernel_rfl) (fun _ h => by cases h) lawS5127AFull_row_tie rfl ⟨rfl, rfl⟩ (by kernel_rfl) rfl
    (fun f fn hf hfn => by
      obtain rfl : 4 = f := Option.some.inj ((by kernel_rfl : Ybaz.prog.funcNamed Rows.lawS5127AFullRow.func = some 4).symm.trans hf)
      obtain rfl : fn = Ybaz.f4 := (Option.some.inj (Ybaz.func4.symm.trans hfn)).symm
      exact ⟨by kernel_rfl, fun j t ht => by
        rw [Ybaz.params4] at ht
        have h3 : t = 5 ∨ t = 4 := by
          rcases j with _ | _ | _ | j
          · exact .inl (by simpa using ht.symm)
          · exact .inl (by simpa using ht.symm)
          · exact .inr (by simpa using ht.symm)
          · simp at ht
        rcases h3 with rfl | rfl
        · exact (show Ybaz.prog.wantsStandIn 5 = false by kernel_rfl)
        · exact (show Ybaz.prog.wantsStandIn 4 = false by kernel_rfl)⟩)
    (by kernel_rfl)
#print axioms proved
end Go.Proofs.YbulkdbdsGreatDoor.lawS5127AFull
