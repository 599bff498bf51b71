import Derived.Test.YbulkdbdsGreatDoorFrom
namespace Go.Proofs.YbulkdbdsGreatDoor
open Go.RowKit Go.HeadTail
variable {P : Program} {ops : Array Oper} {Q : Exit → Act → World → Prop} {C : World → Prop}
theorem wpSeq_op {o : Oper} {rest : List (Bool × Nat × Oper)} {k : Nat} {a : Act} {w : World} (hg : o.guard = none)
    (h : ∀ K : Act → World → Prop, (∀ a w, C w → wpSeq P ops Q C rest a w → K a w) → o.wp P a w K Q) : wpSeq P ops Q C ((false, k, o) :: rest) a w :=
  wpSeq_forced (fun K hK => by simp only [Region.wanted, hg, if_true]; exact h K hK)
theorem wpSeq_store_blk {rest : List (Bool × Nat × Oper)} {op : Oper} {k : Nat} {a : Act} {w : World} (hgd : op.guard = none) (ty : TypeId) (x y : Operand) (ho : op.op = .store ty x y)
    (b o : Nat) (vs : Array Value) (hx : a.eval x = .pointer (some ⟨b, o, none⟩)) (hy : a.eval y = .agg vs) {cs : Array Value} {t : TypeId} (hb : Blk w b cs t)
    (hs : decide (o + vs.size ≤ cs.size) = true) (hi : (P.info? ty).map (·.size) = some vs.size) (h1 : vs.all (·.oneCell') = true)
    (hC : C (w.setCells b o vs.toList)) (h : wpSeq P ops Q C rest (a.put op.dst undef) (w.setCells b o vs.toList)) : wpSeq P ops Q C ((false, k, op) :: rest) a w :=
  wpSeq_op hgd (fun _ hK => wp_store_blk ty x y ho b o vs hx hy hb (of_decide_eq_true hs) hi h1 (hK _ _ hC h))

theorem secs_any (w : World) : Calls Ybaz.prog 17 #[.int .i64 0] w fun e w' => e = .returned (.int .u32 0) ∧ Kept (fun _ => False) w w' := by
  go_enter Ybaz.func17, Ybaz.ntmps17
  go_wp2
  go_ret
  exact ⟨by simp, by first | exact Kept.refl _ _ | exact (Kept.refl _ _).drew⟩
end Go.Proofs.YbulkdbdsGreatDoor
