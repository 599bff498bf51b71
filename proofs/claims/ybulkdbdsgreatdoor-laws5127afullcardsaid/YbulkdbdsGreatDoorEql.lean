import Derived.Test.YbulkdbdsGreatDoorSk
namespace Go.Proofs.YbulkdbdsGreatDoor
open Go.RowKit Go.HeadTail
variable {P : Program} {ops : Array Oper} {Q : Exit → Act → World → Prop} {C : World → Prop}
theorem exec_eql {o : Oper} {ρ : Operand → Value} {w : World} (ty u : TypeId) (x y : Operand) (ho : o.op = .binOp .eql ty x y u) (xs ys : Array Value) (hx : ρ x = .agg xs) (hy : ρ y = .agg ys)
    (hm : P.eqGuardType P.depth ty = false) (r : Bool) (he : (Op.equalIn 10000 ty (.agg xs) (.agg ys)).run P w = .ok r w) : (execOp ρ o).run P w = .ok (.value (.bool r)) w := by
  have h2 : (Op.equal ty (.agg xs) (.agg ys)).run P w = .ok r w := he
  unfold execOp
  simp only [ho, hx, hy, Sem.run_bind, run_eqGuard_agg w .eql ty x y xs ys hm, Result.andThen_ok, binOp, h2, Sem.run_pure]
theorem exec_neq {o : Oper} {ρ : Operand → Value} {w : World} (ty u : TypeId) (x y : Operand) (ho : o.op = .binOp .neq ty x y u) (xs ys : Array Value) (hx : ρ x = .agg xs) (hy : ρ y = .agg ys)
    (hm : P.eqGuardType P.depth ty = false) (r : Bool) (he : (Op.equalIn 10000 ty (.agg xs) (.agg ys)).run P w = .ok r w) : (execOp ρ o).run P w = .ok (.value (.bool (!r))) w := by
  have h2 : (Op.equal ty (.agg xs) (.agg ys)).run P w = .ok r w := he
  unfold execOp
  simp only [ho, hx, hy, Sem.run_bind, run_eqGuard_agg w .neq ty x y xs ys hm, Result.andThen_ok, binOp, h2, Sem.run_pure]
theorem wpList_eql {rest : List Oper} {o : Oper} {a : Act} {w : World} (hgd : o.guard = none) (ty u : TypeId) (x y : Operand) (ho : o.op = .binOp .eql ty x y u) (xs ys : Array Value) (hx : a.eval x = .agg xs) (hy : a.eval y = .agg ys)
    (hm : P.eqGuardType P.depth ty = false) (r : Bool) (he : (Op.equalIn 10000 ty (.agg xs) (.agg ys)).run P w = .ok r w) (h : wpList P ops Q rest (a.put o.dst (.bool r)) w) : wpList P ops Q (o :: rest) a w :=
  wpList_plain hgd fun _ hK => by
    unfold Oper.wp
    rw [exec_eql ty u x y ho xs ys hx hy hm r he]
    exact hK _ _ h
theorem wpList_neq {rest : List Oper} {o : Oper} {a : Act} {w : World} (hgd : o.guard = none) (ty u : TypeId) (x y : Operand) (ho : o.op = .binOp .neq ty x y u) (xs ys : Array Value) (hx : a.eval x = .agg xs) (hy : a.eval y = .agg ys)
    (hm : P.eqGuardType P.depth ty = false) (r : Bool) (he : (Op.equalIn 10000 ty (.agg xs) (.agg ys)).run P w = .ok r w) (h : wpList P ops Q rest (a.put o.dst (.bool (!r))) w) : wpList P ops Q (o :: rest) a w :=
  wpList_plain hgd fun _ hK => by
    unfold Oper.wp
    rw [exec_neq ty u x y ho xs ys hx hy hm r he]
    exact hK _ _ h
theorem wpSeq_eql {rest : List (Bool × Nat × Oper)} {o : Oper} {k : Nat} {a : Act} {w : World} (hC : C w) (hgd : o.guard = none) (ty u : TypeId) (x y : Operand) (ho : o.op = .binOp .eql ty x y u) (xs ys : Array Value) (hx : a.eval x = .agg xs) (hy : a.eval y = .agg ys)
    (hm : P.eqGuardType P.depth ty = false) (r : Bool) (he : ∀ w', (Op.equalIn 10000 ty (.agg xs) (.agg ys)).run P w' = .ok r w') (h : wpSeq P ops Q C rest (a.put o.dst (.bool r)) w) : wpSeq P ops Q C ((true, k, o) :: rest) a w :=
  wpSeq_value hC hgd (.bool r) (fun w' _ => exec_eql ty u x y ho xs ys hx hy hm r (he w')) h
theorem wpSeq_neq {rest : List (Bool × Nat × Oper)} {o : Oper} {k : Nat} {a : Act} {w : World} (hC : C w) (hgd : o.guard = none) (ty u : TypeId) (x y : Operand) (ho : o.op = .binOp .neq ty x y u) (xs ys : Array Value) (hx : a.eval x = .agg xs) (hy : a.eval y = .agg ys)
    (hm : P.eqGuardType P.depth ty = false) (r : Bool) (he : ∀ w', (Op.equalIn 10000 ty (.agg xs) (.agg ys)).run P w' = .ok r w') (h : wpSeq P ops Q C rest (a.put o.dst (.bool (!r))) w) : wpSeq P ops Q C ((true, k, o) :: rest) a w :=
  wpSeq_value hC hgd (.bool (!r)) (fun w' _ => exec_neq ty u x y ho xs ys hx hy hm r (he w')) h
end Go.Proofs.YbulkdbdsGreatDoor
