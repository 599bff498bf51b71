import Derived.Test.YbulkdbdsGreatDoorOps
namespace Go.Proofs.YbulkdbdsGreatDoor
open Go.RowKit Go.HeadTail
theorem eqFields2 {P : Program} {w : World} {d : Nat} {xs ys : Array Value} {f g : Field} (hf : f.name ≠ "_") (hg : g.name ≠ "_") {x1 y1 x2 y2 : Value} {r1 r2 : Bool}
    (p1 : (part f.type xs f.offset).run P w = .ok x1 w) (q1 : (part f.type ys f.offset).run P w = .ok y1 w) (e1 : (Op.equalIn d f.type x1 y1).run P w = .ok r1 w)
    (p2 : (part g.type xs g.offset).run P w = .ok x2 w) (q2 : (part g.type ys g.offset).run P w = .ok y2 w) (e2 : (Op.equalIn d g.type x2 y2).run P w = .ok r2 w) :
    (Op.eqFields d xs ys [f, g]).run P w = .ok (r1 && r2) w := by
  simp only [Op.eqFields, hf, hg, ne_eq, not_false_eq_true, if_true, Sem.run_bind, p1, q1, e1, Result.andThen_ok]
  cases r1
  · simp
  · simp [p2, q2, e2]
    cases r2 <;> simp
/-- a contact of whatever address -/
def conl (z : Option Addr) (a b l p : Int) : Array Value := idv a b ++ #[.int .u64 0, .int .u64 l, .pointer z, .int .u16 p]
theorem con_eq (z : Option Addr) (a b ip p : Int) : con z a b ip p = conl z a b (281470849515520 + ip) p := rfl
theorem conl_id (z : Option Addr) (a b l p : Int) : (conl z a b l p).extract 0 (0 + 20) = idv a b := by kernel_rfl
theorem conl_ap (z : Option Addr) (a b l p : Int) : (conl z a b l p).extract 20 (20 + 4) = #[.int .u64 0, .int .u64 l, .pointer z, .int .u16 p] := by kernel_rfl
set_option maxRecDepth 20000 in
theorem eq50 (a b l p a' b' l' p' : Int) (z : Option Addr) (w : World) : (Op.equalIn 10000 50 (.agg (conl z a b l p)) (.agg (conl z a' b' l' p'))).run Ybaz.prog w = .ok ((a == a' && b == b') && (l == l' && p == p')) w := by
  rw [run_equalIn_struct w 9999 50 _ _ (by kernel_rfl) (by kernel_rfl)]
  have e1 : (Op.equalIn 9999 24 (.agg (idv a b)) (.agg (idv a' b'))).run Ybaz.prog w = _ := eq24 9997 a b a' b' w
  have e2 : (Op.equalIn 9999 47 (.agg #[.int .u64 0, .int .u64 l, .pointer z, .int .u16 p]) (.agg #[.int .u64 0, .int .u64 l', .pointer z, .int .u16 p'])).run Ybaz.prog w = _ := eq47 9995 0 l 0 l' p p' z w
  have p1 : ∀ (a b l p : Int), (part 24 (conl z a b l p) 0).run Ybaz.prog w = .ok (.agg (idv a b)) w := fun a b l p => by
    rw [part_row (P := Ybaz.prog) w 24 _ 0 20 (by kernel_rfl) (by kernel_rfl), conl_id]
  have p2 : ∀ (a b l p : Int), (part 47 (conl z a b l p) 20).run Ybaz.prog w = .ok (.agg #[.int .u64 0, .int .u64 l, .pointer z, .int .u16 p]) w := fun a b l p => by
    rw [part_row (P := Ybaz.prog) w 47 _ 20 4 (by kernel_rfl) (by kernel_rfl), conl_ap]
  simp only [Program.fieldsOf, Ybaz.underlying50]
  refine (eqFields2 (f := ⟨"ID", 24, 0, _, _, _, _⟩) (g := ⟨"Addr", 47, 20, _, _, _, _⟩) (by decide) (by decide) (p1 a b l p) (p1 a' b' l' p') e1 (p2 a b l p) (p2 a' b' l' p') e2).trans ?_
  simp
end Go.Proofs.YbulkdbdsGreatDoor
