import Derived.Test.YbulkdbdsGreatDoorSeqR
import Derived.Great.BuildSlice
namespace Go.Proofs.YbulkdbdsGreatDoor
open Go.RowKit Go.HeadTail
theorem info_parts {P : Program} {t : TypeId} {z : Value} {n b : Nat} (h : (P.info? t).map (fun i => (i.zero, i.size, i.bytes)) = some (some z, n, b)) : ∃ i, P.info? t = some i ∧ i.zero = some z ∧ i.size = n ∧ i.bytes = b := by
  cases hi : P.info? t with
  | none => rw [hi] at h; cases h
  | some i =>
    rw [hi] at h
    simp only [Option.map_some, Option.some.injEq, Prod.mk.injEq] at h
    exact ⟨i, rfl, h.1, h.2.1, h.2.2⟩
theorem info90 : (Ybaz.prog.info? 90).map (fun i => (i.zero, i.size, i.bytes)) = some (some (.agg (ent0 0 0)), 41, 48) := by kernel_rfl
theorem info50 : (Ybaz.prog.info? 50).map (fun i => (i.zero, i.size, i.bytes)) = some (some (.agg (conl none 0 0 0 0)), 24, 56) := by kernel_rfl
theorem fill90 (a b ip p : Int) : Instr.fill (fun i => some (i * 41, 41)) ((Array.range (1 * 41)).map ((Value.agg (ent0 0 0)).cells[· % (Value.agg (ent0 0 0)).cells.size]!)) [(0, .agg (ent a b ip p))] = some (ent a b ip p) := by kernel_rfl
theorem fill50 (z : Option Addr) (a b ip p : Int) : Instr.fill (fun i => some (i * 24, 24)) ((Array.range (1 * 24)).map ((Value.agg (conl none 0 0 0 0)).cells[· % (Value.agg (conl none 0 0 0 0)).cells.size]!)) [(0, .agg (con z a b ip p))] = some (con z a b ip p) := by kernel_rfl
section
variable {ops : Array Oper} {Q : Exit → Act → World → Prop}
theorem wp_slice90 {o : Oper} {A : Act} {w : World} {K : Act → World → Prop} (x : Operand) (ho : o.op = .buildSlice 77 1 #[(0, x)]) (a b ip p : Int) (hx : A.eval x = .agg (ent a b ip p))
    (h : K (A.put o.dst (.slice (some ⟨w.heap.size, 0, none⟩) 1 1)) (w.alloc (.cells (ent a b ip p) 90))) : o.wp Ybaz.prog A w K Q := by
  obtain ⟨i, h1, h2, h3, h4⟩ := info_parts info90
  refine wp_buildSlice 77 90 1 #[(0, x)] ho (ent a b ip p) i _ Ybaz.underlying77 h1 h2 (by rw [h3]; omega) (by rw [h3]; omega) ?_ h
  rw [h3]
  simp only [List.map_toArray, List.map_cons, List.map_nil, hx]
  exact fill90 a b ip p
theorem wpList_slice90 {rest : List Oper} {o : Oper} {A : Act} {w : World} (hg : o.guard = none) (x : Operand) (ho : o.op = .buildSlice 77 1 #[(0, x)]) (a b ip p : Int) (hx : A.eval x = .agg (ent a b ip p))
    (h : wpList Ybaz.prog ops Q rest (A.put o.dst (.slice (some ⟨w.heap.size, 0, none⟩) 1 1)) (w.alloc (.cells (ent a b ip p) 90))) : wpList Ybaz.prog ops Q (o :: rest) A w :=
  wpList_plain hg fun _ hK => wp_slice90 x ho a b ip p hx (hK _ _ h)
theorem wpList_slice50 {rest : List Oper} {o : Oper} {A : Act} {w : World} (hg : o.guard = none) (x : Operand) (ho : o.op = .buildSlice 55 1 #[(0, x)]) (z : Option Addr) (a b ip p : Int) (hx : A.eval x = .agg (con z a b ip p))
    (h : wpList Ybaz.prog ops Q rest (A.put o.dst (.slice (some ⟨w.heap.size, 0, none⟩) 1 1)) (w.alloc (.cells (con z a b ip p) 50))) : wpList Ybaz.prog ops Q (o :: rest) A w := by
  obtain ⟨i, h1, h2, h3, h4⟩ := info_parts info50
  refine wpList_buildSlice hg 55 50 1 #[(0, x)] ho (con z a b ip p) i _ Ybaz.underlying55 h1 h2 (by rw [h3]; omega) (by rw [h3]; omega) ?_ h
  rw [h3]
  simp only [List.map_toArray, List.map_cons, List.map_nil, hx]
  exact fill50 z a b ip p
end
end Go.Proofs.YbulkdbdsGreatDoor
