import Derived.Test.YbulkdbdsGreatDoorRows
import Derived.Test.YbulkdbdsGreatDoorNet
import Derived.ChangeSame
import Derived.ChangeVars
import Derived.JoinedOf
import Derived.RowKit
import Derived.LaidLaws
import Derived.KernelRfl
namespace Go.Proofs.YbulkdbdsGreatDoor
open Go.ChangeShapes Go.WideShapes Go.RowKit

theorem one_of {cs : List Value} (h : cs.length = 1) : ∃ v, cs = [v] := by
  match cs, h with
  | [v], _ => exact ⟨v, rfl⟩
/-- the pointer in a handle's one cell, and its block -/
theorem handle_at {W : World} {cs : List Value} {fuel : Nat} {d : DataW Unit} {p : List MemPlace} (h : DataW.trod (fun _ => ()) Ybaz.prog W 0 (fun _ => true) false fuel 43 cs = some (.agg [.ptr d], p)) :
    ∃ a : Addr, cs = [.pointer (some a)] ∧ MemPlace.cell a.block a.off ∈ p := by
  obtain ⟨⟨y1, y2⟩, n, hx, hl, h0⟩ := trod_struct1 Ybaz.underlying43 h
  simp only [Prod.mk.injEq, DataW.agg.injEq, List.cons.injEq, and_true] at hx
  obtain ⟨rfl, rfl⟩ := hx
  have hl1 : cs.length = 1 := hl.trans (by kernel_rfl)
  have hc1 : Ybaz.prog.cellsOf 41 = 1 := by kernel_rfl
  obtain ⟨v, rfl⟩ := one_of hl1
  obtain ⟨fuel', a, cs', q, hcs, hc, _, hp⟩ := ptr_of_trod Ybaz.underlying41 h0
  simp [hc1] at hcs
  subst hcs
  refine ⟨a, rfl, ?_⟩
  rw [hp]
  refine List.mem_append_left _ ?_
  unfold MemPlace.row
  refine List.mem_map.2 ⟨0, List.mem_range.2 ?_, rfl⟩
  exact of_decide_eq_true (by kernel_rfl)
theorem nil_at {W : World} {cs : List Value} {fuel : Nat} {p : List MemPlace} (h : DataW.trod (fun _ => ()) Ybaz.prog W 0 (fun _ => true) false fuel 43 cs = some (.agg [.nil], p)) : cs = [.pointer none] := by
  obtain ⟨⟨y1, y2⟩, n, hx, hl, h0⟩ := trod_struct1 Ybaz.underlying43 h
  simp only [Prod.mk.injEq, DataW.agg.injEq, List.cons.injEq, and_true] at hx
  obtain ⟨rfl, rfl⟩ := hx
  have hl1 : cs.length = 1 := hl.trans (by kernel_rfl)
  have hc1 : Ybaz.prog.cellsOf 41 = 1 := by kernel_rfl
  obtain ⟨v, rfl⟩ := one_of hl1
  simp only [List.drop_zero, hc1, List.take_succ_cons, List.take_zero] at h0
  cases n with
  | zero => simp [DataW.trod] at h0
  | succ n =>
    cases v <;> simp [DataW.trod, Ybaz.underlying41] at h0
    rename_i o
    cases o with
    | none => rfl
    | some a =>
      simp [Option.bind_eq_some_iff] at h0

theorem one_cell {W : World} {n : String} {g : Nat} {cs : Array Value} {v : Value} (hg : Ybaz.prog.globalNamed n = some g) (hv : W.var? Ybaz.prog n = some cs) (hc : cs.toList = [v]) : W.cell? ⟨g, 0, none⟩ = some v := by
  rw [World.var?_cell hg hv 0, ← Array.getElem?_toList, hc]; rfl

/-- WHAT THE LISTED VARIABLES GIVE THE WALK -/
theorem gl_of_laid {W : World} {r1 r2 r3 : String × DataW Unit} {n4 n6 n0 : String} {d4 d6 : DataW Unit} (h : laidMet Ybaz.prog [r1, r2, r3, (n4, .agg [.ptr d4]), (n6, .agg [.ptr d6]), (n0, .agg [.nil])] W)
    (h4 : Ybaz.prog.globalNamed n4 = some 0) (h6 : Ybaz.prog.globalNamed n6 = some 3) (h0 : Ybaz.prog.globalNamed n0 = some 2) : ∃ z4 z6, Gl W z4 z6 := by
  obtain ⟨ps, ⟨g1, t1, c1, f1, p1, q1, _, _, _, _, ⟨g2, t2, c2, f2, p2, q2, _, _, _, _, ⟨g3, t3, c3, f3, p3, q3, _, _, _, _, ⟨g4, t4, c4, f4, p4, q4, hg4, ht4, hv4, hd4, ⟨g6, t6, c6, f6, p6, q6, hg6, ht6, hv6, hd6, ⟨g0, t0, c0, f0, p0, q0, hg0, ht0, hv0, hd0, _, hq0⟩, hq6⟩, hq4⟩, hq3⟩, hq2⟩, hq1⟩, hnd, hrows⟩ := h
  obtain rfl : 0 = g4 := Option.some.inj (h4.symm.trans hg4)
  obtain rfl : 3 = g6 := Option.some.inj (h6.symm.trans hg6)
  obtain rfl : 2 = g0 := Option.some.inj (h0.symm.trans hg0)
  obtain rfl : 43 = t4 := Option.some.inj ((by kernel_rfl : (Ybaz.prog.globals[0]?).map (·.type) = some 43).symm.trans ht4)
  obtain rfl : 43 = t6 := Option.some.inj ((by kernel_rfl : (Ybaz.prog.globals[3]?).map (·.type) = some 43).symm.trans ht6)
  obtain rfl : 43 = t0 := Option.some.inj ((by kernel_rfl : (Ybaz.prog.globals[2]?).map (·.type) = some 43).symm.trans ht0)
  obtain ⟨z4, e4, m4⟩ := handle_at hd4
  obtain ⟨z6, e6, m6⟩ := handle_at hd6
  have e0 := nil_at hd0
  have i4 : MemPlace.cell z4.block z4.off ∈ q3 := by rw [hq4]; simp [m4]
  have i6 : MemPlace.cell z6.block z6.off ∈ q4 := by rw [hq6]; simp [m6]
  have b4 : MemPlace.cell z4.block z4.off ∈ ps := by rw [hq1, hq2, hq3]; simp [i4]
  have b6 : MemPlace.cell z6.block z6.off ∈ ps := by
    have : MemPlace.cell z6.block z6.off ∈ q3 := by rw [hq4]; simp [i6]
    rw [hq1, hq2, hq3]; simp [this]
  obtain ⟨⟨u4, v4, k4⟩, _⟩ := hrows _ _ b4
  obtain ⟨⟨u6, v6, k6⟩, _⟩ := hrows _ _ b6
  have c0 := one_cell hg4 hv4 e4
  have c3' := one_cell hg6 hv6 e6
  have c2' := one_cell hg0 hv0 e0
  have hne : z4 ≠ z6 := by
    intro he
    subst he
    rw [hq1, hq2, hq3] at hnd
    have hn3 : q3.Nodup := (List.nodup_append.1 (List.nodup_append.1 (List.nodup_append.1 hnd).2.1).2.1).2.1
    rw [hq4] at hn3
    have hx := (List.nodup_append.1 hn3).2.2 _ (List.mem_append_right _ m4) _ i6
    exact hx rfl
  refine ⟨z4, z6, ⟨c0, c2', c3', ⟨u4, v4, k4⟩, ⟨u6, v6, k6⟩, hne, ?_, (Array.getElem?_eq_some_iff.1 k4).1, (Array.getElem?_eq_some_iff.1 k6).1⟩⟩
  exact World.block_lt_of_cell? W _ c3'
end Go.Proofs.YbulkdbdsGreatDoor
