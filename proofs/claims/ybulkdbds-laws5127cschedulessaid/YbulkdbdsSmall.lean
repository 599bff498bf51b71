import Derived.Test.YbulkdbdsTime
import Derived.Test.YbulkdbdsHeap
namespace Go.Proofs.Ybulkdbds
open Go.RowKit

def laterf (e d : Int) : Int := if d ≤ 0 then e else if 9223372036854775807 - e < d then 9223372036854775807 else e + d

theorem later_any (e d : Int) (w : World) (h0 : 0 ≤ e) (h1 : e ≤ 9223372036854775807) (hd0 : -9223372036854775808 ≤ d) (hd1 : d ≤ 9223372036854775807) :
    Calls Yba.prog 16 #[.int .i64 e, .int .i64 d] w fun r w' => r = .returned (.int .i64 (laterf e d)) ∧ w' = w := by
  by_cases hd : d ≤ 0
  · have e1 : laterf e d = e := by unfold laterf; rw [if_pos hd]
    rw [e1]
    go_enter Yba.func16, Yba.ntmps16
    go_wp2
    go_ret
    exact ⟨rfl, rfl⟩
  · by_cases hb : 9223372036854775807 - e < d
    · have e1 : laterf e d = 9223372036854775807 := by unfold laterf; rw [if_neg hd, if_pos hb]
      rw [e1]
      go_enter Yba.func16, Yba.ntmps16
      go_wp2
      go_ret
      exact ⟨rfl, rfl⟩
    · have e1 : laterf e d = e + d := by unfold laterf; rw [if_neg hd, if_neg hb]
      rw [e1]
      go_enter Yba.func16, Yba.ntmps16
      go_wp2
      go_ret
      exact ⟨rfl, rfl⟩

theorem laterf_bd (e d : Int) (h0 : 0 ≤ e) (h1 : e ≤ 9223372036854775807) : 0 ≤ laterf e d ∧ laterf e d ≤ 9223372036854775807 := by
  unfold laterf
  split
  · omega
  · split <;> omega

def beforeB (a1 s1 a2 s2 : Int) : Bool := if a1 = a2 then decide (s1 < s2) else decide (a1 < a2)

theorem before_any (a1 s1 a2 s2 : Int) (t1 t2 : TypeId) (x1 x2 : Value) (w : World) :
    Calls Yba.prog 17 #[.agg #[.int .i64 a1, .int .u64 s1, .iface t1 x1], .agg #[.int .i64 a2, .int .u64 s2, .iface t2 x2]] w fun r w' => r = .returned (.bool (beforeB a1 s1 a2 s2)) ∧ Kept (fun _ => False) w w' := by
  by_cases h : a1 = a2
  · subst h
    have e1 : beforeB a1 s1 a1 s2 = decide (s1 < s2) := by simp [beforeB]
    rw [e1]
    go_enter Yba.func17, Yba.ntmps17
    go_wp2
    go_ret
    refine ⟨rfl, ?_⟩
    repeat (first | exact Kept.refl _ _ | refine Kept.alloc ?_ _)
  · have e1 : beforeB a1 s1 a2 s2 = decide (a1 < a2) := by simp [beforeB, h]
    rw [e1]
    have hb : (a1 != a2) = true := by simpa using h
    go_enter Yba.func17, Yba.ntmps17
    go_wp2
    go_ret
    refine ⟨rfl, ?_⟩
    repeat (first | exact Kept.refl _ _ | refine Kept.alloc ?_ _)

theorem newClock_any (n x : Int) (w : World) :
    Calls Yba.prog 5 #[.agg #[.int .u64 n, .int .i64 x, .pointer none]] w fun r w' => ∃ cb, r = .returned (.pointer (some ⟨cb, 0, none⟩)) ∧ w.heap.size ≤ cb ∧
      Blk w' cb #[.int .u64 n, .int .i64 x, .pointer none, .int .u64 n, .int .i64 x, .pointer none, .int .i64 0, .slice none 0 0, .int .u64 0, .int .i64 0] 40 ∧ Kept (fun _ => False) w w' := by
  go_enter Yba.func5, Yba.ntmps5
  go_wp2
  go_ret
  refine ⟨_, rfl, ?_, ?_, ((Kept.refl _ _).alloc _).alloc _⟩
  · omega
  · exact Blk.new' _ _ (by simp)

set_option maxHeartbeats 1600000 in
theorem moveTo_any (cb : Nat) (n x e : Int) (v3 v4 v5 v6 qv v8 v9 : Value) (w : World) (h0 : 0 ≤ n) (h1 : n < 1000000000) (hd0 : -9223372036854775808 ≤ e) (hd1 : e ≤ 9223372036854775807)
    (hb : Blk w cb #[.int .u64 n, .int .i64 x, .pointer none, v3, v4, v5, v6, qv, v8, v9] 40) :
    Calls Yba.prog 6 #[.pointer (some ⟨cb, 0, none⟩), .int .i64 e] w fun r w' => r = .returned (.tuple #[]) ∧
      Blk w' cb #[.int .u64 n, .int .i64 x, .pointer none, .int .u64 (addN n e), .int .i64 (addS x (addD n e)), .pointer none, .int .i64 e, qv, v8, v9] 40 ∧ Kept (fun k => k = cb) w w' := by
  have c0 : w.cell? ⟨cb, 0, none⟩ = some (.int .u64 n) := hb.cell 0
  have c1 : w.cell? ⟨cb, 1, none⟩ = some (.int .i64 x) := hb.cell 1
  have c2 : w.cell? ⟨cb, 2, none⟩ = some (.pointer none) := hb.cell 2
  have c6 : w.cell? ⟨cb, 6, none⟩ = some v6 := hb.cell 6
  have f6 : w.frozen? ⟨cb, 6, none⟩ = false := hb.frozen 6
  go_enter Yba.func6, Yba.ntmps6
  go_wp2_with fail
  refine (add_any n x e _ h0 h1 hd0 hd1).mono ?_
  rintro r w1 ⟨rfl, k1⟩
  have hb1 := k1.blk (hb.set 6 (.int .i64 e)) id
  have kk : Kept (fun k => k = cb) w w1 := ((Kept.refl (fun k => k = cb) w).set (p := ⟨cb, 6, none⟩) (fun _ => rfl) (.int .i64 e)).trans (k1.mono (fun _ _ h => h.elim))
  have d3 : w1.cell? ⟨cb, 3, none⟩ = some v3 := hb1.cell 3
  have d4 : w1.cell? ⟨cb, 4, none⟩ = some v4 := hb1.cell 4
  have d5 : w1.cell? ⟨cb, 5, none⟩ = some v5 := hb1.cell 5
  have g3 : w1.frozen? ⟨cb, 3, none⟩ = false := hb1.frozen 3
  have g4 : w1.frozen? ⟨cb, 4, none⟩ = false := hb1.frozen 4
  have g5 : w1.frozen? ⟨cb, 5, none⟩ = false := hb1.frozen 5
  clear c0 c1 c2 c6 f6 hb
  go_wp2
  go_end0
  refine ⟨rfl, ((hb1.set 3 (.int .u64 (addN n e))).set 4 (.int .i64 (addS x (addD n e)))).set 5 (.pointer none), ?_⟩
  exact ((kk.set (fun _ => rfl) _).set (fun _ => rfl) _).set (fun _ => rfl) _
end Go.Proofs.Ybulkdbds
