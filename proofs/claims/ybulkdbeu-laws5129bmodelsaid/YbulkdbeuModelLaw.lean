import Derived.Test.YbulkdbeuModel
import Derived.ChangeKeysEq
namespace Go.Proofs.Ybulkdbeu
open Go.RowKit

theorem words_any (z0 z1 z2 z3 : Int) (w : World) :
    Calls Yba.prog 6 #[.agg #[.int .u64 z0, .int .u64 z1, .int .u64 z2, .int .u64 z3]] w fun e w' => e = .returned (.agg #[.int .u64 z0, .int .u64 z1, .int .u64 z2, .int .u64 z3]) ∧ Kept (fun _ => False) w w' := by
  go_enter Yba.func6, Yba.ntmps6
  go_wp2
  refine bodyPost_ret (v := .agg #[.int .u64 z0, .int .u64 z1, .int .u64 z2, .int .u64 z3]) (by simp [results, Yba.results6, go_sem]) rfl ⟨rfl, ?_⟩
  repeat (first | exact Kept.refl _ _ | refine Kept.alloc ?_ _ | refine Kept.drew ?_ | refine Kept.set ?_ (fun h => absurd h (by simp)) _)

def fn4 (a b c d : Int) : Nat → Int
  | 0 => a
  | 1 => b
  | 2 => c
  | _ => d
theorem fn4_word {a b c d : Int} (ha : Word a) (hb : Word b) (hc : Word c) (hd : Word d) : ∀ k, k < 4 → Word (fn4 a b c d k) := fun k hk => by
  match k, hk with
  | 0, _ => exact ha
  | 1, _ => exact hb
  | 2, _ => exact hc
  | 3, _ => exact hd

theorem model4 (x0 x1 x2 x3 y0 y1 y2 y3 : Int) (hx0 : Word x0) (hx1 : Word x1) (hx2 : Word x2) (hx3 : Word x3) (hy0 : Word y0) (hy1 : Word y1) (hy2 : Word y2) (hy3 : Word y3) (w : World) :
    Calls Yba.prog 8 #[.agg #[.int .u64 x0, .int .u64 x1, .int .u64 x2, .int .u64 x3], .agg #[.int .u64 y0, .int .u64 y1, .int .u64 y2, .int .u64 y3]] w fun e w' =>
      e = .returned (.agg #[.int .u64 (lo (x0 + y0)), .int .u64 (lo (x1 + y1 + hi (x0 + y0))), .int .u64 (lo (x2 + y2 + hi (x1 + y1 + hi (x0 + y0)))), .int .u64 (lo (x3 + y3 + hi (x2 + y2 + hi (x1 + y1 + hi (x0 + y0)))))]) ∧ Kept (fun _ => False) w w' := by
  have h := model_any (fn4 x0 x1 x2 x3) (fn4 y0 y1 y2 y3) (fn4_word hx0 hx1 hx2 hx3) (fn4_word hy0 hy1 hy2 hy3) w
  simp only [zz, cc, fn4, Int.add_zero] at h
  exact h

theorem some22 : (Yba.prog.info? 22).isSome = true := by kernel_rfl
theorem cells22 : Yba.prog.cellsOf 22 = 1 := by kernel_rfl
theorem arr_eq (d : Nat) (z0 z1 z2 z3 : Int) (w : World) : (Op.equalIn (d + 2) 25 (.agg #[.int .u64 z0, .int .u64 z1, .int .u64 z2, .int .u64 z3]) (.agg #[.int .u64 z0, .int .u64 z1, .int .u64 z2, .int .u64 z3])).run Yba.prog w = .ok true w := by
  obtain ⟨i, hi⟩ := Option.isSome_iff_exists.1 some22
  rw [run_equalIn_array w (d + 1) _ _ Yba.underlying25 hi, cells22]
  simp [Op.eqItems, List.range, List.range.loop, go_sem]

set_option maxHeartbeats 3200000 in
set_option maxRecDepth 100000 in
theorem law_any (x0 x1 x2 x3 y0 y1 y2 y3 : Int) (hx0 : Word x0) (hx1 : Word x1) (hx2 : Word x2) (hx3 : Word x3) (hy0 : Word y0) (hy1 : Word y1) (hy2 : Word y2) (hy3 : Word y3) (w : World) :
    Calls Yba.prog 3 #[.int .u64 x0, .int .u64 x1, .int .u64 x2, .int .u64 x3, .int .u64 y0, .int .u64 y1, .int .u64 y2, .int .u64 y3] w fun e w' => e = .returned (.bool true) ∧ Kept (fun _ => False) w w' := by
  go_enter Yba.func3, Yba.ntmps3
  go_wp2_with fail
  refine (plus_any x0 x1 x2 x3 y0 y1 y2 y3 hx0 hx1 hx2 hx3 hy0 hy1 hy2 hy3 _).mono ?_
  rintro r w1 ⟨rfl, k1⟩
  go_wp2_with fail
  refine (words_any _ _ _ _ _).mono ?_
  rintro r w2 ⟨rfl, k2⟩
  generalize hz0 : lo (x0 + y0) = z0
  generalize hz1 : lo (x1 + y1 + hi (x0 + y0)) = z1
  generalize hz2 : lo (x2 + y2 + hi (x1 + y1 + hi (x0 + y0))) = z2
  generalize hz3 : lo (x3 + y3 + hi (x2 + y2 + hi (x1 + y1 + hi (x0 + y0)))) = z3
  have H0 := hide hz0
  have H1 := hide hz1
  have H2 := hide hz2
  have H3 := hide hz3
  clear hz0 hz1 hz2 hz3
  have kk := ((((Kept.refl (fun _ => False) w).alloc _).alloc _).trans k1).trans k2
  clear k1 k2
  go_wp2_with fail
  generalize hG : w2.alloc (.cells #[.int .u64 z0, .int .u64 z1, .int .u64 z2, .int .u64 z3] 25) = W
  have bG : Blk W w2.heap.size #[.int .u64 z0, .int .u64 z1, .int .u64 z2, .int .u64 z3] 25 := by rw [← hG]; exact Blk.new _ _ _
  have kG : Kept (fun _ => False) w W := by rw [← hG]; exact kk.alloc _
  clear hG
  refine (model4 x0 x1 x2 x3 y0 y1 y2 y3 hx0 hx1 hx2 hx3 hy0 hy1 hy2 hy3 _).mono ?_
  rintro r w3 ⟨rfl, k3⟩
  rw [H0.out, H1.out, H2.out, H3.out]
  have bG3 := k3.blk bG id
  have kf := kG.trans k3
  have g0 := bG3.cell 0
  have g1 := bG3.cell 1
  have g2 := bG3.cell 2
  have g3 := bG3.cell 3
  have hlt := bG3.lt
  have hne : w2.heap.size ≠ w3.heap.size := by omega
  clear k3 bG bG3 kG kk
  have hE : ∀ W : World, (Op.equalIn 10000 25 (.agg #[.int .u64 z0, .int .u64 z1, .int .u64 z2, .int .u64 z3]) (.agg #[.int .u64 z0, .int .u64 z1, .int .u64 z2, .int .u64 z3])).run Yba.prog W = .ok true W := fun W => arr_eq 9998 z0 z1 z2 z3 W
  go_wp2
  go_ret
  refine ⟨rfl, ?_⟩
  repeat (first | exact kf | refine Kept.alloc ?_ _ | refine Kept.drew ?_)
end Go.Proofs.Ybulkdbeu
