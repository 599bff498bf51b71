import Derived.Test.YbulkdbeuPlus
import Derived.Test.YbulkdbeuOrders
namespace Go.Proofs.Ybulkdbeu
open Go.RowKit Go.HeadTail

attribute [local go_sem] yields yUpon

theorem back_lo (x y c : Int) (hx : Word x) : lo (lo (x + y + c) - y - c) = x := by unfold lo Word at *; omega
theorem back_lo0 (x y : Int) (hx : Word x) : lo (lo (x + y) - y) = x := by unfold lo Word at *; omega
theorem back_bor (x y c : Int) (hx : Word x) (hy : Word y) (hc0 : 0 ≤ c) (hc : c ≤ 1) : bor (lo (x + y + c) - y - c) = hi (x + y + c) := by unfold lo hi bor Word at *; split <;> omega
theorem back_bor0 (x y : Int) (hx : Word x) (hy : Word y) : bor (lo (x + y) - y) = hi (x + y) := by unfold lo hi bor Word at *; split <;> omega

set_option maxHeartbeats 3200000 in
set_option maxRecDepth 100000 in
theorem round_any (x0 x1 x2 x3 y0 y1 y2 y3 : Int) (hx0 : Word x0) (hx1 : Word x1) (hx2 : Word x2) (hx3 : Word x3) (hy0 : Word y0) (hy1 : Word y1) (hy2 : Word y2) (hy3 : Word y3) (w : World) :
    Calls Yba.prog 4 #[.int .u64 x0, .int .u64 x1, .int .u64 x2, .int .u64 x3, .int .u64 y0, .int .u64 y1, .int .u64 y2, .int .u64 y3] w fun e w' => e = .returned (.bool true) ∧ Kept (fun _ => False) w w' := by
  go_enter Yba.func4, Yba.ntmps4
  go_wp2_with fail
  generalize hW : (w.alloc (.cells #[.int .u64 x0, .int .u64 x1, .int .u64 x2, .int .u64 x3] 24)).alloc (.cells #[.int .u64 y0, .int .u64 y1, .int .u64 y2, .int .u64 y3] 24) = W
  have bX : Blk W w.heap.size #[.int .u64 x0, .int .u64 x1, .int .u64 x2, .int .u64 x3] 24 := by rw [← hW]; exact (Blk.new _ _ _).alloc _
  have bY : Blk W (w.heap.size + 1) #[.int .u64 y0, .int .u64 y1, .int .u64 y2, .int .u64 y3] 24 := by rw [← hW]; exact Blk.new' _ _ (by simp)
  have kW : Kept (fun _ => False) w W := by rw [← hW]; exact ((Kept.refl _ _).alloc _).alloc _
  clear hW
  obtain ⟨X, f, hne, hf, hto⟩ := cls (Kept (fun _ => False) W) W.drew (Kept.refl _ _).drew
  have Hto := hide hto
  have t0 := fun x => ((hf x).blk bX id).cell 0
  have t1 := fun x => ((hf x).blk bX id).cell 1
  have t2 := fun x => ((hf x).blk bX id).cell 2
  have t3 := fun x => ((hf x).blk bX id).cell 3
  have u0 := fun x => ((hf x).blk bY id).cell 0
  have u1 := fun x => ((hf x).blk bY id).cell 1
  have u2 := fun x => ((hf x).blk bY id).cell 2
  have u3 := fun x => ((hf x).blk bY id).cell 3
  have HCw := hide (hto _ ((Kept.refl (fun _ => False) W).drew))
  clear hto hf bX bY
  refine wp_region_seq (fun w' => ∃ x, w' = f x) [(true, 0), (true, 1), (true, 3), (true, 5), (false, 2), (false, 4), (true, 6), (true, 7)] (by kernel_rfl) (by kernel_rfl) (fun _ _ _ _ _ h => h) ?_
  simp only [pickS, List.getElem?_cons_zero, List.getElem?_cons_succ]
  iterate 4
    refine wpSeq_quiet HCw.out (fun K hK => ?_)
    go_simp
    refine hK _ ?_
    clear hK K
  clear t0 t1 t2 t3 u0 u1 u2 u3
  refine wpSeq_forced (fun K hK => ?_)
  go_simp
  refine (plus_any x0 x1 x2 x3 y0 y1 y2 y3 hx0 hx1 hx2 hx3 hy0 hy1 hy2 hy3 _).mono ?_
  rintro r w1 ⟨rfl, k1⟩
  refine hK _ _ (Hto.out _ ((Kept.refl (fun _ => False) W).drew.trans k1)) ?_
  clear hK K
  refine wpSeq_forced (fun K hK => ?_)
  go_simp
  have c0 := hi_bd0 x0 y0 hx0 hy0
  have c1 := hi_bd x1 y1 _ hx1 hy1 c0.1 c0.2
  refine (minus_any _ _ _ _ y0 y1 y2 y3 (lo_word _) (lo_word _) (lo_word _) (lo_word _) hy0 hy1 hy2 hy3 _).mono ?_
  rintro r w2 ⟨rfl, k2⟩
  rw [back_bor0 x0 y0 hx0 hy0, back_bor x1 y1 _ hx1 hy1 c0.1 c0.2, back_bor x2 y2 _ hx2 hy2 c1.1 c1.2, back_lo0 x0 y0 hx0, back_lo x1 y1 _ hx1, back_lo x2 y2 _ hx2, back_lo x3 y3 _ hx3]
  have HC2 := hide (Hto.out _ (((Kept.refl (fun _ => False) W).drew.trans k1).trans k2))
  have kk := (kW.trans ((Kept.refl (fun _ => False) W).drew.trans k1)).trans k2
  refine hK _ _ HC2.out ?_
  clear hK K c0 c1
  iterate 2
    refine wpSeq_quiet HC2.out (fun K hK => ?_)
    go_simp
    refine hK _ ?_
    clear hK K
  refine wpSeq_nil ?_
  go_wp2
  go_ret
  exact ⟨rfl, kk⟩
#print axioms round_any
end Go.Proofs.Ybulkdbeu
