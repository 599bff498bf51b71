import Derived.Test.YbulkdbdsGreatDoorOps
namespace Go.Proofs.YbulkdbdsGreatDoor
open Go.RowKit Go.HeadTail

attribute [local go_sem] yields yUpon

set_option maxRecDepth 100000 in
theorem as16_any (ip : Int) (h0 : 0 ≤ ip) (h1 : ip < 256) (z : Option Addr) (w : World) :
    Calls Ybaz.prog 33 #[.agg #[.int .u64 0, .int .u64 (281470849515520 + ip), .pointer z]] w fun e w' => e = .returned (.agg (a16 ip)) ∧ Kept (fun _ => False) w w' := by
  go_enter Ybaz.func33, Ybaz.ntmps33
  go_wp2_with fail
  generalize hW : (w.alloc (.cells #[.int .u64 0, .int .u64 (281470849515520 + ip), .pointer z] 45)).alloc (.cells #[.int .u8 0, .int .u8 0, .int .u8 0, .int .u8 0, .int .u8 0, .int .u8 0, .int .u8 0, .int .u8 0, .int .u8 0, .int .u8 0, .int .u8 0, .int .u8 0, .int .u8 0, .int .u8 0, .int .u8 0, .int .u8 0] 104) = W
  have kW : Kept (fun _ => False) w W := by rw [← hW]; exact ((Kept.refl _ _).alloc _).alloc _
  have bA : Blk W w.heap.size #[.int .u64 0, .int .u64 (281470849515520 + ip), .pointer z] 45 := by rw [← hW]; exact (Blk.new _ _ _).alloc _
  have bR : Blk W (w.heap.size + 1) z16 104 := by rw [← hW]; exact Blk.new' _ _ (by simp)
  clear hW
  obtain ⟨X, f, hne, hf, hto⟩ := cls (Kept (fun k => k = w.heap.size + 1) W) W.drew (Kept.refl _ _).drew
  have HC := hide (hto _ (Kept.refl _ W).drew)
  have a0 : ∀ x, (f x).cell? ⟨w.heap.size, 0, none⟩ = _ := fun x => ((hf x).blk bA (by simp)).cell 0
  have Hto := hide hto
  have kW := hide kW
  have Hf := hide hf
  clear hto hf
  refine wp_region_seq (fun w' => ∃ x, w' = f x) [(true, 0), (true, 1), (true, 2), (true, 3), (false, 4)] (by kernel_rfl) (by kernel_rfl) (fun _ _ _ _ _ h => h) ?_
  simp only [pickS, List.getElem?_cons_zero, List.getElem?_cons_succ]
  iterate 4
    refine wpSeq_quiet HC.out (fun K hK => ?_)
    go_simp
    refine hK _ ?_
    clear hK K
  refine wpSeq_forced (fun K hK => ?_)
  go_simp
  clear a0
  refine (bePut_blk (w.heap.size + 1) 0 16 0 (by omega) (by omega) W.drew z16 104 bR (by simp [z16])).mono ?_
  rintro e w1 ⟨rfl, bR1, k1⟩
  rw [lay_zero] at bR1
  have k1' : Kept (fun k => k = w.heap.size + 1) W w1 := (Kept.refl _ _).drew.trans k1
  refine hK _ _ (Hto.out _ k1') (wpSeq_nil ?_)
  clear hK K Hto HC Hf hne f X
  have bA1 := k1'.blk bA (by simp)
  have kk : Kept (fun _ => False) w w1 := kW.out.trans' k1' (by rintro x hx rfl; omega)
  clear bA bR k1 k1' kW
  go_wp2_with fail
  obtain ⟨X, f, hne, hf, hto⟩ := cls (Kept (fun k => k = w.heap.size + 1) w1) w1.drew (Kept.refl _ _).drew
  have HC := hide (hto _ (Kept.refl _ w1).drew)
  have a1 : ∀ x, (f x).cell? ⟨w.heap.size, 1, none⟩ = _ := fun x => ((hf x).blk bA1 (by simp)).cell 1
  have Hto := hide hto
  have kk := hide kk
  clear hto hf
  refine wp_region_seq (fun w' => ∃ x, w' = f x) [(true, 0), (true, 1), (true, 2), (true, 3), (false, 4)] (by kernel_rfl) (by kernel_rfl) (fun _ _ _ _ _ h => h) ?_
  simp only [pickS, List.getElem?_cons_zero, List.getElem?_cons_succ]
  iterate 4
    refine wpSeq_quiet HC.out (fun K hK => ?_)
    go_simp
    refine hK _ ?_
    clear hK K
  refine wpSeq_forced (fun K hK => ?_)
  go_simp
  clear a1
  refine (bePut_blk (w.heap.size + 1) 8 8 (281470849515520 + ip) (by omega) (by omega) w1.drew z16 104 bR1 (by simp [z16])).mono ?_
  rintro e w2 ⟨rfl, bR2, k2⟩
  rw [lay_ip ip h0 h1] at bR2
  have k2' : Kept (fun k => k = w.heap.size + 1) w1 w2 := (Kept.refl _ _).drew.trans k2
  refine hK _ _ (Hto.out _ k2') (wpSeq_nil ?_)
  clear hK K Hto HC hne f X
  have kk2 : Kept (fun _ => False) w w2 := kk.out.trans' k2' (by rintro x hx rfl; omega)
  clear k2 k2' bA1 bR1 kk
  have hs : Blk (w2.setCells (w.heap.size + 1) 0 (a16 ip).toList) (w.heap.size + 1) (a16 ip) 104 := bR2.setAll _ rfl
  go_wp2_with (first | refine wpList_load_blk rfl 104 _ rfl (w.heap.size + 1) 0 16 rfl bR2 (a16 ip) (by kernel_rfl) (by kernel_rfl) (by kernel_rfl) ?_ | refine wpList_store_blk rfl 104 _ _ rfl (w.heap.size + 1) 0 (a16 ip) rfl rfl bR2 (by kernel_rfl) (by kernel_rfl) (by kernel_rfl) ?_)
  refine bodyPost_ret (v := .agg (a16 ip)) (results_blk rfl _ _ (w.heap.size + 1) 104 (a16 ip) rfl hs (by kernel_rfl) (by kernel_rfl)) rfl ⟨rfl, ?_⟩
  exact Kept.setCells _ _ kk2 (fun h => absurd h (by omega))
end Go.Proofs.YbulkdbdsGreatDoor
