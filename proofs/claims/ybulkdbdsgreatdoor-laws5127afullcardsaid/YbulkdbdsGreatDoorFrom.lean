import Derived.Test.YbulkdbdsGreatDoorMac
import Derived.Test.YbulkdbdsGreatDoorAs16
namespace Go.Proofs.YbulkdbdsGreatDoor
open Go.RowKit Go.HeadTail
attribute [local go_sem] yields yUpon

set_option maxRecDepth 100000 in
theorem from16_any (ip : Int) (h0 : 0 ≤ ip) (h1 : ip < 256) {z4 z6 : Addr} (w : World) (g : Gl w z4 z6) :
    Calls Ybaz.prog 56 #[.agg (a16 ip)] w fun e w' => e = .returned (.agg #[.int .u64 0, .int .u64 (281470849515520 + ip), .pointer (some z6)]) ∧ Kept (fun _ => False) w w' := by
  go_enter Ybaz.func56, Ybaz.ntmps56
  go_wp2_with fail
  generalize hW : (w.alloc (.cells (a16 ip) 104)).alloc (.cells #[.int .u64 0, .int .u64 0, .pointer none] 45) = W
  have kW : Kept (fun _ => False) w W := by rw [← hW]; exact ((Kept.refl _ _).alloc _).alloc _
  have bA : Blk W w.heap.size (a16 ip) 104 := by rw [← hW]; exact (Blk.new _ _ _).alloc _
  have bR : Blk W (w.heap.size + 1) #[.int .u64 0, .int .u64 0, .pointer none] 45 := by rw [← hW]; exact Blk.new' _ _ (by simp)
  have gW := g.mono kW
  have gl := hide g.lt
  clear hW
  obtain ⟨X, f, hne, hf, hto⟩ := cls (Kept (fun k => k = w.heap.size + 1) W) (World.drew W) (Kept.refl _ _).drew
  have HC := hide (hto _ (Kept.refl _ W).drew)
  have Hto := hide hto
  clear hto
  have l3 : ∀ x, (f x).cell? ⟨3, 0, none⟩ = some (.pointer (some z6)) := fun x => (gW.kept (hf x) ⟨by have := g.lt; omega, by have := g.lt; omega, by have := g.lt; omega, by have := g.lt; omega, by have := g.lt; omega⟩).c3
  clear gW g
  refine wp_region_seq (fun w' => ∃ x, w' = f x) [(true, 0), (true, 2), (true, 5), (false, 1), (false, 3), (true, 4), (true, 6), (false, 7)] (by kernel_rfl) (by kernel_rfl) (fun _ _ _ _ _ h => h) ?_
  simp only [pickS, List.getElem?_cons_zero, List.getElem?_cons_succ]
  iterate 3
    refine wpSeq_quiet HC.out (fun K hK => ?_)
    go_simp
    refine hK _ ?_
    clear hK K
  refine wpSeq_forced (fun K hK => ?_)
  go_simp
  clear l3
  have gc : ∀ {w' : World}, Blk w' w.heap.size (a16 ip) 104 → ∀ j, w'.cell? ⟨w.heap.size, j, none⟩ = (a16 ip)[j]? := fun h j => h.cell j
  refine (beGet_any w.heap.size 0 16 0 0 0 0 0 0 0 0 _ (gc bA.drew 0) (gc bA.drew 1) (gc bA.drew 2) (gc bA.drew 3) (gc bA.drew 4) (gc bA.drew 5) (gc bA.drew 6) (gc bA.drew 7)).mono ?_
  rintro e w1 ⟨rfl, k1⟩
  rw [beV_zero]
  have k1' : Kept (fun k => k = w.heap.size + 1) W w1 := (k1.mono (by simp)).ofDrew
  refine hK _ _ (Hto.out _ k1') ?_
  clear hK K
  clear HC
  have HC := hide (Hto.out _ k1')
  have bA1 := k1'.blk bA (by simp)
  refine wpSeq_forced (fun K hK => ?_)
  go_simp
  refine (beGet_any w.heap.size 8 8 0 0 255 255 10 0 0 ip _ (gc bA1 8) (gc bA1 9) (gc bA1 10) (gc bA1 11) (gc bA1 12) (gc bA1 13) (gc bA1 14) (gc bA1 15)).mono ?_
  rintro e w2 ⟨rfl, k2⟩
  rw [beV_ip ip h0 h1]
  have k2' : Kept (fun k => k = w.heap.size + 1) W w2 := k1'.trans (k2.mono (by simp))
  have bR2 : Blk w2 (w.heap.size + 1) #[.int .u64 0, .int .u64 0, .pointer none] 45 := k2.blk (k1.blk bR.drew id) id
  have kk : Kept (fun _ => False) w w2 := kW.trans' k2' (by rintro x hx rfl; omega)
  refine hK _ _ (Hto.out _ k2') ?_
  clear hK K
  clear HC
  have HC := hide (Hto.out _ k2')
  clear k1 k1' k2 bA bR bA1 kW gc
  have k2' := hide k2'
  have kk := hide kk
  iterate 2
    refine wpSeq_quiet HC.out (fun K hK => ?_)
    go_simp
    refine hK _ ?_
    clear hK K
  have rc0 := bR2.cell 0
  have rf0 := bR2.frozen 0
  have rc1 := bR2.cell 1
  have rf1 := bR2.frozen 1
  have rc2 := bR2.cell 2
  have rf2 := bR2.frozen 2
  refine wpSeq_forced (fun K hK => ?_)
  go_simp
  refine hK _ _ (Hto.out _ ?_) ?_
  · refine Kept.set (Kept.set (Kept.set k2'.out ?_ _) ?_ _) ?_ _ <;> (intro _; rfl)
  clear hK K
  refine wpSeq_nil ?_
  clear Hto HC hf hne f X
  go_wp2
  refine bodyPost_ret (v := .agg #[.int .u64 0, .int .u64 (281470849515520 + ip), .pointer (some z6)]) (by simp [results, Ybaz.results56, go_sem, rc0, rc1, rc2]) rfl ⟨rfl, ?_⟩
  refine Kept.set (Kept.set (Kept.set kk.out ?_ _) ?_ _) ?_ _ <;> (intro h; exact absurd h (by simp))
end Go.Proofs.YbulkdbdsGreatDoor
