import Derived.Test.YbulkdbdsGreatDoorNew
import Derived.Test.YbulkdbdsGreatDoorCompact
namespace Go.Proofs.YbulkdbdsGreatDoor
open Go.RowKit Go.HeadTail
attribute [local go_sem] yields yUpon

theorem ent_a18 (a b ip p : Int) : ∀ j, j < 18 → (ent a b ip p)[20 + j]? = (a18 ip p)[j]? := by
  intro j hj
  have h : (ent a b ip p).extract 20 (20 + 18) = a18 ip p := by kernel_rfl
  rw [← h, Array.getElem?_extract, if_pos (by rw [ent_size]; omega)]

set_option maxRecDepth 100000 in
set_option maxHeartbeats 1600000 in
theorem contact_any (a b ip p : Int) (h0 : 0 ≤ ip) (h1 : ip < 256) (hp0 : 0 ≤ p) (hp1 : p < 65536) {z4 z6 : Addr} (w : World) (g : Gl w z4 z6) :
    Calls Ybaz.prog 16 #[.agg (ent a b ip p)] w fun e w' => e = .returned (.agg (con (some z4) a b ip p)) ∧ Kept (fun _ => False) w w' := by
  go_enter Ybaz.func16, Ybaz.ntmps16
  go_wp2_with fail
  refine gen_code (conl none 0 0 0 0) (by kernel_rfl) (fun W kW0 bR hsz => ?_)
  have kW : Hid (Kept (fun _ => False) w W) := hide (((Kept.refl _ _).alloc _).trans kW0)
  have bA : Blk W w.heap.size (ent a b ip p) 90 := kW0.blk (Blk.new _ _ _) id
  replace hsz := hide (hsz.trans (by simp) : W.heap.size = w.heap.size + 2)
  replace bR : Blk W (w.heap.size + 1) (conl none 0 0 0 0) 50 := by simpa using bR
  have gW := g.mono kW.out
  clear kW0 g
  obtain ⟨X, f, hne, hf, hto⟩ := cls (Kept (fun k => k = w.heap.size + 1) W) (World.drew W) (Kept.refl _ _).drew
  have HC := hide (hto _ (Kept.refl _ W).drew)
  have Hto := hide hto
  clear hto
  refine wp_region_seq (fun w' => ∃ x, w' = f x) [(true, 0), (true, 1), (true, 2), (true, 3), (false, 4), (true, 5), (false, 6)] (by kernel_rfl) (by kernel_rfl) (fun _ _ _ _ _ h => h) ?_
  simp only [pickS, List.getElem?_cons_zero, List.getElem?_cons_succ]
  iterate 1
    refine wpSeq_quiet HC.out (fun K hK => ?_)
    go_simp
    refine hK _ ?_
    clear hK K
  refine wpSeq_load_blk HC.out rfl 24 _ rfl (w.heap.size) 0 20 rfl (fun w' hw' => by obtain ⟨x, rfl⟩ := hw'; exact (hf x).blk bA (by simp)) (idv a b) (by kernel_rfl) (by kernel_rfl) (by kernel_rfl) ?_
  iterate 2
    refine wpSeq_quiet HC.out (fun K hK => ?_)
    go_simp
    refine hK _ ?_
    clear hK K
  refine wpSeq_forced (fun K hK => ?_)
  go_simp
  refine (compact_any w.heap.size 20 ip p h0 h1 hp0 hp1 _ (gW.mono (Kept.refl _ _).drew) _ _ bA.drew (ent_a18 a b ip p)).mono ?_
  rintro e w1 ⟨rfl, k1⟩
  have k1' : Kept (fun k => k = w.heap.size + 1) W w1 := (k1.mono (by simp)).ofDrew
  refine hK _ _ (Hto.out _ k1') ?_
  clear hK K
  clear HC
  have HC := hide (Hto.out _ k1')
  refine wpSeq_built HC.out rfl 50 _ rfl (con (some z4) a b ip p) (by kernel_rfl) ?_
  have bR1 := k1.blk bR.drew id
  have kc : Kept (fun k => k = w.heap.size + 1) W (w1.setCells (w.heap.size + 1) 0 (con (some z4) a b ip p).toList) := Kept.setCells _ _ k1' (fun _ => rfl)
  refine wpSeq_store_blk rfl 50 _ _ rfl (w.heap.size + 1) 0 (con (some z4) a b ip p) rfl rfl bR1 (by kernel_rfl) (by kernel_rfl) (by kernel_rfl) (Hto.out _ kc) ?_
  refine wpSeq_nil ?_
  clear  Hto HC hf hne f X
  go_wp2
  refine bodyPost_ret (v := .agg (con (some z4) a b ip p)) (results_blk rfl _ _ (w.heap.size + 1) 50 (con (some z4) a b ip p) rfl (bR1.setAll _ (by kernel_rfl)) (by kernel_rfl) (by kernel_rfl)) rfl ⟨rfl, ?_⟩
  exact Kept.setCells _ _ (kW.out.trans k1.ofDrew) (fun h => absurd h (by omega))
end Go.Proofs.YbulkdbdsGreatDoor
