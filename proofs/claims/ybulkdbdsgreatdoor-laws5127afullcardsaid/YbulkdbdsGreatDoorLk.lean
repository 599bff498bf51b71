import Derived.Test.YbulkdbdsGreatDoorHolds
import Derived.Test.YbulkdbdsGreatDoorLocks
import Derived.Conc.MuLone
namespace Go.Proofs.YbulkdbdsGreatDoor
open Go.RowKit Go.HeadTail Go.Conc.Locks Go.MuLone
attribute [local go_sem] yields yUpon

theorem lock_tab (tb : Nat) (sa sb k : Int) (cv : Value) (least most : Int) (bs : Value) (s : Nat → Int) (w : World) (h : Blk w tb (tabv sa sb k cv least most 0 bs s) 74) :
    Calls Ybaz.prog 11 #[.pointer (some ⟨tb, 31, none⟩)] w fun e w' => e = .returned (.tuple #[]) ∧ Blk w' tb (tabv sa sb k cv least most 1 bs s) 74 ∧ Kept (fun k => k = tb) w w' := by
  refine (lock_free Ybaz.muLib ⟨tb, 31, none⟩ w ((h.cell 31).trans (tab_mu ..)) (h.frozen 31)).mono ?_
  rintro e w' ⟨rfl, rfl⟩
  refine ⟨rfl, ?_, (Kept.refl (fun k => k = tb) w).set (fun _ => rfl) _⟩
  have := h.set 31 (.int .i32 1)
  rwa [tab_setmu] at this
theorem unlock_tab (tb : Nat) (sa sb k : Int) (cv : Value) (least most : Int) (bs : Value) (s : Nat → Int) (u : FrameMode) (w : World) (h : Blk w tb (tabv sa sb k cv least most 1 bs s) 74) :
    CallsD Ybaz.prog 12 #[.pointer (some ⟨tb, 31, none⟩)] u w fun e u' w' => u' = u ∧ (e = .returned (.tuple #[]) ∧ Blk w' tb (tabv sa sb k cv least most 0 bs s) 74 ∧ Kept (fun k => k = tb) w w') := by
  refine (unlock_deferred Ybaz.muLib ⟨tb, 31, none⟩ u w ((h.cell 31).trans (tab_mu ..)) (h.frozen 31)).mono ?_
  rintro e u' w' ⟨rfl, rfl, rfl⟩
  refine ⟨rfl, rfl, ?_, (Kept.refl (fun k => k = tb) w).set (fun _ => rfl) _⟩
  have := h.set 31 (.int .i32 0)
  rwa [tab_setmu] at this
set_option maxRecDepth 100000 in
theorem span_any (tb : Nat) (sa sb k : Int) (cv : Value) (least most mu : Int) (bs : Value) (s : Nat → Int) (w : World) (h : Blk w tb (tabv sa sb k cv least most mu bs s) 74) :
    Calls Ybaz.prog 13 #[.pointer (some ⟨tb, 0, none⟩), .agg T0] w fun e w' => e = .returned (.int .i64 0) ∧ Kept (fun _ => False) w w' := by
  go_enter Ybaz.func13, Ybaz.ntmps13
  go_wp2_with fail
  generalize hW : w.alloc (.cells #[.int .u64 0, .int .i64 0, .pointer none] 29) = W
  have kW : Kept (fun _ => False) w W := by rw [← hW]; exact (Kept.refl _ _).alloc _
  have bA : Blk W w.heap.size T0 29 := by rw [← hW]; exact Blk.new _ _ _
  have bT := kW.blk h id
  clear hW
  replace kW := hide kW
  obtain ⟨X, f, hne, hf, hto⟩ := cls (Kept (fun _ => False) W) (World.drew W) (Kept.refl _ _).drew
  have HC := hide (hto _ (Kept.refl _ W).drew)
  have Hto := hide hto
  clear hto
  have a0 : ∀ x, (f x).cell? ⟨w.heap.size, 0, none⟩ = some (.int .u64 0) := fun x => ((hf x).blk bA id).cell 0
  have a1 : ∀ x, (f x).cell? ⟨w.heap.size, 1, none⟩ = some (.int .i64 0) := fun x => ((hf x).blk bA id).cell 1
  have a2 : ∀ x, (f x).cell? ⟨w.heap.size, 2, none⟩ = some (.pointer none) := fun x => ((hf x).blk bA id).cell 2
  have c0 : ∀ x, (f x).cell? ⟨tb, 23, none⟩ = some (.int .u64 0) := fun x => (((hf x).blk bT id).cell 23).trans (tab_t0 ..)
  have c1 : ∀ x, (f x).cell? ⟨tb, 24, none⟩ = some (.int .i64 0) := fun x => (((hf x).blk bT id).cell 24).trans (tab_t1 ..)
  have c2 : ∀ x, (f x).cell? ⟨tb, 25, none⟩ = some (.pointer none) := fun x => (((hf x).blk bT id).cell 25).trans (tab_t2 ..)
  refine wp_region_seq (fun w' => ∃ x, w' = f x) [(true, 0), (true, 1), (true, 2), (true, 3), (true, 4), (false, 5), (true, 6)] (by kernel_rfl) (by kernel_rfl) (fun _ _ _ _ _ h => h) ?_
  simp only [pickS, List.getElem?_cons_zero, List.getElem?_cons_succ]
  iterate 5
    refine wpSeq_quiet HC.out (fun K hK => ?_)
    go_simp
    refine hK _ ?_
    clear hK K
  refine wpSeq_forced (fun K hK => ?_)
  go_simp
  refine (sub0 _).mono ?_
  rintro e w1 ⟨rfl, k1⟩
  refine hK _ _ (Hto.out _ k1.ofDrew) ?_
  clear hK K
  clear HC
  have HC := hide (Hto.out _ k1.ofDrew)
  iterate 1
    refine wpSeq_quiet HC.out (fun K hK => ?_)
    go_simp
    refine hK _ ?_
    clear hK K
  refine wpSeq_nil ?_
  clear a0 a1 a2 c0 c1 c2 Hto HC hf hne f X
  go_wp2
  go_ret
  exact ⟨rfl, kW.out.trans k1.ofDrew⟩
end Go.Proofs.YbulkdbdsGreatDoor
