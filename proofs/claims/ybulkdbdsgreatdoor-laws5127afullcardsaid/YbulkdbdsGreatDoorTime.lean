import Derived.Test.YbulkdbdsGreatDoorContact
namespace Go.Proofs.YbulkdbdsGreatDoor
open Go.RowKit Go.HeadTail
attribute [local go_sem] yields yUpon

/-- the zero time -/
abbrev T0 : Array Value := #[.int .u64 0, .int .i64 0, .pointer none]
theorem b1 : bits .and .u64 0 9223372036854775808 = 0 := by decide +kernel
theorem b2 : bits .and .u64 0 1073741823 = 0 := by decide +kernel
theorem b3 : bits .andNot .u64 0 1073741823 = 0 := by decide +kernel
theorem b4 : bits .or .u64 0 0 = 0 := by decide +kernel
theorem b5 : bits .and .u64 0 0 = 0 := by decide +kernel

theorem sec0 (b o : Nat) (w : World) (hc : w.cell? ⟨b, o, none⟩ = some (.int .u64 0)) (hx : w.cell? ⟨b, o + 1, none⟩ = some (.int .i64 0)) :
    Calls Ybaz.prog 50 #[.pointer (some ⟨b, o, none⟩)] w fun e w' => e = .returned (.int .i64 0) ∧ w' = w := by
  have k1 := b1
  go_enter Ybaz.func50, Ybaz.ntmps50
  go_wp2
  go_ret
  exact ⟨rfl, rfl⟩
theorem nsec0 (b o : Nat) (w : World) (hc : w.cell? ⟨b, o, none⟩ = some (.int .u64 0)) :
    Calls Ybaz.prog 51 #[.pointer (some ⟨b, o, none⟩)] w fun e w' => e = .returned (.int .i32 0) ∧ w' = w := by
  have k1 := b2
  go_enter Ybaz.func51, Ybaz.ntmps51
  go_wp2
  go_ret
  exact ⟨rfl, rfl⟩
theorem addSec0 (b o : Nat) (w : World) (hc : w.cell? ⟨b, o, none⟩ = some (.int .u64 0)) (hx : w.cell? ⟨b, o + 1, none⟩ = some (.int .i64 0)) (hf : w.frozen? ⟨b, o + 1, none⟩ = false) :
    Calls Ybaz.prog 72 #[.pointer (some ⟨b, o, none⟩), .int .i64 0] w fun e w' => e = .returned (.tuple #[]) ∧ w' = w.setCell ⟨b, o + 1, none⟩ (.int .i64 0) := by
  have k1 := b1
  go_enter Ybaz.func72, Ybaz.ntmps72
  go_wp2
  go_end0
  exact ⟨rfl, rfl⟩
set_option maxHeartbeats 1600000 in
theorem add0 (w : World) : Calls Ybaz.prog 52 #[.agg T0, .int .i64 0] w fun e w' => e = .returned (.agg T0) ∧ Kept (fun _ => False) w w' := by
  have k1 := b1
  have k3 := b3
  have k4 := b4
  go_enter Ybaz.func52, Ybaz.ntmps52
  go_wp2_with fail
  refine (nsec0 _ _ _ (by simp)).mono ?_
  rintro e w' ⟨rfl, rfl⟩
  go_wp2_with fail
  refine (addSec0 _ _ _ (by simp) (by simp) (by simp)).mono ?_
  rintro e w' ⟨rfl, rfl⟩
  go_wp2
  refine bodyPost_ret (v := .agg T0) (by simp [results, Ybaz.results52, go_sem]) rfl ⟨rfl, ?_⟩
  repeat (first | exact Kept.refl _ _ | refine Kept.alloc ?_ _ | refine Kept.drew ?_ | refine Kept.set ?_ (fun h => absurd h (by simp)) _)
theorem equal0 (w : World) : Calls Ybaz.prog 53 #[.agg T0, .agg T0] w fun e w' => e = .returned (.bool true) ∧ Kept (fun _ => False) w w' := by
  have k1 := b1
  have k5 := b5
  go_enter Ybaz.func53, Ybaz.ntmps53
  go_wp2_with fail
  refine (sec0 _ _ _ (by simp) (by simp)).mono ?_
  rintro e w' ⟨rfl, rfl⟩
  go_wp2_with fail
  refine (sec0 _ _ _ (by simp) (by simp)).mono ?_
  rintro e w' ⟨rfl, rfl⟩
  go_wp2_with fail
  refine (nsec0 _ _ _ (by simp)).mono ?_
  rintro e w' ⟨rfl, rfl⟩
  go_wp2_with fail
  refine (nsec0 _ _ _ (by simp)).mono ?_
  rintro e w' ⟨rfl, rfl⟩
  go_wp2
  go_ret
  exact ⟨by simp, ((Kept.refl _ _).alloc _).alloc _⟩
set_option maxRecDepth 100000 in
theorem sub0 (w : World) : Calls Ybaz.prog 27 #[.agg T0, .agg T0] w fun e w' => e = .returned (.int .i64 0) ∧ Kept (fun _ => False) w w' := by
  have k1 := b1
  have k5 := b5
  go_enter Ybaz.func27, Ybaz.ntmps27
  go_wp2_with fail
  refine (sec0 _ _ _ (by simp) (by simp)).mono ?_
  rintro e w' ⟨rfl, rfl⟩
  go_wp2_with fail
  refine (sec0 _ _ _ (by simp) (by simp)).mono ?_
  rintro e w' ⟨rfl, rfl⟩
  go_wp2_with fail
  refine (nsec0 _ _ _ (by simp)).mono ?_
  rintro e w' ⟨rfl, rfl⟩
  go_wp2_with fail
  refine (nsec0 _ _ _ (by simp)).mono ?_
  rintro e w' ⟨rfl, rfl⟩
  go_wp2_with fail
  generalize hW : (w.alloc (.cells #[.int .u64 0, .int .i64 0, .pointer none] 29)).alloc (.cells #[.int .u64 0, .int .i64 0, .pointer none] 29) = W
  have kW : Kept (fun _ => False) w W := by rw [← hW]; exact ((Kept.refl _ _).alloc _).alloc _
  have bA : Blk W w.heap.size T0 29 := by rw [← hW]; exact (Blk.new _ _ _).alloc _
  have bB : Blk W (w.heap.size + 1) T0 29 := by rw [← hW]; exact Blk.new' _ _ (by simp)
  clear hW
  obtain ⟨X, f, hne, hf, hto⟩ := cls (Kept (fun _ => False) W) (World.drew W) (Kept.refl _ _).drew
  have HC := hide (hto _ (Kept.refl _ W).drew)
  have Hto := hide hto
  clear hto
  have a0 : ∀ x, (f x).cell? ⟨w.heap.size, 0, none⟩ = some (.int .u64 0) := fun x => ((hf x).blk bA id).cell 0
  have a1 : ∀ x, (f x).cell? ⟨w.heap.size, 1, none⟩ = some (.int .i64 0) := fun x => ((hf x).blk bA id).cell 1
  have a2 : ∀ x, (f x).cell? ⟨w.heap.size, 2, none⟩ = some (.pointer none) := fun x => ((hf x).blk bA id).cell 2
  have c0 : ∀ x, (f x).cell? ⟨w.heap.size + 1, 0, none⟩ = some (.int .u64 0) := fun x => ((hf x).blk bB id).cell 0
  have c1 : ∀ x, (f x).cell? ⟨w.heap.size + 1, 1, none⟩ = some (.int .i64 0) := fun x => ((hf x).blk bB id).cell 1
  have c2 : ∀ x, (f x).cell? ⟨w.heap.size + 1, 2, none⟩ = some (.pointer none) := fun x => ((hf x).blk bB id).cell 2
  replace kW := hide kW
  refine wp_region_seq (fun w' => ∃ x, w' = f x) [(true, 0), (true, 1), (true, 3), (false, 2), (false, 4), (true, 5)] (by kernel_rfl) (by kernel_rfl) (fun _ _ _ _ _ h => h) ?_
  simp only [pickS, List.getElem?_cons_zero, List.getElem?_cons_succ]
  iterate 3
    refine wpSeq_quiet HC.out (fun K hK => ?_)
    go_simp
    refine hK _ ?_
    clear hK K
  refine wpSeq_forced (fun K hK => ?_)
  go_simp
  refine (add0 _).mono ?_
  rintro e w1 ⟨rfl, k1⟩
  refine hK _ _ (Hto.out _ k1.ofDrew) ?_
  clear hK K
  clear HC
  have HC := hide (Hto.out _ k1.ofDrew)
  refine wpSeq_forced (fun K hK => ?_)
  go_simp
  refine (equal0 _).mono ?_
  rintro e w2 ⟨rfl, k2⟩
  have kk := hide (kW.out.trans (k1.trans k2).ofDrew)
  refine hK _ _ (Hto.out _ (k1.trans k2).ofDrew) ?_
  clear hK K
  clear HC
  have HC := hide (Hto.out _ (k1.trans k2).ofDrew)
  iterate 1
    refine wpSeq_quiet HC.out (fun K hK => ?_)
    go_simp
    refine hK _ ?_
    clear hK K
  refine wpSeq_nil ?_
  clear a0 a1 a2 c0 c1 c2 Hto HC hf hne f X
  go_wp2
  go_ret
  exact ⟨rfl, kk.out⟩
theorem now_any (cb : Nat) (w : World) (hb : Blk w cb T0 31) : Calls Ybaz.prog 109 #[.pointer (some ⟨cb, 0, none⟩)] w fun e w' => e = .returned (.agg T0) ∧ Kept (fun _ => False) w w' := by
  have c0 := fun o => (hb.alloc o).cell 0
  have c1 := fun o => (hb.alloc o).cell 1
  have c2 := fun o => (hb.alloc o).cell 2
  go_enter Ybaz.func109, Ybaz.ntmps109
  go_wp2
  refine bodyPost_ret (v := .agg T0) (by simp [results, Ybaz.results109, go_sem]) rfl ⟨rfl, ?_⟩
  repeat (first | exact Kept.refl _ _ | refine Kept.alloc ?_ _ | refine Kept.drew ?_ | refine Kept.set ?_ (fun h => absurd h (by simp)) _)
end Go.Proofs.YbulkdbdsGreatDoor
