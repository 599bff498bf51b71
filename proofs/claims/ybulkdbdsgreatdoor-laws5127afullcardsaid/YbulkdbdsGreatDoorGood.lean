import Derived.Test.YbulkdbdsGreatDoorSeen
namespace Go.Proofs.YbulkdbdsGreatDoor
open Go.RowKit Go.HeadTail
attribute [local go_sem] yields yUpon

theorem sspan_any (w : World) : Calls Ybaz.prog 30 #[.int .u32 0] w fun e w' => e = .returned (.int .i64 0) ∧ w' = w := by
  go_enter Ybaz.func30, Ybaz.ntmps30
  go_wp2
  go_ret
  exact ⟨by simp, rfl⟩

theorem ent_at40 (a b ip p : Int) : (ent a b ip p)[40]? = some (.int .u32 0) := by kernel_rfl

set_option maxRecDepth 100000 in
set_option maxHeartbeats 1600000 in
theorem good_any (tb : Nat) (sa sb k : Int) (cv : Value) (m mu : Int) (bs : Value) (s : Nat → Int) (a b ip p : Int) (hm : 0 ≤ m) (w : World) (bT : Blk w tb (tabv sa sb k cv m m mu bs s) 74) :
    Calls Ybaz.prog 18 #[.pointer (some ⟨tb, 0, none⟩), .agg (ent a b ip p), .int .i64 0] w fun e w' => e = .returned (.bool (decide (0 < m))) ∧ Kept (fun _ => False) w w' := by
  go_enter Ybaz.func18, Ybaz.ntmps18
  go_wp2_with fail
  generalize hW : w.alloc (.cells (ent a b ip p) 90) = W
  have kW : Kept (fun _ => False) w W := by rw [← hW]; exact (Kept.refl _ _).alloc _
  have bE : Blk W w.heap.size (ent a b ip p) 90 := by rw [← hW]; exact Blk.new _ _ _
  have bTW := kW.blk bT id
  clear hW
  replace kW := hide kW
  obtain ⟨X, f, hne, hf, hto⟩ := cls (Kept (fun _ => False) W) (World.drew W) (Kept.refl _ _).drew
  have HC := hide (hto _ (Kept.refl _ W).drew)
  have Hto := hide hto
  clear hto
  have l39 : ∀ x, (f x).cell? ⟨w.heap.size, 39, none⟩ = some (.int .u32 0) := fun x => (((hf x).blk bE id).cell 39).trans (ent_at39 ..)
  have l40 : ∀ x, (f x).cell? ⟨w.heap.size, 40, none⟩ = some (.int .u32 0) := fun x => (((hf x).blk bE id).cell 40).trans (ent_at40 ..)
  have lm : ∀ x, (f x).cell? ⟨tb, 27, none⟩ = some (.int .i64 m) := fun x => (((hf x).blk bTW id).cell 27).trans (tab_most ..)
  have ll : ∀ x, (f x).cell? ⟨tb, 26, none⟩ = some (.int .i64 m) := fun x => (((hf x).blk bTW id).cell 26).trans (tab_least ..)
  have hw0 : IntKind.u32.wrap (0 - 0) = 0 := by decide
  refine wp_region_seq (fun w' => ∃ x, w' = f x) [(true, 0), (true, 1), (true, 2), (true, 3), (true, 4), (true, 6), (true, 7), (true, 8), (true, 9), (true, 11), (true, 12), (true, 13), (true, 14), (false, 5), (true, 10), (true, 15), (true, 16)] (by kernel_rfl) (by kernel_rfl) (fun _ _ _ _ _ h => h) ?_
  simp only [pickS, List.getElem?_cons_zero, List.getElem?_cons_succ]
  iterate 13
    refine wpSeq_quiet HC.out (fun K hK => ?_)
    go_simp
    refine hK _ ?_
    clear hK K
  refine wpSeq_forced (fun K hK => ?_)
  go_simp
  refine (sspan_any _).mono ?_
  rintro e w1 ⟨rfl, rfl⟩
  refine hK _ _ (Hto.out _ (Kept.refl _ W).drew) ?_
  clear hK K
  clear HC
  have HC := hide (Hto.out _ (Kept.refl _ W).drew)
  iterate 3
    refine wpSeq_quiet HC.out (fun K hK => ?_)
    go_simp
    refine hK _ ?_
    clear hK K
  refine wpSeq_nil ?_
  clear l39 l40 lm ll Hto HC hf hne f X
  have hm1 : ¬ m < 0 := by omega
  have e : (if (if m < 0 then m else 0) < m then m else if m < 0 then m else 0) = m := by
    rw [if_neg hm1]; split <;> omega
  rw [e]
  have c39 : W.cell? ⟨w.heap.size, 39, none⟩ = some (.int .u32 0) := (bE.cell 39).trans (ent_at39 ..)
  go_wp2_with fail
  refine (sspan_any _).mono ?_
  rintro e w2 ⟨rfl, rfl⟩
  go_wp2
  go_ret
  exact ⟨by simp, kW.out.drew⟩
theorem nil_eq0 (d : Nat) (w : World) : (Op.equalIn (d + 1) 62 .nilFunc .nilFunc).run Ybaz.prog w = .ok true w := by
  simp [Op.equalIn, run_underlying Ybaz.underlying62]
theorem nil_eq (w : World) : (binOp .eql 62 .nilFunc .nilFunc).run Ybaz.prog w = .ok (.bool true) w := by
  have h : (Op.equal 62 .nilFunc .nilFunc).run Ybaz.prog w = .ok true w := by
    exact nil_eq0 9999 w
  simp [binOp, h]
set_option maxRecDepth 100000 in
theorem chall_any (tb bb : Nat) (sa sb k : Int) (cv : Value) (least most mu : Int) (bs : Value) (s : Nat → Int) (w : World) (bT : Blk w tb (tabv sa sb k cv least most mu bs s) 74) :
    Calls Ybaz.prog 19 #[.pointer (some ⟨tb, 0, none⟩), .pointer (some ⟨bb, 0, none⟩), .int .i64 0, .int .i64 0] w fun e w' => e = .returned (.bool false) ∧ w' = w := by
  have c30 := (bT.cell 30).trans (tab_item ..)
  have hn := nil_eq w
  go_enter Ybaz.func19, Ybaz.ntmps19
  go_wp2
  go_ret
  exact ⟨rfl, rfl⟩
end Go.Proofs.YbulkdbdsGreatDoor
