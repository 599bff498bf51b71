import Derived.Test.YbulkdbdsGreatDoorPrefix
namespace Go.Proofs.YbulkdbdsGreatDoor
open Go.RowKit Go.HeadTail
attribute [local go_sem] yields yUpon

/-- the sketch's eight words -/
def skv (s : Nat → Int) : Array Value := #[.int .u64 (s 0), .int .u64 (s 1), .int .u64 (s 2), .int .u64 (s 3), .int .u64 (s 4), .int .u64 (s 5), .int .u64 (s 6), .int .u64 (s 7)]
/-- a table -/
def tabv (sa sb k : Int) (cv : Value) (least most mu : Int) (bs : Value) (s : Nat → Int) : Array Value :=
  idv sa sb ++ #[.int .i64 k, .nilIface, cv, .int .u64 0, .int .i64 0, .pointer none, .int .i64 least, .int .i64 most, .bool false, .bool false, .nilFunc, .int .i32 mu, .int .u32 0, bs] ++ skv s
section
variable (sa sb k : Int) (cv : Value) (least most mu : Int) (bs : Value) (s : Nat → Int)
theorem tab_size : (tabv sa sb k cv least most mu bs s).size = 42 := by kernel_rfl
theorem tab_self : (tabv sa sb k cv least most mu bs s).extract 0 (0 + 20) = idv sa sb := by kernel_rfl
theorem tab_sk : (tabv sa sb k cv least most mu bs s).extract 34 (34 + 8) = skv s := by kernel_rfl
theorem tab_k : (tabv sa sb k cv least most mu bs s)[20]? = some (.int .i64 k) := by kernel_rfl
theorem tab_clock : (tabv sa sb k cv least most mu bs s)[22]? = some cv := by kernel_rfl
theorem tab_t0 : (tabv sa sb k cv least most mu bs s)[23]? = some (.int .u64 0) := by kernel_rfl
theorem tab_t1 : (tabv sa sb k cv least most mu bs s)[24]? = some (.int .i64 0) := by kernel_rfl
theorem tab_t2 : (tabv sa sb k cv least most mu bs s)[25]? = some (.pointer none) := by kernel_rfl
theorem tab_least : (tabv sa sb k cv least most mu bs s)[26]? = some (.int .i64 least) := by kernel_rfl
theorem tab_most : (tabv sa sb k cv least most mu bs s)[27]? = some (.int .i64 most) := by kernel_rfl
theorem tab_shared : (tabv sa sb k cv least most mu bs s)[28]? = some (.bool false) := by kernel_rfl
theorem tab_item : (tabv sa sb k cv least most mu bs s)[30]? = some .nilFunc := by kernel_rfl
theorem tab_mu : (tabv sa sb k cv least most mu bs s)[31]? = some (.int .i32 mu) := by kernel_rfl
theorem tab_bs : (tabv sa sb k cv least most mu bs s)[33]? = some bs := by kernel_rfl
theorem tab_setmu (mu' : Int) : (tabv sa sb k cv least most mu bs s).setIfInBounds 31 (.int .i32 mu') = tabv sa sb k cv least most mu' bs s := by kernel_rfl
theorem tab_setbs (bs' : Value) : (tabv sa sb k cv least most mu bs s).setIfInBounds 33 bs' = tabv sa sb k cv least most mu bs' s := by kernel_rfl
theorem tab_setsk (s' : Nat → Int) : lays (tabv sa sb k cv least most mu bs s) 34 (skv s').toList = tabv sa sb k cv least most mu bs s' := by kernel_rfl
end

set_option maxRecDepth 100000 in
set_option maxHeartbeats 1600000 in
theorem index_any (tb : Nat) (sa sb k : Int) (cv : Value) (least most mu : Int) (ba : Option Addr) (nb bc : Nat) (s : Nat → Int) (a b : Int) (h0 : 0 ≤ sa) (h1 : sa < 256) (g0 : 0 ≤ sb) (g1 : sb < 256) (h0' : 0 ≤ a) (h1' : a < 256) (g0' : 0 ≤ b) (g1' : b < 256) (hnb : 1 ≤ nb) (hnb' : nb ≤ 2)
    (w : World) (hb : Blk w tb (tabv sa sb k cv least most mu (.slice ba nb bc) s) 74) (hor : nb = 1 ∨ 128 ≤ sa.toNat ^^^ a.toNat) :
    Calls Ybaz.prog 14 #[.pointer (some ⟨tb, 0, none⟩), .agg (idv a b)] w fun e w' => e = .returned (.int .i64 0) ∧ Kept (fun _ => False) w w' := by
  go_enter Ybaz.func14, Ybaz.ntmps14
  go_wp2_with fail
  generalize hW : w.alloc (.cells (idv a b) 24) = W
  have kW : Kept (fun _ => False) w W := by rw [← hW]; exact (Kept.refl _ _).alloc _
  have bA : Blk W w.heap.size (idv a b) 24 := by rw [← hW]; exact Blk.new _ _ _
  have bT := kW.blk hb id
  clear hW
  replace kW := hide kW
  obtain ⟨X, f, hne, hf, hto⟩ := cls (Kept (fun _ => False) W) (World.drew W) (Kept.refl _ _).drew
  have HC := hide (hto _ (Kept.refl _ W).drew)
  have Hto := hide hto
  clear hto
  have lb : ∀ x, (f x).cell? ⟨tb, 33, none⟩ = some (.slice ba nb bc) := fun x => (((hf x).blk bT id).cell 33).trans (tab_bs ..)
  refine wp_region_seq (fun w' => ∃ x, w' = f x) [(true, 0), (true, 1), (true, 2), (true, 3), (true, 4), (true, 6), (true, 7), (true, 8), (true, 9), (true, 10), (true, 11), (false, 5), (true, 12), (true, 13)] (by kernel_rfl) (by kernel_rfl) (fun _ _ _ _ _ h => h) ?_
  simp only [pickS, List.getElem?_cons_zero, List.getElem?_cons_succ]
  iterate 3
    refine wpSeq_quiet HC.out (fun K hK => ?_)
    go_simp
    refine hK _ ?_
    clear hK K
  refine wpSeq_load_blk HC.out rfl 24 _ rfl (tb) 0 20 rfl (fun w' hw' => by obtain ⟨x, rfl⟩ := hw'; exact (hf x).blk bT id) (idv sa sb) (by kernel_rfl) (by kernel_rfl) (by kernel_rfl) ?_
  refine wpSeq_load_blk HC.out rfl 24 _ rfl (w.heap.size) 0 20 rfl (fun w' hw' => by obtain ⟨x, rfl⟩ := hw'; exact (hf x).blk bA id) (idv a b) (by kernel_rfl) (by kernel_rfl) (by kernel_rfl) ?_
  iterate 6
    refine wpSeq_quiet HC.out (fun K hK => ?_)
    go_simp
    refine hK _ ?_
    clear hK K
  refine wpSeq_forced (fun K hK => ?_)
  go_simp
  refine (prefix_any sa sb a b h0 h1 g0 g1 h0' h1' g0' g1' _).mono ?_
  rintro e w1 ⟨r, rfl, k1, r0, r1, r2⟩
  refine hK _ _ (Hto.out _ k1.ofDrew) ?_
  clear hK K
  clear HC
  have HC := hide (Hto.out _ k1.ofDrew)
  iterate 2
    refine wpSeq_quiet HC.out (fun K hK => ?_)
    go_simp
    refine hK _ ?_
    clear hK K
  refine wpSeq_nil ?_
  clear lb Hto HC hf hne f X
  have e : (if IntKind.i64.wrap ((nb : Int) - 1) < r then IntKind.i64.wrap ((nb : Int) - 1) else r) = 0 := by
    have h1' : IntKind.i64.wrap ((nb : Int) - 1) = nb - 1 := by
      obtain rfl | rfl : nb = 1 ∨ nb = 2 := by omega
      · rfl
      · rfl
    rw [h1']
    rcases hor with h | h
    · subst h; split <;> omega
    · have := r2 h; subst this; rw [if_neg (by omega)]
  rw [e]
  go_wp2
  go_ret
  exact ⟨rfl, kW.out.trans k1.ofDrew⟩
end Go.Proofs.YbulkdbdsGreatDoor
