import Derived.Test.YbulkdbdsGreatDoorSlice1
namespace Go.Proofs.YbulkdbdsGreatDoor
open Go.RowKit Go.HeadTail
attribute [local go_sem] yields yUpon
abbrev clk' (cb : Nat) : Value := .iface 25 (.pointer (some ⟨cb, 0, none⟩))
theorem method_now' (s : String) (a : Addr) (w : World) (h : (method 298 25 (.pointer (some a)) s).run Ybaz.prog w = .ok (109, .pointer (some a)) w) : (method 298 25 (.pointer (some a)) s).run Ybaz.prog w = .ok (109, .pointer (some a)) w := h
abbrev zb : Array Value := #[.slice none 0 0, .pointer none, .int .i64 0, .int .i64 0, .int .u32 0]
theorem info81 : (Ybaz.prog.info? 81).map (fun i => (i.zero, i.size, i.bytes)) = some (some (.agg zb), 5, 56) := by kernel_rfl
theorem fill81 (cv : Value) (wt : Option Addr) : Instr.fill (fun i => some (i * 5, 5)) ((Array.range (1 * 5)).map ((Value.agg zb).cells[· % (Value.agg zb).cells.size]!)) [(0, .agg (bkt cv wt))] = some (bkt cv wt) := by kernel_rfl
theorem wpList_slice81 {ops : Array Oper} {Q : Exit → Act → World → Prop} {rest : List Oper} {o : Oper} {A : Act} {w : World} (hg : o.guard = none) (x : Operand) (ho : o.op = .buildSlice 70 1 #[(0, x)]) (cv : Value) (wt : Option Addr) (hx : A.eval x = .agg (bkt cv wt))
    (h : wpList Ybaz.prog ops Q rest (A.put o.dst (.slice (some ⟨w.heap.size, 0, none⟩) 1 1)) (w.alloc (.cells (bkt cv wt) 81))) : wpList Ybaz.prog ops Q (o :: rest) A w := by
  obtain ⟨i, h1, h2, h3, h4⟩ := info_parts info81
  refine wpList_buildSlice hg 70 81 1 #[(0, x)] ho (bkt cv wt) i _ Ybaz.underlying70 h1 h2 (by rw [h3]; omega) (by rw [h3]; omega) ?_ h
  rw [h3]
  simp only [List.map_toArray, List.map_cons, List.map_nil, hx]
  exact fill81 cv wt

set_option maxRecDepth 100000 in
set_option maxHeartbeats 1600000 in
theorem newTable_any (cb : Nat) (sf sb k least most : Int) (w : World) (bC : Blk w cb T0 31) :
    Calls Ybaz.prog 5 #[.agg (idv sf sb), .int .i64 k, .int .i64 least, .int .i64 most, .nilIface, clk' cb] w fun e w' => ∃ tb bb, e = .returned (.pointer (some ⟨tb, 0, none⟩)) ∧ Blk w' tb (tabv sf sb k (clk' cb) least most 0 (.slice (some ⟨bb, 0, none⟩) 1 1) (fun _ => 0)) 74 ∧ Blk w' bb (bkt (.slice none 0 0) none) 81 ∧ w.heap.size ≤ tb ∧ w.heap.size ≤ bb ∧ Kept (fun _ => False) w w' := by
  go_enter Ybaz.func5, Ybaz.ntmps5
  go_wp2_with fail
  generalize hW : w.alloc (.cells (idv sf sb) 24) = W
  have kW : Kept (fun _ => False) w W := by rw [← hW]; exact (Kept.refl _ _).alloc _
  have bI : Blk W w.heap.size (idv sf sb) 24 := by rw [← hW]; exact Blk.new _ _ _
  have bCW := kW.blk bC id
  clear hW
  replace kW := hide kW
  obtain ⟨X, f, hne, hf, hto⟩ := cls (Kept (fun _ => False) W) (World.drew W) (Kept.refl _ _).drew
  have HC := hide (hto _ (Kept.refl _ W).drew)
  have Hto := hide hto
  clear hto
  refine wp_region_seq (fun w' => ∃ x, w' = f x) [(true, 0), (true, 1), (true, 2), (true, 3), (true, 4), (true, 5), (true, 6), (false, 7), (true, 8), (false, 9), (true, 10)] (by kernel_rfl) (by kernel_rfl) (fun _ _ _ _ _ h => h) ?_
  simp only [pickS, List.getElem?_cons_zero, List.getElem?_cons_succ]
  refine wpSeq_load_blk HC.out rfl 24 _ rfl (w.heap.size) 0 20 rfl (fun w' hw' => by obtain ⟨x, rfl⟩ := hw'; exact (hf x).blk bI id) (idv sf sb) (by kernel_rfl) (by kernel_rfl) (by kernel_rfl) ?_
  iterate 6
    refine wpSeq_quiet HC.out (fun K hK => ?_)
    go_simp
    refine hK _ ?_
    clear hK K
  refine wpSeq_forced (fun K hK => ?_)
  go_simp
  rw [method_now']
  rotate_left
  · kernel_rfl
  go_simp
  refine (now_any cb _ bCW.drew).mono ?_
  rintro e w1 ⟨rfl, k1⟩
  refine hK _ _ (Hto.out _ k1.ofDrew) ?_
  clear hK K
  clear HC
  have HC := hide (Hto.out _ k1.ofDrew)
  refine wpSeq_built HC.out rfl 74 _ rfl (tabv sf sb k (clk' cb) least most 0 (.slice none 0 0) (fun _ => 0)) (by kernel_rfl) ?_
  refine wpSeq_forced (fun K hK => ?_)
  go_simp
  refine hK _ _ (Hto.out _ (k1.ofDrew.alloc _)) ?_
  clear hK K HC
  have HC := hide (Hto.out _ (k1.ofDrew.alloc (.cells (tabv sf sb k (clk' cb) least most 0 (.slice none 0 0) (fun _ => 0)) 74)))
  iterate 1
    refine wpSeq_quiet HC.out (fun K hK => ?_)
    go_simp
    refine hK _ ?_
    clear hK K
  refine wpSeq_nil ?_
  clear  Hto HC hf hne f X
  have bT : Blk (w1.alloc (.cells (tabv sf sb k (clk' cb) least most 0 (.slice none 0 0) (fun _ => 0)) 74)) w1.heap.size (tabv sf sb k (clk' cb) least most 0 (.slice none 0 0) (fun _ => 0)) 74 := Blk.new _ _ _
  have kT : Kept (fun _ => False) w (w1.alloc (.cells (tabv sf sb k (clk' cb) least most 0 (.slice none 0 0) (fun _ => 0)) 74)) := (kW.out.trans k1.ofDrew).alloc _
  have hsT : (w1.alloc (.cells (tabv sf sb k (clk' cb) least most 0 (.slice none 0 0) (fun _ => 0)) 74)).heap.size = w1.heap.size + 1 := by simp
  have hs1 : w.heap.size ≤ w1.heap.size := (kW.out.trans k1.ofDrew).size
  generalize w1.alloc (.cells (tabv sf sb k (clk' cb) least most 0 (.slice none 0 0) (fun _ => 0)) 74) = T at *
  have bT2 : Blk (T.alloc (.cells (bkt (.slice none 0 0) none) 81)) w1.heap.size _ 74 := bT.alloc _
  have c33 := (bT2.cell 33).trans (tab_bs ..)
  have f33 := bT2.frozen 33
  have bB : Blk (T.alloc (.cells (bkt (.slice none 0 0) none) 81)) T.heap.size (bkt (.slice none 0 0) none) 81 := Blk.new _ _ _
  have kT2 := kT.alloc (.cells (bkt (.slice none 0 0) none) 81)
  replace kT := hide kT
  replace kT2 := hide kT2
  replace hsT := hide hsT
  go_wp2_with (first | (refine wpList_built rfl 81 _ rfl (bkt (.slice none 0 0) none) (by kernel_rfl) ?_; simp only [Act.put, List.setIfInBounds_toArray, List.set_cons_zero, List.set_cons_succ]) | (refine wpList_slice81 rfl _ rfl (.slice none 0 0) none rfl ?_; simp only [Act.put, List.setIfInBounds_toArray, List.set_cons_zero, List.set_cons_succ]))
  go_ret
  have hT := bT2.set 33 (.slice (some ⟨T.heap.size, 0, none⟩) 1 1)
  rw [tab_setbs] at hT
  have := hsT.out
  refine ⟨w1.heap.size, T.heap.size, rfl, hT, bB.setOther _ _ (by show T.heap.size ≠ w1.heap.size; omega), hs1, by omega, ?_⟩
  exact Kept.set kT2.out (fun h => absurd h (by show ¬ w1.heap.size < w.heap.size; omega)) _
end Go.Proofs.YbulkdbdsGreatDoor
