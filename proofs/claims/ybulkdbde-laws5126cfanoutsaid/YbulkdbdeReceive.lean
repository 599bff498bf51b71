import Derived.Test.YbulkdbdeProg
import Derived.Test.YbulkdbdeKit
import Derived.Test.YbulkdbdeOrders
import Derived.KernelRfl
namespace Go.Proofs.Ybulkdbde
open Go.RowKit Go.HeadTail

attribute [local go_sem] yields yUpon

def z62 : Value := .agg #[.int .i64 0, .string ⟨#[]⟩, .int .i64 0, .string ⟨#[]⟩, .string ⟨#[]⟩, .int .i64 0, .string ⟨#[]⟩, .int .i64 0, .int .i64 0, .int .i64 0, .string ⟨#[]⟩, .string ⟨#[]⟩, .string ⟨#[]⟩]
theorem info62 : (Yba.prog.info? 62).map (fun i => (i.zero, i.size, i.bytes)) = some (some z62, 13, 160) := by kernel_rfl

set_option maxHeartbeats 1600000 in
set_option maxRecDepth 100000 in
theorem receive_any (rb lb n : Nat) (id : Int) (v : Value) (xs : List Value) (base : Nat) (w : World)
    (s0 s2 s3 s5 s9 s10 s11 : ByteArray) (e1 e4 e6 e7 e8 : Int)
    (hr : Blk w rb #[.int .i64 id, .pointer (some ⟨lb, 0, none⟩)] 50) (hl : Blk w lb #[v] 45)
    (hown : w.ownsRow base 62 13 v n xs) (hn : n < 1000000) (hbase : base ≤ w.heap.size) (hrv : v.ownBlock ≠ some rb) (hlv : v.ownBlock ≠ some lb) :
    Calls Yba.prog 69 #[.pointer (some ⟨rb, 0, none⟩), .agg #[.string s0, .int .i64 e1, .string s2, .string s3, .int .i64 e4, .string s5, .int .i64 e6, .int .i64 e7, .int .i64 e8, .string s9, .string s10, .string s11]] w fun e w' =>
      e = .returned (.tuple #[]) ∧ ∃ g cap, Blk w' lb #[.slice (some ⟨g, 0, none⟩) (n + 1) cap] 45 ∧
        w'.ownsRow base 62 13 (.slice (some ⟨g, 0, none⟩) (n + 1) cap) (n + 1) (xs ++ [.int .i64 id, .string s0, .int .i64 e1, .string s2, .string s3, .int .i64 e4, .string s5, .int .i64 e6, .int .i64 e7, .int .i64 e8, .string s9, .string s10, .string s11]) ∧
        (v.ownBlock = some g ∨ w.heap.size ≤ g) ∧ Kept (fun k => k = lb ∨ v.ownBlock = some k) w w' := by
  obtain ⟨i0, hi0, hz0, hz1, hz2⟩ := info_parts info62
  have hHv : v.ownBlock ≠ some w.heap.size := fun e => by have := hown.lt _ e; omega
  go_enter Yba.func69, Yba.ntmps69
  go_wp2_with fail
  generalize hW : w.alloc (.cells #[.string s0, .int .i64 e1, .string s2, .string s3, .int .i64 e4, .string s5, .int .i64 e6, .int .i64 e7, .int .i64 e8, .string s9, .string s10, .string s11] 57) = W
  have bH : Blk W w.heap.size #[.string s0, .int .i64 e1, .string s2, .string s3, .int .i64 e4, .string s5, .int .i64 e6, .int .i64 e7, .int .i64 e8, .string s9, .string s10, .string s11] 57 := by rw [← hW]; exact Blk.new _ _ _
  have bR : Blk W rb #[.int .i64 id, .pointer (some ⟨lb, 0, none⟩)] 50 := by rw [← hW]; exact hr.alloc _
  have bL : Blk W lb #[v] 45 := by rw [← hW]; exact hl.alloc _
  have ownW : Hid (W.ownsRow base 62 13 v n xs) := by rw [← hW]; exact hown.alloc _
  have kW : Kept (fun k => k = lb ∨ v.ownBlock = some k) w W := by rw [← hW]; exact (Kept.refl _ _).alloc _
  have hsz : W.heap.size = w.heap.size + 1 := by rw [← hW]; simp
  have hltL := hl.lt
  obtain ⟨X, f, hne, hf, hto⟩ := cls (Kept (fun k => v.ownBlock = some k) W) W.drew (Kept.refl _ _).drew
  have Hto := hide hto
  have r0 : ∀ x, (f x).cell? ⟨rb, 0, none⟩ = some (.int .i64 id) := fun x => ((hf x).blk bR hrv).cell 0
  have r1 : ∀ x, (f x).cell? ⟨rb, 1, none⟩ = some (.pointer (some ⟨lb, 0, none⟩)) := fun x => ((hf x).blk bR hrv).cell 1
  have l0 : ∀ x, (f x).cell? ⟨lb, 0, none⟩ = some v := fun x => ((hf x).blk bL hlv).cell 0
  have t0 := fun x => ((hf x).blk bH hHv).cell 0
  have t1 := fun x => ((hf x).blk bH hHv).cell 1
  have t2 := fun x => ((hf x).blk bH hHv).cell 2
  have t3 := fun x => ((hf x).blk bH hHv).cell 3
  have t4 := fun x => ((hf x).blk bH hHv).cell 4
  have t5 := fun x => ((hf x).blk bH hHv).cell 5
  have t6 := fun x => ((hf x).blk bH hHv).cell 6
  have t7 := fun x => ((hf x).blk bH hHv).cell 7
  have t8 := fun x => ((hf x).blk bH hHv).cell 8
  have t9 := fun x => ((hf x).blk bH hHv).cell 9
  have t10 := fun x => ((hf x).blk bH hHv).cell 10
  have t11 := fun x => ((hf x).blk bH hHv).cell 11
  have Hsz := hide hsz
  clear hr hl hown hto hf bH bR hW hsz
  refine wp_region_headTail (fun w' => ∃ x, w' = f x) 16 18 (by kernel_rfl) (by kernel_rfl) (fun _ _ _ _ _ h => h) (Hto.out _ (Kept.refl _ _).drew) ?_
  simp only [List.take_succ_cons, List.take_zero, List.drop_succ_cons, List.drop_zero]
  iterate 16
    refine wpHead_step (fun K hK => ?_)
    go_simp
    refine hK _ ?_
    clear hK K
  clear r0 r1 l0 t0 t1 t2 t3 t4 t5 t6 t7 t8 t9 t10 t11
  refine wpHead_nil ?_
  refine wpTail_plain rfl (fun K hK => ?_)
  go_simp
  refine hK _ _ (fun _ => Hto.out _ ((Kept.refl _ _).alloc _).drew) ?_
  clear hK K
  refine wpTail_plain rfl (fun K hK => ?_)
  refine wp_append_lies _ (.tmp 13) (.tmp 20) 45 rfl base 62 i0 z62 13 160 Yba.underlying45 hi0 hz0 hz1 hz2 rfl (by decide) v n xs rfl (ownW.out.alloc _) ⟨W.heap.size, 0, none⟩ 1 1 _ rfl rfl (World.news_of_block (heap_alloc_new W _)) ?_ (by decide) (by unfold maxLen; omega) (by omega) ?_ _ rfl ?_
  · intro u hu
    simp at hu
    rcases hu with rfl | rfl | rfl | rfl | rfl | rfl | rfl | rfl | rfl | rfl | rfl | rfl | rfl <;> rfl
  · have := Hsz.out
    simp; omega
  intro g cap w1 hown hgrow hat hlt
  have kW1 : Kept (fun k => k = lb ∨ v.ownBlock = some k) w w1 := (((kW.alloc _).drew).grown hgrow (fun k _ e => .inr e))
  have kC : Kept (fun k => v.ownBlock = some k) W w1 := ((((Kept.refl _ _).alloc _).drew).grown hgrow (fun k _ e => e))
  have bL1 := kC.blk bL hlv
  refine hK _ _ (fun _ => Hto.out _ kC) ?_
  clear hK K
  refine wpTail_late _ _ _ _ (by omega) ?_
  have c1 : w1.cell? ⟨lb, 0, none⟩ = some v := bL1.cell 0
  have f1 : w1.frozen? ⟨lb, 0, none⟩ = false := bL1.frozen 0
  go_wp2
  go_end0
  have hgl : g ≠ lb := by
    rcases hat with h | h
    · intro e; rw [e] at h; exact hlv h
    · have := Hsz.out
      simp at h; omega
  refine ⟨rfl, g, cap, bL1.set 0 _, own_set hown _ _ (by simpa [Value.ownBlock] using hgl), ?_, kW1.set (fun _ => .inl rfl) _⟩
  rcases hat with h | h
  · exact .inl h
  · have := Hsz.out
    simp at h; right; omega
#print axioms receive_any
end Go.Proofs.Ybulkdbde
