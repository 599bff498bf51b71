import Derived.Test.YbulkdbdsSmall
import Derived.Test.YbulkdbdsRow
import Derived.Test.YbulkdbdsOrders
namespace Go.Proofs.Ybulkdbds
open Go.RowKit Go.HeadTail

attribute [local go_sem] yields yUpon

theorem info44 : (Yba.prog.info? 44).map (fun i => (i.zero, i.size, i.bytes)) = some (some (.agg #[.int .i64 0, .int .u64 0, .nilIface]), 3, 32) := by kernel_rfl

structure PInv (w : World) (cb base n g cap : Nat) (at_ : Nat → Int) (E : Nat → Nat) (c0 c1 c2 c3 c4 c5 c6 c8 c9 qv : Value) (i : Nat) (τ : Nat → Nat) (wr : World) : Prop where
  hole : Hole at_ n τ i
  clock : Blk wr cb #[c0, c1, c2, c3, c4, c5, c6, .slice (some ⟨g, 0, none⟩) (n + 1) cap, c8, c9] 40
  row : wr.ownsRow base 44 3 (.slice (some ⟨g, 0, none⟩) (n + 1) cap) (n + 1) (qcells at_ E τ (n + 1))
  box : Blk wr w.heap.size #[.int .i64 (at_ n), .int .u64 n, .iface 45 (.pointer (some ⟨E n, 0, none⟩))] 44
  where_ : qv.ownBlock = some g ∨ w.heap.size < g
  kept : Kept (fun k => k = cb ∨ qv.ownBlock = some k) w wr

theorem PInv.gne {w : World} {cb base n g cap : Nat} {at_ : Nat → Int} {E : Nat → Nat} {c0 c1 c2 c3 c4 c5 c6 c8 c9 qv : Value} {i : Nat} {τ : Nat → Nat} {wr : World} (h : PInv w cb base n g cap at_ E c0 c1 c2 c3 c4 c5 c6 c8 c9 qv i τ wr) (hq : qv.ownBlock ≠ some w.heap.size) : g ≠ w.heap.size := by
  rcases h.where_ with h | h
  · rintro rfl; exact hq h
  · omega

theorem pinv_kept {w : World} {cb base n g cap : Nat} {at_ : Nat → Int} {E : Nat → Nat} {c0 c1 c2 c3 c4 c5 c6 c8 c9 qv : Value} {i : Nat} {τ : Nat → Nat} {wr wr' : World} (h : PInv w cb base n g cap at_ E c0 c1 c2 c3 c4 c5 c6 c8 c9 qv i τ wr) (k : Kept (fun _ => False) wr wr') :
    PInv w cb base n g cap at_ E c0 c1 c2 c3 c4 c5 c6 c8 c9 qv i τ wr' :=
  ⟨h.hole, k.blk h.clock id, k.own h.row (fun _ _ h => h), k.blk h.box id, h.where_, h.kept.trans (k.mono fun _ _ h => h.elim)⟩

theorem set3_kept {S : Nat → Prop} {w wr : World} (h : Kept S w wr) (g a b c : Nat) (x y z : Value) (hg : g < w.heap.size → S g) : Kept S w (((wr.setCell ⟨g, a, none⟩ x).setCell ⟨g, b, none⟩ y).setCell ⟨g, c, none⟩ z) :=
  ((h.set (p := ⟨g, a, none⟩) hg x).set (p := ⟨g, b, none⟩) hg y).set (p := ⟨g, c, none⟩) hg z

theorem pinv_step {w : World} {cb base n g cap : Nat} {at_ : Nat → Int} {E : Nat → Nat} {c0 c1 c2 c3 c4 c5 c6 c8 c9 qv : Value} {i j : Nat} {τ : Nat → Nat} {v : Nat} {wr : World} (h : PInv w cb base n g cap at_ E c0 c1 c2 c3 c4 c5 c6 c8 c9 qv i τ wr) (hq : qv.ownBlock ≠ some w.heap.size) (hh : Hole at_ n (upd τ i v) j) :
    PInv w cb base n g cap at_ E c0 c1 c2 c3 c4 c5 c6 c8 c9 qv j (upd τ i v) (((wr.setCell ⟨g, i * 3, none⟩ (.int .i64 (at_ v))).setCell ⟨g, i * 3 + 1, none⟩ (.int .u64 v)).setCell ⟨g, i * 3 + 2, none⟩ (.iface 45 (.pointer (some ⟨E v, 0, none⟩)))) := by
  have hg := h.gne hq
  have hgc : cb ≠ g := fun e => own_ne h.row h.clock (by decide) (by simp [Value.ownBlock, e])
  refine ⟨hh, ((h.clock.setOther _ _ hgc).setOther _ _ hgc).setOther _ _ hgc, row_set h.row v, ((h.box.setOther _ _ (Ne.symm hg)).setOther _ _ (Ne.symm hg)).setOther _ _ (Ne.symm hg), h.where_, set3_kept h.kept _ _ _ _ _ _ _ fun hlt => ?_⟩
  rcases h.where_ with h1 | h1
  · exact .inr h1
  · omega

theorem pinv_end {w : World} {cb base n g cap : Nat} {at_ : Nat → Int} {E : Nat → Nat} {c0 c1 c2 c3 c4 c5 c6 c8 c9 qv : Value} {i : Nat} {τ : Nat → Nat} {wr : World} (h : PInv w cb base n g cap at_ E c0 c1 c2 c3 c4 c5 c6 c8 c9 qv i τ wr) (hh : Heap at_ (upd τ i n) (n + 1)) :
    ∃ cap σ', Blk (((wr.setCell ⟨g, i * 3, none⟩ (.int .i64 (at_ n))).setCell ⟨g, i * 3 + 1, none⟩ (.int .u64 n)).setCell ⟨g, i * 3 + 2, none⟩ (.iface 45 (.pointer (some ⟨E n, 0, none⟩)))) cb #[c0, c1, c2, c3, c4, c5, c6, .slice (some ⟨g, 0, none⟩) (n + 1) cap, c8, c9] 40 ∧
      (((wr.setCell ⟨g, i * 3, none⟩ (.int .i64 (at_ n))).setCell ⟨g, i * 3 + 1, none⟩ (.int .u64 n)).setCell ⟨g, i * 3 + 2, none⟩ (.iface 45 (.pointer (some ⟨E n, 0, none⟩)))).ownsRow base 44 3 (.slice (some ⟨g, 0, none⟩) (n + 1) cap) (n + 1) (qcells at_ E σ' (n + 1)) ∧ Heap at_ σ' (n + 1) ∧
        Kept (fun k => k = cb ∨ qv.ownBlock = some k) w (((wr.setCell ⟨g, i * 3, none⟩ (.int .i64 (at_ n))).setCell ⟨g, i * 3 + 1, none⟩ (.int .u64 n)).setCell ⟨g, i * 3 + 2, none⟩ (.iface 45 (.pointer (some ⟨E n, 0, none⟩)))) := by
  have hgc : cb ≠ g := fun e => own_ne h.row h.clock (by decide) (by simp [Value.ownBlock, e])
  refine ⟨cap, upd τ i n, ((h.clock.setOther _ _ hgc).setOther _ _ hgc).setOther _ _ hgc, row_set h.row n, hh, set3_kept h.kept _ _ _ _ _ _ _ fun hlt => ?_⟩
  rcases h.where_ with h1 | h1
  · exact .inr h1
  · omega

theorem before_true (at_ : Nat → Int) (a b : Nat) (h : beforeB (at_ a) a (at_ b) b = true) : lek at_ a b := by
  unfold beforeB at h; unfold lek
  split at h <;> simp at h <;> omega
theorem before_false (at_ : Nat → Int) (a b : Nat) (h : beforeB (at_ a) a (at_ b) b = false) : lek at_ b a := by
  unfold beforeB at h; unfold lek
  split at h <;> simp at h <;> omega

set_option maxHeartbeats 3200000 in
set_option maxRecDepth 100000 in
theorem push_any (cb base n : Nat) (at_ : Nat → Int) (E σ : Nat → Nat) (c0 c1 c2 c3 c4 c5 c6 c8 c9 qv : Value) (w : World)
    (hb : Blk w cb #[c0, c1, c2, c3, c4, c5, c6, qv, c8, c9] 40) (hq : w.ownsRow base 44 3 qv n (qcells at_ E σ n)) (hh : Heap at_ σ n) (hn : n < 100000) (hbase : base ≤ w.heap.size) :
    Calls Yba.prog 15 #[.pointer (some ⟨cb, 7, none⟩), .agg #[.int .i64 (at_ n), .int .u64 n, .iface 45 (.pointer (some ⟨E n, 0, none⟩))]] w fun e w' => e = .returned (.tuple #[]) ∧
      ∃ g cap σ', Blk w' cb #[c0, c1, c2, c3, c4, c5, c6, .slice (some ⟨g, 0, none⟩) (n + 1) cap, c8, c9] 40 ∧ w'.ownsRow base 44 3 (.slice (some ⟨g, 0, none⟩) (n + 1) cap) (n + 1) (qcells at_ E σ' (n + 1)) ∧ Heap at_ σ' (n + 1) ∧
        Kept (fun k => k = cb ∨ qv.ownBlock = some k) w w' := by
  obtain ⟨i0, hi0, hz0, hz1, hz2⟩ := info_parts info44
  have hHv : qv.ownBlock ≠ some w.heap.size := fun e => by have := hq.lt _ e; omega
  have hcv : qv.ownBlock ≠ some cb := own_ne hq hb (by decide)
  have hclt := hb.lt
  go_enter Yba.func15, Yba.ntmps15
  go_wp2_with fail
  generalize hW : w.alloc (.cells #[.int .i64 (at_ n), .int .u64 n, .iface 45 (.pointer (some ⟨E n, 0, none⟩))] 44) = W
  have bH : Blk W w.heap.size #[.int .i64 (at_ n), .int .u64 n, .iface 45 (.pointer (some ⟨E n, 0, none⟩))] 44 := by rw [← hW]; exact Blk.new _ _ _
  have bC : Blk W cb #[c0, c1, c2, c3, c4, c5, c6, qv, c8, c9] 40 := by rw [← hW]; exact hb.alloc _
  have ownW : Hid (W.ownsRow base 44 3 qv n (qcells at_ E σ n)) := by rw [← hW]; exact hq.alloc _
  have kW : Kept (fun k => k = cb ∨ qv.ownBlock = some k) w W := by rw [← hW]; exact (Kept.refl _ _).alloc _
  have hsz : W.heap.size = w.heap.size + 1 := by rw [← hW]; simp
  obtain ⟨X, f, hne, hf, hto⟩ := cls (Kept (fun k => qv.ownBlock = some k) W) W.drew (Kept.refl _ _).drew
  have Hto := hide hto
  have r0 : ∀ x, (f x).cell? ⟨cb, 7, none⟩ = some qv := fun x => ((hf x).blk bC hcv).cell 7
  have t0 := fun x => ((hf x).blk bH hHv).cell 0
  have t1 := fun x => ((hf x).blk bH hHv).cell 1
  have t2 := fun x => ((hf x).blk bH hHv).cell 2
  have Hsz := hide hsz
  clear hb hq hto hf hW hsz
  refine wp_region_headTail (fun w' => ∃ x, w' = f x) [0, 1, 2, 3, 4] [5, 6, 7, 8] 7 (by kernel_rfl) (by kernel_rfl) (fun _ _ _ _ _ h => h) (Hto.out _ (Kept.refl _ _).drew) ?_
  simp only [pick, List.getElem?_cons_zero, List.getElem?_cons_succ, List.map_cons, List.map_nil]
  iterate 5
    refine wpHead_step (fun K hK => ?_)
    go_simp
    refine hK _ ?_
    clear hK K
  clear r0 t0 t1 t2
  refine wpHead_nil ?_
  refine wpTail_plain rfl (fun K hK => ?_)
  go_simp
  refine hK _ _ (fun _ => Hto.out _ ((Kept.refl _ _).alloc _).drew) ?_
  clear hK K
  refine wpTail_plain rfl (fun K hK => ?_)
  refine wp_append_lies _ (.tmp 10) (.tmp 12) 38 rfl base 44 i0 (.agg #[.int .i64 0, .int .u64 0, .nilIface]) 3 32 Yba.underlying38 hi0 hz0 hz1 hz2 rfl (by decide) qv n _ rfl (ownW.out.alloc _) ⟨W.heap.size, 0, none⟩ 1 1 _ rfl rfl (World.news_of_block (heap_alloc_new W _)) ?_ (by decide) (by unfold maxLen; omega) (by omega) ?_ _ rfl ?_
  · intro u hu
    simp at hu
    rcases hu with rfl | rfl | rfl <;> rfl
  · have := Hsz.out
    simp; omega
  intro g cap w1 hown hgrow hat hlt
  have kW1 : Kept (fun k => k = cb ∨ qv.ownBlock = some k) w w1 := (((kW.alloc _).drew).grown hgrow (fun k _ e => .inr e))
  have kC : Kept (fun k => qv.ownBlock = some k) W w1 := ((((Kept.refl _ _).alloc _).drew).grown hgrow (fun k _ e => e))
  have bC1 := kC.blk bC hcv
  have bH1 := kC.blk bH hHv
  refine hK _ _ (fun _ => Hto.out _ kC) ?_
  clear hK K
  refine wpTail_late _ _ _ (by simp) ?_
  simp only [List.map_cons, List.map_nil]
  have d1 : w1.cell? ⟨cb, 7, none⟩ = some qv := bC1.cell 7
  have f1 : w1.frozen? ⟨cb, 7, none⟩ = false := bC1.frozen 7
  have hgw : qv.ownBlock = some g ∨ w.heap.size < g := by
    rcases hat with h | h
    · exact .inl h
    · have := Hsz.out
      have h' : g = W.heap.size + 1 := by simpa using h
      right; omega
  have hgc : g ≠ cb := by
    rcases hgw with h | h
    · intro e; rw [e] at h; exact hcv h
    · omega
  have hgH : g ≠ w.heap.size := by
    rcases hgw with h | h
    · intro e; rw [e] at h; exact hHv h
    · omega
  have inv0 : PInv w cb base n g cap at_ E c0 c1 c2 c3 c4 c5 c6 c8 c9 qv n (upd σ n n) (w1.setCell ⟨cb, 7, none⟩ (.slice (some ⟨g, 0, none⟩) (n + 1) cap)) := by
    refine ⟨hole_start hh, bC1.set 7 _, ?_, bH1.setOther _ _ (by show w.heap.size ≠ cb; omega), hgw, kW1.set (fun _ => .inl rfl) _⟩
    rw [← qcells_push]
    exact own_set hown _ _ (by simpa [Value.ownBlock] using hgc)
  have hgwH := hide hgw
  clear kW1 kC bC1 bH1 hown hgrow hat kW ownW bC bH hh hgw
  go_wp2_with fail
  go_loopw [5] (fun iv wr => ∃ (i : Nat) (τ : Nat → Nat), iv = .int .i64 i ∧ PInv w cb base n g cap at_ E c0 c1 c2 c3 c4 c5 c6 c8 c9 qv i τ wr) (fun iv _ => (intOf iv).toNat)
  case atStart => exact ⟨n, _, rfl, inv0⟩
  case round =>
    clear inv0 d1 f1
    obtain ⟨i, τ, rfl, inv⟩ := hrel
    have hin := inv.hole.le
    by_cases hi : 0 < i
    · obtain ⟨p, hp⟩ : ∃ p, p = (i - 1) / 2 := ⟨_, rfl⟩
      have hpn : p < n + 1 := by omega
      have hpz : ((i : Int) - 1) / 2 = (p : Int) := by omega
      have hpi : (p : Int) < ((n + 1 : Nat) : Int) := by omega
      have hpi' : (p : Int) < (n : Int) + 1 := by omega
      go_wp2_with fail
      rw [hpz]
      have HP := hide hp
      clear hpz hp
      obtain ⟨X, f, hne, hf, hto⟩ := cls (Kept (fun _ => False) wr) wr.drew (Kept.refl _ _).drew
      have Hto := hide hto
      have r0 : ∀ x, (f x).cell? ⟨g, p * 3, none⟩ = some (.int .i64 (at_ (τ p))) := fun x => row0 ((hf x).own inv.row (fun _ _ h => h)) hpn
      have r1 : ∀ x, (f x).cell? ⟨g, p * 3 + 1, none⟩ = some (.int .u64 (τ p)) := fun x => row1 ((hf x).own inv.row (fun _ _ h => h)) hpn
      have r2 : ∀ x, (f x).cell? ⟨g, p * 3 + 2, none⟩ = some (.iface 45 (.pointer (some ⟨E (τ p), 0, none⟩))) := fun x => row2 ((hf x).own inv.row (fun _ _ h => h)) hpn
      have t0 := fun x => ((hf x).blk inv.box id).cell 0
      have t1 := fun x => ((hf x).blk inv.box id).cell 1
      have t2 := fun x => ((hf x).blk inv.box id).cell 2
      clear hto hf
      refine wp_region_headTail (fun w' => ∃ x, w' = f x) [0, 1, 2, 3, 4] [5, 6] 7 (by kernel_rfl) (by kernel_rfl) (fun _ _ _ _ _ h => h) (Hto.out _ (Kept.refl _ _).drew) ?_
      simp only [pick, List.getElem?_cons_zero, List.getElem?_cons_succ, List.map_cons, List.map_nil]
      iterate 5
        refine wpHead_step (fun K hK => ?_)
        go_simp
        refine hK _ ?_
        clear hK K
      clear r0 r1 r2 t0 t1 t2
      refine wpHead_nil ?_
      refine wpTail_plain rfl (fun K hK => ?_)
      go_simp
      refine (before_any _ _ _ _ _ _ _ _ _).mono ?_
      rintro e w2 ⟨rfl, k2⟩
      have inv2 := pinv_kept inv ((Kept.refl (fun _ => False) wr).drew.trans k2)
      have hbt := before_true at_ n (τ p)
      have hbf := before_false at_ n (τ p)
      generalize beforeB (at_ n) n (at_ (τ p)) (τ p) = bb at hbt hbf
      have Hbt := hide hbt
      have Hbf := hide hbf
      clear hbt hbf
      refine hK _ _ (fun _ => Hto.out _ ((Kept.refl (fun _ => False) wr).drew.trans k2)) ?_
      clear hK K
      refine wpTail_plain rfl (fun K hK => ?_)
      go_simp
      refine hK _ _ (fun _ => Hto.out _ ((Kept.refl (fun _ => False) wr).drew.trans k2)) ?_
      clear hK K k2 inv
      refine wpTail_nil ?_
      have hil : i < n + 1 := by omega
      have hii : (i : Int) < (n : Int) + 1 := by omega
      have q0 := row0 inv2.row hpn
      have q1 := row1 inv2.row hpn
      have q2 := row2 inv2.row hpn
      have i0 := row0 inv2.row hil
      have i1 := row1 inv2.row hil
      have i2 := row2 inv2.row hil
      have z0 := inv2.row.frozenAt (i * 3)
      have z1 := inv2.row.frozenAt (i * 3 + 1)
      have z2 := inv2.row.frozenAt (i * 3 + 2)
      have b0 := inv2.box.cell 0
      have b1 := inv2.box.cell 1
      have b2 := inv2.box.cell 2
      cases bb
      · have hend := hole_end inv2.hole (.inr (by rw [← HP.out]; exact Hbf.out rfl))
        have fin := pinv_end inv2 hend
        clear q0 q1 q2 inv2 Hbt Hbf
        go_wp2
        go_end0
        exact ⟨rfl, g, fin⟩
      · have hstep := hole_step inv2.hole hi (by rw [← HP.out]; exact Hbt.out rfl)
        rw [← HP.out] at hstep
        have inv3 := pinv_step inv2 hHv hstep
        clear b0 b1 b2 inv2 Hbt Hbf
        go_wp2
        go_roundw
        case rel => exact ⟨p, _, rfl, inv3⟩
        case measure => have := HP.out; simp [intOf]; omega
    · have hi0 : i = 0 := by omega
      subst hi0
      have hil : 0 < n + 1 := by omega
      have i0 := row0 inv.row hil
      have i1 := row1 inv.row hil
      have i2 := row2 inv.row hil
      have z0 := inv.row.frozenAt (0 * 3)
      have z1 := inv.row.frozenAt (0 * 3 + 1)
      have z2 := inv.row.frozenAt (0 * 3 + 2)
      have b0 := inv.box.cell 0
      have b1 := inv.box.cell 1
      have b2 := inv.box.cell 2
      have hend := hole_end inv.hole (.inl rfl)
      have fin := pinv_end inv hend
      have hni : (0 : Int) < (n : Int) + 1 := by omega
      simp only [Nat.zero_mul, Nat.zero_add] at i0 i1 i2 z0 z1 z2 fin
      clear inv
      go_wp2
      go_end0
      exact ⟨rfl, g, fin⟩
#print axioms push_any
end Go.Proofs.Ybulkdbds
