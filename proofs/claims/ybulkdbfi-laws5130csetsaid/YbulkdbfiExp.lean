import Derived.Test.YbulkdbfiMk
import Derived.Laws.StructEq
namespace Go.Proofs.Ybulkdbfi
open Go.RowKit Go.HeadTail

attribute [local go_sem] yields yUpon

theorem nm_inj (i j : Nat) (hi : i < 4) (hj : j < 4) : ((nmI i).toList == (nmI j).toList) = (i == j) := by
  rw [ByteArray.toList_eq, ByteArray.toList_eq]
  match i, hi, j, hj with
  | 0, _, 0, _ | 0, _, 1, _ | 0, _, 2, _ | 0, _, 3, _ => rfl
  | 1, _, 0, _ | 1, _, 1, _ | 1, _, 2, _ | 1, _, 3, _ => rfl
  | 2, _, 0, _ | 2, _, 1, _ | 2, _, 2, _ | 2, _, 3, _ => rfl
  | 3, _, 0, _ | 3, _, 1, _ | 3, _, 2, _ | 3, _, 3, _ => rfl
theorem dm_inj (i j : Nat) (hi : i < 3) (hj : j < 3) : ((dmI i).toList == (dmI j).toList) = (i == j) := by
  rw [ByteArray.toList_eq, ByteArray.toList_eq]
  match i, hi, j, hj with
  | 0, _, 0, _ | 0, _, 1, _ | 0, _, 2, _ => rfl
  | 1, _, 0, _ | 1, _, 1, _ | 1, _, 2, _ => rfl
  | 2, _, 0, _ | 2, _, 1, _ | 2, _, 2, _ => rfl
theorem pt_inj (i j : Nat) (hi : i < 3) (hj : j < 3) : ((ptI i).toList == (ptI j).toList) = (i == j) := by
  rw [ByteArray.toList_eq, ByteArray.toList_eq]
  match i, hi, j, hj with
  | 0, _, 0, _ | 0, _, 1, _ | 0, _, 2, _ => rfl
  | 1, _, 0, _ | 1, _, 1, _ | 1, _, 2, _ => rfl
  | 2, _, 0, _ | 2, _, 1, _ | 2, _, 2, _ => rfl

theorem toNat_beq {x y : Int} (hx : 0 ≤ x) (hy : 0 ≤ y) : (x.toNat == y.toNat) = (x == y) := by
  apply Bool.eq_iff_iff.2
  simp
  omega

theorem key_eq (d : Nat) (a b : Ck) (ha : a.ok) (hb : b.ok) (w : World) : (Op.equalIn (d + 2) 43 (keyV a) (keyV b)).run Yba.prog w = .ok (same a b) w := by
  obtain ⟨a1, a2, a3, a4, a5, a6, a7, a8⟩ := ha
  obtain ⟨b1, b2, b3, b4, b5, b6, b7, b8⟩ := hb
  unfold keyV
  rw [run_equalIn_struct w (d + 1) 43 _ _ (by kernel_rfl) (by kernel_rfl)]
  have n1 := nm_inj (a.n % 4).toNat (b.n % 4).toNat (by omega) (by omega)
  have n2 := dm_inj (a.d % 3).toNat (b.d % 3).toNat (by omega) (by omega)
  have n3 := pt_inj (a.p % 3).toNat (b.p % 3).toNat (by omega) (by omega)
  rw [toNat_beq (by omega) (by omega)] at n1 n2 n3
  simp [Program.fieldsOf, Yba.underlying43, Op.eqFields, go_sem]
  have q1 : ((nm a).toList = (nm b).toList) ↔ (a.n % 4 = b.n % 4) := by simpa [nm] using Bool.eq_iff_iff.1 n1
  have q2 : ((dm a).toList = (dm b).toList) ↔ (a.d % 3 = b.d % 3) := by simpa [dm] using Bool.eq_iff_iff.1 n2
  have q3 : ((pt a).toList = (pt b).toList) ↔ (a.p % 3 = b.p % 3) := by simpa [pt] using Bool.eq_iff_iff.1 n3
  simp only [q1, q2, q3]
  unfold same
  by_cases h1 : a.n % 4 = b.n % 4
  · by_cases h2 : a.d % 3 = b.d % 3
    · by_cases h3 : a.p % 3 = b.p % 3
      · simp [h1, h2, h3]
      · simp [h1, h2, h3]
    · simp [h1, h2]
  · simp [h1]

set_option maxHeartbeats 1600000 in
theorem expired_row (N D P : ByteArray) (tn tx m x : Int) (b : Nat) (w : World) (hb : Blk w b (ckRow N D P tn tx) 58) (h0 : 0 ≤ tn) (h1 : tn < 1000000000) (g0 : 0 ≤ m) (g1 : m < 1000000000) :
    Calls Yba.prog 16 #[.pointer (some ⟨b, 0, none⟩), .agg #[.int .u64 m, .int .i64 x, .pointer none]] w fun e w' => e = .returned (.bool (!(decide (tn = 0) && decide (tx = 0)) && !(decide (x * 1000000000 + m < tx * 1000000000 + tn)))) ∧ Kept (fun _ => False) w w' := by
  have hlt := hb.lt
  go_enter Yba.func16, Yba.ntmps16
  go_wp2_with fail
  generalize hW : w.alloc (.cells #[.int .u64 m, .int .i64 x, .pointer none] 48) = W
  have bW : Blk W b (ckRow N D P tn tx) 58 := by rw [← hW]; exact hb.alloc _
  have bI : Blk W w.heap.size #[.int .u64 m, .int .i64 x, .pointer none] 48 := by rw [← hW]; exact Blk.new _ _ _
  have kW : Kept (fun _ => False) w W := by rw [← hW]; exact (Kept.refl _ _).alloc _
  obtain ⟨X, f, hne, hf, hto⟩ := cls (Kept (fun _ => False) W) W.drew (Kept.refl _ _).drew
  have Hto := hide hto
  have r7 : ∀ x, (f x).cell? ⟨b, 7, none⟩ = some (.int .u64 tn) := fun x => ((hf x).blk bW id).cell 7
  have r8 : ∀ x, (f x).cell? ⟨b, 8, none⟩ = some (.int .i64 tx) := fun x => ((hf x).blk bW id).cell 8
  have r9 : ∀ x, (f x).cell? ⟨b, 9, none⟩ = some (.pointer none) := fun x => ((hf x).blk bW id).cell 9
  have s0 : ∀ y, (f y).cell? ⟨w.heap.size, 0, none⟩ = some (.int .u64 m) := fun y => ((hf y).blk bI id).cell 0
  have s1 : ∀ y, (f y).cell? ⟨w.heap.size, 1, none⟩ = some (.int .i64 x) := fun y => ((hf y).blk bI id).cell 1
  have s2 : ∀ y, (f y).cell? ⟨w.heap.size, 2, none⟩ = some (.pointer none) := fun y => ((hf y).blk bI id).cell 2
  have HC := hide (Hto.out _ (Kept.refl (fun _ => False) W).drew)
  clear hto hf hW hb
  refine wp_region_seq (fun w' => ∃ x, w' = f x) [(true, 0), (true, 1), (true, 2), (true, 3), (false, 4), (true, 5), (true, 6), (true, 7), (true, 8), (true, 9), (true, 10), (true, 11), (false, 12), (true, 13), (true, 14), (true, 15)] (by kernel_rfl) (by kernel_rfl) (fun _ _ _ _ _ h => h) ?_
  simp only [pickS, List.getElem?_cons_zero, List.getElem?_cons_succ]
  iterate 4
    refine wpSeq_quiet HC.out (fun K hK => ?_)
    go_simp
    refine hK _ ?_
    clear hK K
  refine wpSeq_forced (fun K hK => ?_)
  go_simp
  refine (isZero_any tn tx _ _).mono ?_
  rintro e W1 ⟨rfl, k1⟩
  have kW1 := (Kept.refl (fun _ => False) W).drew.trans k1
  refine hK _ _ (Hto.out _ kW1) ?_
  clear hK K k1
  have HC1 := hide (Hto.out _ kW1)
  clear HC
  cases hz : (decide (tn = 0) && decide (tx = 0)) with
  | true =>
    iterate 7
      refine wpSeq_quiet HC1.out (fun K hK => ?_)
      go_simp
      refine hK _ ?_
      clear hK K
    refine wpSeq_forced (fun K hK => ?_)
    go_simp
    refine hK _ _ HC1.out ?_
    clear hK K
    iterate 3
      refine wpSeq_quiet HC1.out (fun K hK => ?_)
      go_simp
      refine hK _ ?_
      clear hK K
    refine wpSeq_nil ?_
    go_wp2
    go_ret
    refine ⟨by rw [hz]; simp, ?_⟩
    repeat (first | exact kW.trans kW1 | refine Kept.drew ?_)
  | false =>
    iterate 7
      refine wpSeq_quiet HC1.out (fun K hK => ?_)
      go_simp
      refine hK _ ?_
      clear hK K
    refine wpSeq_forced (fun K hK => ?_)
    go_simp
    refine (after_any tn tx m x _ h0 h1 g0 g1).mono ?_
    rintro e W2 ⟨rfl, k2⟩
    have kW2 := kW1.trans k2
    refine hK _ _ (Hto.out _ kW2) ?_
    clear hK K k2
    have HC2 := hide (Hto.out _ kW2)
    clear HC1
    iterate 3
      refine wpSeq_quiet HC2.out (fun K hK => ?_)
      go_simp
      refine hK _ ?_
      clear hK K
    refine wpSeq_nil ?_
    go_wp2
    go_ret
    refine ⟨by rw [hz]; simp, ?_⟩
    repeat (first | exact kW.trans kW2 | refine Kept.drew ?_)

theorem expired_any (k : Ck) (hk : k.ok) (m : Int) (b : Nat) (w : World) (hb : Blk w b (ckCells k) 58) (g0 : -9223372036854775808 ≤ m) (g1 : m ≤ 9223372036854775807) :
    Calls Yba.prog 16 #[.pointer (some ⟨b, 0, none⟩), .agg #[.int .u64 (tN m), .int .i64 (tX m), .pointer none]] w fun e w' => e = .returned (.bool (exps k m)) ∧ Kept (fun _ => False) w w' := by
  have h1 := t_eq k.e hk.e0 hk.e1
  have h2 := t_eq m g0 g1
  have he : exps k m = (!(decide (tN k.e = 0) && decide (tX k.e = 0)) && !(decide (tX m * 1000000000 + tN m < tX k.e * 1000000000 + tN k.e))) := by
    rw [h1.2.2, h2.2.2]
    unfold exps
    by_cases hz : k.e = 0
    · rw [hz, tN0, tX0]; simp
    · have : ¬ (tN k.e = 0 ∧ tX k.e = 0) := by rintro ⟨e1, e2⟩; rw [e1, e2] at h1; omega
      by_cases hm : k.e ≤ m
      · have h3 : ¬ m < k.e := by omega
        have hz' : (decide (tN k.e = 0) && decide (tX k.e = 0)) = false := by
          cases h : (decide (tN k.e = 0) && decide (tX k.e = 0)) with
          | false => rfl
          | true => simp at h; exact absurd h this
        rw [hz']
        simp [hz, hm, h3]
      · have h3 : m < k.e := by omega
        simp [hm, h3]
  rw [he]
  exact expired_row _ _ _ _ _ _ _ b w hb h1.1 h1.2.1 h2.1 h2.2.1

/-- The closure of set: 'old.id() == c.id()'. -/
theorem clo_any (a c : Ck) (ha : a.ok) (hc : c.ok) (b cb cx : Nat) (w : World) (hb : Blk w b (ckCells a) 58) (hcb : Blk w cb (ckCells c) 58) (hx : Blk w cx #[.pointer (some ⟨cb, 0, none⟩)] 40) :
    Calls Yba.prog 15 #[.pointer (some ⟨b, 0, none⟩), .pointer (some ⟨cx, 0, none⟩)] w fun e w' => e = .returned (.bool (same a c)) ∧ Kept (fun _ => False) w w' := by
  have hE : ∀ W : World, (Op.equalIn 10000 43 (keyV a) (keyV c)).run Yba.prog W = .ok (same a c) W := fun W => key_eq 9998 a c ha hc W
  unfold keyV at hE
  go_enter Yba.func15, Yba.ntmps15
  go_wp2_with fail
  obtain ⟨X, f, hne, hf, hto⟩ := cls (Kept (fun _ => False) w) w.drew (Kept.refl _ _).drew
  have Hto := hide hto
  have r0 : ∀ x, (f x).cell? ⟨cx, 0, none⟩ = some (.pointer (some ⟨cb, 0, none⟩)) := fun x => ((hf x).blk hx id).cell 0
  have HC := hide (Hto.out _ (Kept.refl (fun _ => False) w).drew)
  clear hto hf
  refine wp_region_seq (fun w' => ∃ x, w' = f x) [(true, 0), (true, 2), (false, 1), (false, 3), (false, 4), (false, 5)] (by kernel_rfl) (by kernel_rfl) (fun _ _ _ _ _ h => h) ?_
  simp only [pickS, List.getElem?_cons_zero, List.getElem?_cons_succ]
  iterate 2
    refine wpSeq_quiet HC.out (fun K hK => ?_)
    go_simp
    refine hK _ ?_
    clear hK K
  refine wpSeq_forced (fun K hK => ?_)
  go_simp
  refine (id_any a b _ hb.drew).mono ?_
  rintro e W1 ⟨rfl, k1⟩
  have kW1 := (Kept.refl (fun _ => False) w).drew.trans k1
  refine hK _ _ (Hto.out _ kW1) ?_
  clear hK K k1
  refine wpSeq_forced (fun K hK => ?_)
  go_simp
  refine (id_any c cb _ (kW1.blk hcb id)).mono ?_
  rintro e W2 ⟨rfl, k2⟩
  have kW2 := kW1.trans k2
  refine hK _ _ (Hto.out _ kW2) ?_
  clear hK K k2
  unfold keyV
  refine wpSeq_forced (fun K hK => ?_)
  go_simp
  refine hK _ _ (Hto.out _ kW2) ?_
  clear hK K
  refine wpSeq_forced (fun K hK => ?_)
  go_simp
  refine hK _ _ (Hto.out _ kW2) ?_
  clear hK K
  refine wpSeq_nil ?_
  go_wp2
  go_ret
  refine ⟨rfl, ?_⟩
  repeat (first | exact kW2 | refine Kept.drew ?_)

end Go.Proofs.Ybulkdbfi
