import Derived.Test.YbulkdbeuPlus
import Derived.Test.YbulkdbeuOrders
namespace Go.Proofs.Ybulkdbeu
open Go.RowKit Go.HeadTail

attribute [local go_sem] yields yUpon

/-- the word that repeats the sign -/
def fx (a : Int) : Int := if a < 0 then 18446744073709551615 else 0
theorem fx_word (a : Int) : Word (fx a) := by unfold fx Word; split <;> omega
theorem fx_neg {a : Int} (h : a < 0) : fx a = 18446744073709551615 := by unfold fx; rw [if_pos h]
theorem fx_pos {a : Int} (h : ¬ a < 0) : fx a = 0 := by unfold fx; rw [if_neg h]
theorem u64_lo (a : Int) : IntKind.u64.wrap a = lo a := by rw [IntKind.wrap_u64]; rfl

set_option maxHeartbeats 1600000 in
theorem ext_any (a : Int) (w : World) : Calls Yba.prog 10 #[.int .i64 a] w fun e w' => e = .returned (.agg #[.int .u64 (lo a), .int .u64 (fx a), .int .u64 (fx a), .int .u64 (fx a)]) ∧ Kept (fun _ => False) w w' := by
  have hu := u64_lo a
  by_cases h : a < 0
  · rw [fx_neg h]
    go_enter Yba.func10, Yba.ntmps10
    go_wp2
    refine bodyPost_ret (v := .agg #[.int .u64 (lo a), .int .u64 18446744073709551615, .int .u64 18446744073709551615, .int .u64 18446744073709551615]) (by simp [results, Yba.results10, go_sem]) rfl ⟨rfl, ?_⟩
    repeat (first | exact Kept.refl _ _ | refine Kept.alloc ?_ _ | refine Kept.drew ?_ | refine Kept.set ?_ (fun h => absurd h (by simp)) _)
  · rw [fx_pos h]
    go_enter Yba.func10, Yba.ntmps10
    go_wp2
    refine bodyPost_ret (v := .agg #[.int .u64 (lo a), .int .u64 0, .int .u64 0, .int .u64 0]) (by simp [results, Yba.results10, go_sem]) rfl ⟨rfl, ?_⟩
    repeat (first | exact Kept.refl _ _ | refine Kept.alloc ?_ _ | refine Kept.drew ?_ | refine Kept.set ?_ (fun h => absurd h (by simp)) _)

/-- the plain law: the sum of the extended numbers, word for word; n: is the true sum negative? -/
theorem ext_sum (a b : Int) (ha0 : -9223372036854775808 ≤ a) (ha1 : a ≤ 9223372036854775807) (hb0 : -9223372036854775808 ≤ b) (hb1 : b ≤ 9223372036854775807) :
    lo (lo a + lo b) = lo (a + b) ∧ lo (fx a + fx b + hi (lo a + lo b)) = fx (a + b) ∧ lo (fx a + fx b + hi (fx a + fx b + hi (lo a + lo b))) = fx (a + b) ∧
      lo (fx a + fx b + hi (fx a + fx b + hi (fx a + fx b + hi (lo a + lo b)))) = fx (a + b) := by
  unfold lo hi fx
  by_cases h1 : a < 0 <;> by_cases h2 : b < 0 <;> by_cases h3 : a + b < 0 <;> simp only [h1, h2, h3, if_true, if_false] <;> omega

theorem lo_wrap (s : Int) : lo (wrap64 s) = lo s := by unfold lo wrap64; omega

theorem ext_plus (a b : Int) (ha0 : -9223372036854775808 ≤ a) (ha1 : a ≤ 9223372036854775807) (hb0 : -9223372036854775808 ≤ b) (hb1 : b ≤ 9223372036854775807) (W : World) :
    Calls Yba.prog 7 #[.agg #[.int .u64 (lo a), .int .u64 (fx a), .int .u64 (fx a), .int .u64 (fx a)], .agg #[.int .u64 (lo b), .int .u64 (fx b), .int .u64 (fx b), .int .u64 (fx b)]] W fun e w' =>
      e = .returned (.agg #[.int .u64 (lo (a + b)), .int .u64 (fx (a + b)), .int .u64 (fx (a + b)), .int .u64 (fx (a + b))]) ∧ Kept (fun _ => False) W w' := by
  obtain ⟨e0, e1, e2, e3⟩ := ext_sum a b ha0 ha1 hb0 hb1
  have := plus_any (lo a) (fx a) (fx a) (fx a) (lo b) (fx b) (fx b) (fx b) (lo_word _) (fx_word _) (fx_word _) (fx_word _) (lo_word _) (fx_word _) (fx_word _) (fx_word _) W
  rw [e0, e1, e2, e3] at this
  exact this

set_option maxHeartbeats 3200000 in
set_option maxRecDepth 100000 in
theorem i1 (a b : Int) (ha0 : -9223372036854775808 ≤ a) (ha1 : a ≤ 9223372036854775807) (hb0 : -9223372036854775808 ≤ b) (hb1 : b ≤ 9223372036854775807) (w : World) (ha : a < 0) (hb : b < 0) (hs : wrap64 (a + b) < 0) :
    Calls Yba.prog 5 #[.int .i64 a, .int .i64 b] w fun e w' => e = .returned (.bool true) ∧ Kept (fun _ => False) w w' := by
  have hu := u64_lo (wrap64 (a + b))
  rw [lo_wrap] at hu
  have HF : Hid (fx (a + b) = 18446744073709551615) := fx_neg (by omega)
  have hS := hide (ext_plus a b ha0 ha1 hb0 hb1)
  go_enter Yba.func5, Yba.ntmps5
  go_wp2_with fail
  generalize hW : w.alloc (.cells #[.int .u64 (lo (a + b)), .int .u64 18446744073709551615, .int .u64 18446744073709551615, .int .u64 18446744073709551615] 24) = W
  have bX : Blk W w.heap.size #[.int .u64 (lo (a + b)), .int .u64 18446744073709551615, .int .u64 18446744073709551615, .int .u64 18446744073709551615] 24 := by rw [← hW]; exact Blk.new _ _ _
  have kW : Kept (fun _ => False) w W := by rw [← hW]; exact (Kept.refl _ _).alloc _
  clear hW hu
  obtain ⟨X, f, hne, hf, hto⟩ := cls (Kept (fun _ => False) W) W.drew (Kept.refl _ _).drew
  have Hto := hide hto
  have t0 := fun x => ((hf x).blk bX id).cell 0
  have t1 := fun x => ((hf x).blk bX id).cell 1
  have t2 := fun x => ((hf x).blk bX id).cell 2
  have t3 := fun x => ((hf x).blk bX id).cell 3
  have HCw := hide (hto _ ((Kept.refl (fun _ => False) W).drew))
  clear hto hf bX ha hb hs ha0 ha1 hb0 hb1
  refine wp_region_seq (fun w' => ∃ x, w' = f x) [(true, 0), (true, 2), (true, 5), (false, 1), (false, 3), (false, 4), (true, 6), (true, 7)] (by kernel_rfl) (by kernel_rfl) (fun _ _ _ _ _ h => h) ?_
  simp only [pickS, List.getElem?_cons_zero, List.getElem?_cons_succ]
  iterate 3
    refine wpSeq_quiet HCw.out (fun K hK => ?_)
    go_simp
    refine hK _ ?_
    clear hK K
  clear t0 t1 t2 t3
  refine wpSeq_forced (fun K hK => ?_)
  go_simp
  refine (ext_any a _).mono ?_
  rintro r w1 ⟨rfl, k1⟩
  have q1 := (Kept.refl (fun _ => False) W).drew.trans k1
  refine hK _ _ (Hto.out _ q1) ?_
  clear hK K
  refine wpSeq_forced (fun K hK => ?_)
  go_simp
  refine (ext_any b _).mono ?_
  rintro r w2 ⟨rfl, k2⟩
  have q2 := q1.trans k2
  refine hK _ _ (Hto.out _ q2) ?_
  clear hK K
  refine wpSeq_forced (fun K hK => ?_)
  go_simp
  refine (hS.out _).mono ?_
  rintro r w3 ⟨rfl, k3⟩
  rw [HF.out]
  have q3 := q2.trans k3
  have HC2 := hide (Hto.out _ q3)
  refine hK _ _ HC2.out ?_
  clear hK K k1 k2 k3
  iterate 2
    refine wpSeq_quiet HC2.out (fun K hK => ?_)
    go_simp
    refine hK _ ?_
    clear hK K
  refine wpSeq_nil ?_
  go_wp2
  go_ret
  exact ⟨rfl, kW.trans q3⟩

set_option maxHeartbeats 3200000 in
set_option maxRecDepth 100000 in
theorem i2 (a b : Int) (ha0 : -9223372036854775808 ≤ a) (ha1 : a ≤ 9223372036854775807) (hb0 : -9223372036854775808 ≤ b) (hb1 : b ≤ 9223372036854775807) (w : World) (ha : a < 0) (hb : b < 0) (hs : ¬ wrap64 (a + b) < 0) :
    Calls Yba.prog 5 #[.int .i64 a, .int .i64 b] w fun e w' => e = .returned (.bool true) ∧ Kept (fun _ => False) w w' := by
  have hu := u64_lo (wrap64 (a + b))
  rw [lo_wrap] at hu
  have HF : Hid (fx (a + b) = 18446744073709551615) := fx_neg (by omega)
  have hS := hide (ext_plus a b ha0 ha1 hb0 hb1)
  go_enter Yba.func5, Yba.ntmps5
  go_wp2_with fail
  generalize hW : w.alloc (.cells #[.int .u64 (lo (a + b)), .int .u64 18446744073709551615, .int .u64 18446744073709551615, .int .u64 18446744073709551615] 24) = W
  have bX : Blk W w.heap.size #[.int .u64 (lo (a + b)), .int .u64 18446744073709551615, .int .u64 18446744073709551615, .int .u64 18446744073709551615] 24 := by rw [← hW]; exact Blk.new _ _ _
  have kW : Kept (fun _ => False) w W := by rw [← hW]; exact (Kept.refl _ _).alloc _
  clear hW hu
  obtain ⟨X, f, hne, hf, hto⟩ := cls (Kept (fun _ => False) W) W.drew (Kept.refl _ _).drew
  have Hto := hide hto
  have t0 := fun x => ((hf x).blk bX id).cell 0
  have t1 := fun x => ((hf x).blk bX id).cell 1
  have t2 := fun x => ((hf x).blk bX id).cell 2
  have t3 := fun x => ((hf x).blk bX id).cell 3
  have HCw := hide (hto _ ((Kept.refl (fun _ => False) W).drew))
  clear hto hf bX ha hb hs ha0 ha1 hb0 hb1
  refine wp_region_seq (fun w' => ∃ x, w' = f x) [(true, 0), (true, 2), (true, 5), (false, 1), (false, 3), (false, 4), (true, 6), (true, 7)] (by kernel_rfl) (by kernel_rfl) (fun _ _ _ _ _ h => h) ?_
  simp only [pickS, List.getElem?_cons_zero, List.getElem?_cons_succ]
  iterate 3
    refine wpSeq_quiet HCw.out (fun K hK => ?_)
    go_simp
    refine hK _ ?_
    clear hK K
  clear t0 t1 t2 t3
  refine wpSeq_forced (fun K hK => ?_)
  go_simp
  refine (ext_any a _).mono ?_
  rintro r w1 ⟨rfl, k1⟩
  have q1 := (Kept.refl (fun _ => False) W).drew.trans k1
  refine hK _ _ (Hto.out _ q1) ?_
  clear hK K
  refine wpSeq_forced (fun K hK => ?_)
  go_simp
  refine (ext_any b _).mono ?_
  rintro r w2 ⟨rfl, k2⟩
  have q2 := q1.trans k2
  refine hK _ _ (Hto.out _ q2) ?_
  clear hK K
  refine wpSeq_forced (fun K hK => ?_)
  go_simp
  refine (hS.out _).mono ?_
  rintro r w3 ⟨rfl, k3⟩
  rw [HF.out]
  have q3 := q2.trans k3
  have HC2 := hide (Hto.out _ q3)
  refine hK _ _ HC2.out ?_
  clear hK K k1 k2 k3
  iterate 2
    refine wpSeq_quiet HC2.out (fun K hK => ?_)
    go_simp
    refine hK _ ?_
    clear hK K
  refine wpSeq_nil ?_
  go_wp2
  go_ret
  exact ⟨rfl, kW.trans q3⟩

set_option maxHeartbeats 3200000 in
set_option maxRecDepth 100000 in
theorem i3 (a b : Int) (ha0 : -9223372036854775808 ≤ a) (ha1 : a ≤ 9223372036854775807) (hb0 : -9223372036854775808 ≤ b) (hb1 : b ≤ 9223372036854775807) (w : World) (ha : ¬ a < 0) (hb : ¬ b < 0) (hs : wrap64 (a + b) < 0) :
    Calls Yba.prog 5 #[.int .i64 a, .int .i64 b] w fun e w' => e = .returned (.bool true) ∧ Kept (fun _ => False) w w' := by
  have hu := u64_lo (wrap64 (a + b))
  rw [lo_wrap] at hu
  have HF : Hid (fx (a + b) = 0) := fx_pos (by omega)
  have hS := hide (ext_plus a b ha0 ha1 hb0 hb1)
  go_enter Yba.func5, Yba.ntmps5
  go_wp2_with fail
  generalize hW : w.alloc (.cells #[.int .u64 (lo (a + b)), .int .u64 0, .int .u64 0, .int .u64 0] 24) = W
  have bX : Blk W w.heap.size #[.int .u64 (lo (a + b)), .int .u64 0, .int .u64 0, .int .u64 0] 24 := by rw [← hW]; exact Blk.new _ _ _
  have kW : Kept (fun _ => False) w W := by rw [← hW]; exact (Kept.refl _ _).alloc _
  clear hW hu
  obtain ⟨X, f, hne, hf, hto⟩ := cls (Kept (fun _ => False) W) W.drew (Kept.refl _ _).drew
  have Hto := hide hto
  have t0 := fun x => ((hf x).blk bX id).cell 0
  have t1 := fun x => ((hf x).blk bX id).cell 1
  have t2 := fun x => ((hf x).blk bX id).cell 2
  have t3 := fun x => ((hf x).blk bX id).cell 3
  have HCw := hide (hto _ ((Kept.refl (fun _ => False) W).drew))
  clear hto hf bX ha hb hs ha0 ha1 hb0 hb1
  refine wp_region_seq (fun w' => ∃ x, w' = f x) [(true, 0), (true, 2), (true, 5), (false, 1), (false, 3), (false, 4), (true, 6), (true, 7)] (by kernel_rfl) (by kernel_rfl) (fun _ _ _ _ _ h => h) ?_
  simp only [pickS, List.getElem?_cons_zero, List.getElem?_cons_succ]
  iterate 3
    refine wpSeq_quiet HCw.out (fun K hK => ?_)
    go_simp
    refine hK _ ?_
    clear hK K
  clear t0 t1 t2 t3
  refine wpSeq_forced (fun K hK => ?_)
  go_simp
  refine (ext_any a _).mono ?_
  rintro r w1 ⟨rfl, k1⟩
  have q1 := (Kept.refl (fun _ => False) W).drew.trans k1
  refine hK _ _ (Hto.out _ q1) ?_
  clear hK K
  refine wpSeq_forced (fun K hK => ?_)
  go_simp
  refine (ext_any b _).mono ?_
  rintro r w2 ⟨rfl, k2⟩
  have q2 := q1.trans k2
  refine hK _ _ (Hto.out _ q2) ?_
  clear hK K
  refine wpSeq_forced (fun K hK => ?_)
  go_simp
  refine (hS.out _).mono ?_
  rintro r w3 ⟨rfl, k3⟩
  rw [HF.out]
  have q3 := q2.trans k3
  have HC2 := hide (Hto.out _ q3)
  refine hK _ _ HC2.out ?_
  clear hK K k1 k2 k3
  iterate 2
    refine wpSeq_quiet HC2.out (fun K hK => ?_)
    go_simp
    refine hK _ ?_
    clear hK K
  refine wpSeq_nil ?_
  go_wp2
  go_ret
  exact ⟨rfl, kW.trans q3⟩

set_option maxHeartbeats 3200000 in
set_option maxRecDepth 100000 in
theorem i4 (a b : Int) (ha0 : -9223372036854775808 ≤ a) (ha1 : a ≤ 9223372036854775807) (hb0 : -9223372036854775808 ≤ b) (hb1 : b ≤ 9223372036854775807) (w : World) (ha : ¬ a < 0) (hb : ¬ b < 0) (hs : ¬ wrap64 (a + b) < 0) :
    Calls Yba.prog 5 #[.int .i64 a, .int .i64 b] w fun e w' => e = .returned (.bool true) ∧ Kept (fun _ => False) w w' := by
  have hu := u64_lo (wrap64 (a + b))
  rw [lo_wrap] at hu
  have HF : Hid (fx (a + b) = 0) := fx_pos (by omega)
  have hS := hide (ext_plus a b ha0 ha1 hb0 hb1)
  go_enter Yba.func5, Yba.ntmps5
  go_wp2_with fail
  generalize hW : w.alloc (.cells #[.int .u64 (lo (a + b)), .int .u64 0, .int .u64 0, .int .u64 0] 24) = W
  have bX : Blk W w.heap.size #[.int .u64 (lo (a + b)), .int .u64 0, .int .u64 0, .int .u64 0] 24 := by rw [← hW]; exact Blk.new _ _ _
  have kW : Kept (fun _ => False) w W := by rw [← hW]; exact (Kept.refl _ _).alloc _
  clear hW hu
  obtain ⟨X, f, hne, hf, hto⟩ := cls (Kept (fun _ => False) W) W.drew (Kept.refl _ _).drew
  have Hto := hide hto
  have t0 := fun x => ((hf x).blk bX id).cell 0
  have t1 := fun x => ((hf x).blk bX id).cell 1
  have t2 := fun x => ((hf x).blk bX id).cell 2
  have t3 := fun x => ((hf x).blk bX id).cell 3
  have HCw := hide (hto _ ((Kept.refl (fun _ => False) W).drew))
  clear hto hf bX ha hb hs ha0 ha1 hb0 hb1
  refine wp_region_seq (fun w' => ∃ x, w' = f x) [(true, 0), (true, 2), (true, 5), (false, 1), (false, 3), (false, 4), (true, 6), (true, 7)] (by kernel_rfl) (by kernel_rfl) (fun _ _ _ _ _ h => h) ?_
  simp only [pickS, List.getElem?_cons_zero, List.getElem?_cons_succ]
  iterate 3
    refine wpSeq_quiet HCw.out (fun K hK => ?_)
    go_simp
    refine hK _ ?_
    clear hK K
  clear t0 t1 t2 t3
  refine wpSeq_forced (fun K hK => ?_)
  go_simp
  refine (ext_any a _).mono ?_
  rintro r w1 ⟨rfl, k1⟩
  have q1 := (Kept.refl (fun _ => False) W).drew.trans k1
  refine hK _ _ (Hto.out _ q1) ?_
  clear hK K
  refine wpSeq_forced (fun K hK => ?_)
  go_simp
  refine (ext_any b _).mono ?_
  rintro r w2 ⟨rfl, k2⟩
  have q2 := q1.trans k2
  refine hK _ _ (Hto.out _ q2) ?_
  clear hK K
  refine wpSeq_forced (fun K hK => ?_)
  go_simp
  refine (hS.out _).mono ?_
  rintro r w3 ⟨rfl, k3⟩
  rw [HF.out]
  have q3 := q2.trans k3
  have HC2 := hide (Hto.out _ q3)
  refine hK _ _ HC2.out ?_
  clear hK K k1 k2 k3
  iterate 2
    refine wpSeq_quiet HC2.out (fun K hK => ?_)
    go_simp
    refine hK _ ?_
    clear hK K
  refine wpSeq_nil ?_
  go_wp2
  go_ret
  exact ⟨rfl, kW.trans q3⟩

set_option maxHeartbeats 3200000 in
set_option maxRecDepth 100000 in
theorem i5 (a b : Int) (ha0 : -9223372036854775808 ≤ a) (ha1 : a ≤ 9223372036854775807) (hb0 : -9223372036854775808 ≤ b) (hb1 : b ≤ 9223372036854775807) (w : World) (ha : a < 0) (hb : ¬ b < 0) (hs : a + b < 0) :
    Calls Yba.prog 5 #[.int .i64 a, .int .i64 b] w fun e w' => e = .returned (.bool true) ∧ Kept (fun _ => False) w w' := by
  have hu := u64_lo (a + b)
  have HF : Hid (fx (a + b) = 18446744073709551615) := fx_neg hs
  have hS := hide (ext_plus a b ha0 ha1 hb0 hb1)
  go_enter Yba.func5, Yba.ntmps5
  go_wp2_with fail
  generalize hW : w.alloc (.cells #[.int .u64 (lo (a + b)), .int .u64 18446744073709551615, .int .u64 18446744073709551615, .int .u64 18446744073709551615] 24) = W
  have bX : Blk W w.heap.size #[.int .u64 (lo (a + b)), .int .u64 18446744073709551615, .int .u64 18446744073709551615, .int .u64 18446744073709551615] 24 := by rw [← hW]; exact Blk.new _ _ _
  have kW : Kept (fun _ => False) w W := by rw [← hW]; exact (Kept.refl _ _).alloc _
  clear hW hu
  obtain ⟨X, f, hne, hf, hto⟩ := cls (Kept (fun _ => False) W) W.drew (Kept.refl _ _).drew
  have Hto := hide hto
  have t0 := fun x => ((hf x).blk bX id).cell 0
  have t1 := fun x => ((hf x).blk bX id).cell 1
  have t2 := fun x => ((hf x).blk bX id).cell 2
  have t3 := fun x => ((hf x).blk bX id).cell 3
  have HCw := hide (hto _ ((Kept.refl (fun _ => False) W).drew))
  clear hto hf bX ha hb hs ha0 ha1 hb0 hb1
  refine wp_region_seq (fun w' => ∃ x, w' = f x) [(true, 0), (true, 2), (true, 5), (false, 1), (false, 3), (false, 4), (true, 6), (true, 7)] (by kernel_rfl) (by kernel_rfl) (fun _ _ _ _ _ h => h) ?_
  simp only [pickS, List.getElem?_cons_zero, List.getElem?_cons_succ]
  iterate 3
    refine wpSeq_quiet HCw.out (fun K hK => ?_)
    go_simp
    refine hK _ ?_
    clear hK K
  clear t0 t1 t2 t3
  refine wpSeq_forced (fun K hK => ?_)
  go_simp
  refine (ext_any a _).mono ?_
  rintro r w1 ⟨rfl, k1⟩
  have q1 := (Kept.refl (fun _ => False) W).drew.trans k1
  refine hK _ _ (Hto.out _ q1) ?_
  clear hK K
  refine wpSeq_forced (fun K hK => ?_)
  go_simp
  refine (ext_any b _).mono ?_
  rintro r w2 ⟨rfl, k2⟩
  have q2 := q1.trans k2
  refine hK _ _ (Hto.out _ q2) ?_
  clear hK K
  refine wpSeq_forced (fun K hK => ?_)
  go_simp
  refine (hS.out _).mono ?_
  rintro r w3 ⟨rfl, k3⟩
  rw [HF.out]
  have q3 := q2.trans k3
  have HC2 := hide (Hto.out _ q3)
  refine hK _ _ HC2.out ?_
  clear hK K k1 k2 k3
  iterate 2
    refine wpSeq_quiet HC2.out (fun K hK => ?_)
    go_simp
    refine hK _ ?_
    clear hK K
  refine wpSeq_nil ?_
  go_wp2
  go_ret
  exact ⟨rfl, kW.trans q3⟩

set_option maxHeartbeats 3200000 in
set_option maxRecDepth 100000 in
theorem i6 (a b : Int) (ha0 : -9223372036854775808 ≤ a) (ha1 : a ≤ 9223372036854775807) (hb0 : -9223372036854775808 ≤ b) (hb1 : b ≤ 9223372036854775807) (w : World) (ha : a < 0) (hb : ¬ b < 0) (hs : ¬ a + b < 0) :
    Calls Yba.prog 5 #[.int .i64 a, .int .i64 b] w fun e w' => e = .returned (.bool true) ∧ Kept (fun _ => False) w w' := by
  have hu := u64_lo (a + b)
  have HF : Hid (fx (a + b) = 0) := fx_pos hs
  have hS := hide (ext_plus a b ha0 ha1 hb0 hb1)
  go_enter Yba.func5, Yba.ntmps5
  go_wp2_with fail
  generalize hW : w.alloc (.cells #[.int .u64 (lo (a + b)), .int .u64 0, .int .u64 0, .int .u64 0] 24) = W
  have bX : Blk W w.heap.size #[.int .u64 (lo (a + b)), .int .u64 0, .int .u64 0, .int .u64 0] 24 := by rw [← hW]; exact Blk.new _ _ _
  have kW : Kept (fun _ => False) w W := by rw [← hW]; exact (Kept.refl _ _).alloc _
  clear hW hu
  obtain ⟨X, f, hne, hf, hto⟩ := cls (Kept (fun _ => False) W) W.drew (Kept.refl _ _).drew
  have Hto := hide hto
  have t0 := fun x => ((hf x).blk bX id).cell 0
  have t1 := fun x => ((hf x).blk bX id).cell 1
  have t2 := fun x => ((hf x).blk bX id).cell 2
  have t3 := fun x => ((hf x).blk bX id).cell 3
  have HCw := hide (hto _ ((Kept.refl (fun _ => False) W).drew))
  clear hto hf bX ha hb hs ha0 ha1 hb0 hb1
  refine wp_region_seq (fun w' => ∃ x, w' = f x) [(true, 0), (true, 2), (true, 5), (false, 1), (false, 3), (false, 4), (true, 6), (true, 7)] (by kernel_rfl) (by kernel_rfl) (fun _ _ _ _ _ h => h) ?_
  simp only [pickS, List.getElem?_cons_zero, List.getElem?_cons_succ]
  iterate 3
    refine wpSeq_quiet HCw.out (fun K hK => ?_)
    go_simp
    refine hK _ ?_
    clear hK K
  clear t0 t1 t2 t3
  refine wpSeq_forced (fun K hK => ?_)
  go_simp
  refine (ext_any a _).mono ?_
  rintro r w1 ⟨rfl, k1⟩
  have q1 := (Kept.refl (fun _ => False) W).drew.trans k1
  refine hK _ _ (Hto.out _ q1) ?_
  clear hK K
  refine wpSeq_forced (fun K hK => ?_)
  go_simp
  refine (ext_any b _).mono ?_
  rintro r w2 ⟨rfl, k2⟩
  have q2 := q1.trans k2
  refine hK _ _ (Hto.out _ q2) ?_
  clear hK K
  refine wpSeq_forced (fun K hK => ?_)
  go_simp
  refine (hS.out _).mono ?_
  rintro r w3 ⟨rfl, k3⟩
  rw [HF.out]
  have q3 := q2.trans k3
  have HC2 := hide (Hto.out _ q3)
  refine hK _ _ HC2.out ?_
  clear hK K k1 k2 k3
  iterate 2
    refine wpSeq_quiet HC2.out (fun K hK => ?_)
    go_simp
    refine hK _ ?_
    clear hK K
  refine wpSeq_nil ?_
  go_wp2
  go_ret
  exact ⟨rfl, kW.trans q3⟩

set_option maxHeartbeats 3200000 in
set_option maxRecDepth 100000 in
theorem i7 (a b : Int) (ha0 : -9223372036854775808 ≤ a) (ha1 : a ≤ 9223372036854775807) (hb0 : -9223372036854775808 ≤ b) (hb1 : b ≤ 9223372036854775807) (w : World) (ha : ¬ a < 0) (hb : b < 0) (hs : a + b < 0) :
    Calls Yba.prog 5 #[.int .i64 a, .int .i64 b] w fun e w' => e = .returned (.bool true) ∧ Kept (fun _ => False) w w' := by
  have hu := u64_lo (a + b)
  have HF : Hid (fx (a + b) = 18446744073709551615) := fx_neg hs
  have hS := hide (ext_plus a b ha0 ha1 hb0 hb1)
  go_enter Yba.func5, Yba.ntmps5
  go_wp2_with fail
  generalize hW : w.alloc (.cells #[.int .u64 (lo (a + b)), .int .u64 18446744073709551615, .int .u64 18446744073709551615, .int .u64 18446744073709551615] 24) = W
  have bX : Blk W w.heap.size #[.int .u64 (lo (a + b)), .int .u64 18446744073709551615, .int .u64 18446744073709551615, .int .u64 18446744073709551615] 24 := by rw [← hW]; exact Blk.new _ _ _
  have kW : Kept (fun _ => False) w W := by rw [← hW]; exact (Kept.refl _ _).alloc _
  clear hW hu
  obtain ⟨X, f, hne, hf, hto⟩ := cls (Kept (fun _ => False) W) W.drew (Kept.refl _ _).drew
  have Hto := hide hto
  have t0 := fun x => ((hf x).blk bX id).cell 0
  have t1 := fun x => ((hf x).blk bX id).cell 1
  have t2 := fun x => ((hf x).blk bX id).cell 2
  have t3 := fun x => ((hf x).blk bX id).cell 3
  have HCw := hide (hto _ ((Kept.refl (fun _ => False) W).drew))
  clear hto hf bX ha hb hs ha0 ha1 hb0 hb1
  refine wp_region_seq (fun w' => ∃ x, w' = f x) [(true, 0), (true, 2), (true, 5), (false, 1), (false, 3), (false, 4), (true, 6), (true, 7)] (by kernel_rfl) (by kernel_rfl) (fun _ _ _ _ _ h => h) ?_
  simp only [pickS, List.getElem?_cons_zero, List.getElem?_cons_succ]
  iterate 3
    refine wpSeq_quiet HCw.out (fun K hK => ?_)
    go_simp
    refine hK _ ?_
    clear hK K
  clear t0 t1 t2 t3
  refine wpSeq_forced (fun K hK => ?_)
  go_simp
  refine (ext_any a _).mono ?_
  rintro r w1 ⟨rfl, k1⟩
  have q1 := (Kept.refl (fun _ => False) W).drew.trans k1
  refine hK _ _ (Hto.out _ q1) ?_
  clear hK K
  refine wpSeq_forced (fun K hK => ?_)
  go_simp
  refine (ext_any b _).mono ?_
  rintro r w2 ⟨rfl, k2⟩
  have q2 := q1.trans k2
  refine hK _ _ (Hto.out _ q2) ?_
  clear hK K
  refine wpSeq_forced (fun K hK => ?_)
  go_simp
  refine (hS.out _).mono ?_
  rintro r w3 ⟨rfl, k3⟩
  rw [HF.out]
  have q3 := q2.trans k3
  have HC2 := hide (Hto.out _ q3)
  refine hK _ _ HC2.out ?_
  clear hK K k1 k2 k3
  iterate 2
    refine wpSeq_quiet HC2.out (fun K hK => ?_)
    go_simp
    refine hK _ ?_
    clear hK K
  refine wpSeq_nil ?_
  go_wp2
  go_ret
  exact ⟨rfl, kW.trans q3⟩

set_option maxHeartbeats 3200000 in
set_option maxRecDepth 100000 in
theorem i8 (a b : Int) (ha0 : -9223372036854775808 ≤ a) (ha1 : a ≤ 9223372036854775807) (hb0 : -9223372036854775808 ≤ b) (hb1 : b ≤ 9223372036854775807) (w : World) (ha : ¬ a < 0) (hb : b < 0) (hs : ¬ a + b < 0) :
    Calls Yba.prog 5 #[.int .i64 a, .int .i64 b] w fun e w' => e = .returned (.bool true) ∧ Kept (fun _ => False) w w' := by
  have hu := u64_lo (a + b)
  have HF : Hid (fx (a + b) = 0) := fx_pos hs
  have hS := hide (ext_plus a b ha0 ha1 hb0 hb1)
  go_enter Yba.func5, Yba.ntmps5
  go_wp2_with fail
  generalize hW : w.alloc (.cells #[.int .u64 (lo (a + b)), .int .u64 0, .int .u64 0, .int .u64 0] 24) = W
  have bX : Blk W w.heap.size #[.int .u64 (lo (a + b)), .int .u64 0, .int .u64 0, .int .u64 0] 24 := by rw [← hW]; exact Blk.new _ _ _
  have kW : Kept (fun _ => False) w W := by rw [← hW]; exact (Kept.refl _ _).alloc _
  clear hW hu
  obtain ⟨X, f, hne, hf, hto⟩ := cls (Kept (fun _ => False) W) W.drew (Kept.refl _ _).drew
  have Hto := hide hto
  have t0 := fun x => ((hf x).blk bX id).cell 0
  have t1 := fun x => ((hf x).blk bX id).cell 1
  have t2 := fun x => ((hf x).blk bX id).cell 2
  have t3 := fun x => ((hf x).blk bX id).cell 3
  have HCw := hide (hto _ ((Kept.refl (fun _ => False) W).drew))
  clear hto hf bX ha hb hs ha0 ha1 hb0 hb1
  refine wp_region_seq (fun w' => ∃ x, w' = f x) [(true, 0), (true, 2), (true, 5), (false, 1), (false, 3), (false, 4), (true, 6), (true, 7)] (by kernel_rfl) (by kernel_rfl) (fun _ _ _ _ _ h => h) ?_
  simp only [pickS, List.getElem?_cons_zero, List.getElem?_cons_succ]
  iterate 3
    refine wpSeq_quiet HCw.out (fun K hK => ?_)
    go_simp
    refine hK _ ?_
    clear hK K
  clear t0 t1 t2 t3
  refine wpSeq_forced (fun K hK => ?_)
  go_simp
  refine (ext_any a _).mono ?_
  rintro r w1 ⟨rfl, k1⟩
  have q1 := (Kept.refl (fun _ => False) W).drew.trans k1
  refine hK _ _ (Hto.out _ q1) ?_
  clear hK K
  refine wpSeq_forced (fun K hK => ?_)
  go_simp
  refine (ext_any b _).mono ?_
  rintro r w2 ⟨rfl, k2⟩
  have q2 := q1.trans k2
  refine hK _ _ (Hto.out _ q2) ?_
  clear hK K
  refine wpSeq_forced (fun K hK => ?_)
  go_simp
  refine (hS.out _).mono ?_
  rintro r w3 ⟨rfl, k3⟩
  rw [HF.out]
  have q3 := q2.trans k3
  have HC2 := hide (Hto.out _ q3)
  refine hK _ _ HC2.out ?_
  clear hK K k1 k2 k3
  iterate 2
    refine wpSeq_quiet HC2.out (fun K hK => ?_)
    go_simp
    refine hK _ ?_
    clear hK K
  refine wpSeq_nil ?_
  go_wp2
  go_ret
  exact ⟨rfl, kW.trans q3⟩

theorem int_any (a b : Int) (ha0 : -9223372036854775808 ≤ a) (ha1 : a ≤ 9223372036854775807) (hb0 : -9223372036854775808 ≤ b) (hb1 : b ≤ 9223372036854775807) (w : World) :
    Calls Yba.prog 5 #[.int .i64 a, .int .i64 b] w fun e w' => e = .returned (.bool true) ∧ Kept (fun _ => False) w w' := by
  by_cases ha : a < 0 <;> by_cases hb : b < 0
  · by_cases hs : wrap64 (a + b) < 0
    · exact i1 a b ha0 ha1 hb0 hb1 w ha hb hs
    · exact i2 a b ha0 ha1 hb0 hb1 w ha hb hs
  · by_cases hs : a + b < 0
    · exact i5 a b ha0 ha1 hb0 hb1 w ha hb hs
    · exact i6 a b ha0 ha1 hb0 hb1 w ha hb hs
  · by_cases hs : a + b < 0
    · exact i7 a b ha0 ha1 hb0 hb1 w ha hb hs
    · exact i8 a b ha0 ha1 hb0 hb1 w ha hb hs
  · by_cases hs : wrap64 (a + b) < 0
    · exact i3 a b ha0 ha1 hb0 hb1 w ha hb hs
    · exact i4 a b ha0 ha1 hb0 hb1 w ha hb hs
#print axioms int_any
end Go.Proofs.Ybulkdbeu
