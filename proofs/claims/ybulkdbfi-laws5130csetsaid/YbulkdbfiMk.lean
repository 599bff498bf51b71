import Derived.Test.YbulkdbfiSmall
namespace Go.Proofs.Ybulkdbfi
open Go.RowKit Go.HeadTail

attribute [local go_sem] yields yUpon

def nmI : Nat → ByteArray
  | 0 => ⟨#[97]⟩
  | 1 => ⟨#[98]⟩
  | 2 => ⟨#[95, 95, 72, 111, 115, 116, 45, 120]⟩
  | _ => ⟨#[]⟩
def dmI : Nat → ByteArray
  | 0 => ⟨#[101, 120, 97, 109, 112, 108, 101, 46, 99, 111, 109]⟩
  | 1 => ⟨#[97, 46, 101, 120, 97, 109, 112, 108, 101, 46, 99, 111, 109]⟩
  | _ => ⟨#[]⟩
def ptI : Nat → ByteArray
  | 0 => ⟨#[47]⟩
  | 1 => ⟨#[47, 120]⟩
  | _ => ⟨#[]⟩
def nm (k : Ck) : ByteArray := nmI (k.n % 4).toNat
def dm (k : Ck) : ByteArray := dmI (k.d % 3).toNat
def pt (k : Ck) : ByteArray := ptI (k.p % 3).toNat

def ckRow (N D P : ByteArray) (tn tx : Int) : Array Value := #[.string N, .string ⟨#[118]⟩, .bool false, .string D, .bool false, .string P, .bool false, .int .u64 tn, .int .i64 tx, .pointer none, .int .u64 0, .int .i64 0, .pointer none]
def ckCells (k : Ck) : Array Value := ckRow (nm k) (dm k) (pt k) (tN k.e) (tX k.e)
def keyV (k : Ck) : Value := .agg #[.string (nm k), .string (dm k), .string (pt k)]

set_option maxHeartbeats 1600000 in
theorem id_row (N D P : ByteArray) (tn tx : Int) (b : Nat) (w : World) (hb : Blk w b (ckRow N D P tn tx) 58) :
    Calls Yba.prog 6 #[.pointer (some ⟨b, 0, none⟩)] w fun e w' => e = .returned (.agg #[.string N, .string D, .string P]) ∧ Kept (fun _ => False) w w' := by
  have hlt := hb.lt
  go_enter Yba.func6, Yba.ntmps6
  go_wp2_with fail
  generalize hW : w.alloc (.cells #[.string ⟨#[]⟩, .string ⟨#[]⟩, .string ⟨#[]⟩] 43) = W
  have bW : Blk W b (ckRow N D P tn tx) 58 := by rw [← hW]; exact hb.alloc _
  have bI : Blk W w.heap.size #[.string ⟨#[]⟩, .string ⟨#[]⟩, .string ⟨#[]⟩] 43 := by rw [← hW]; exact Blk.new _ _ _
  have kW : Kept (fun _ => False) w W := by rw [← hW]; exact (Kept.refl _ _).alloc _
  have hne0 : b ≠ w.heap.size := by omega
  obtain ⟨X, f, hne, hf, hto⟩ := cls (Kept (fun k => k = w.heap.size) W) W.drew (Kept.refl _ _).drew
  have Hto := hide hto
  have r0 : ∀ x, (f x).cell? ⟨b, 0, none⟩ = some (.string N) := fun x => ((hf x).blk bW hne0).cell 0
  have r3 : ∀ x, (f x).cell? ⟨b, 3, none⟩ = some (.string D) := fun x => ((hf x).blk bW hne0).cell 3
  have r5 : ∀ x, (f x).cell? ⟨b, 5, none⟩ = some (.string P) := fun x => ((hf x).blk bW hne0).cell 5
  have HC := hide (Hto.out _ (Kept.refl (fun k => k = w.heap.size) W).drew)
  clear hto hf hW hb
  refine wp_region_seq (fun w' => ∃ x, w' = f x) [(true, 0), (true, 1), (true, 2), (true, 3), (true, 4), (true, 5), (true, 6), (true, 7), (true, 8), (true, 9), (true, 10), (true, 11), (true, 12), (false, 13)] (by kernel_rfl) (by kernel_rfl) (fun _ _ _ _ _ h => h) ?_
  simp only [pickS, List.getElem?_cons_zero, List.getElem?_cons_succ]
  iterate 13
    refine wpSeq_quiet HC.out (fun K hK => ?_)
    go_simp
    refine hK _ ?_
    clear hK K
  clear r0 r3 r5
  have i0 := bI.cell 0
  have i1 := bI.cell 1
  have i2 := bI.cell 2
  have j0 := bI.frozen 0
  have j1 := bI.frozen 1
  have j2 := bI.frozen 2
  refine wpSeq_forced (fun K hK => ?_)
  go_simp
  refine hK _ _ (Hto.out _ ?_) ?_
  · repeat (first | exact Kept.refl _ _ | refine Kept.drew ?_ | refine Kept.set ?_ (by intro _; rfl) _)
  refine wpSeq_nil ?_
  clear hK K
  go_wp2
  refine bodyPost_ret (v := .agg #[.string N, .string D, .string P]) (by simp [results, Yba.results6, go_sem, i0, i1, i2]) rfl ⟨rfl, ?_⟩
  have hh : w.heap.size < w.heap.size → False := fun h => absurd h (Nat.lt_irrefl _)
  repeat (first | exact kW | refine Kept.drew ?_ | refine Kept.set ?_ (by exact hh) _)

theorem id_any (k : Ck) (b : Nat) (w : World) (hb : Blk w b (ckCells k) 58) :
    Calls Yba.prog 6 #[.pointer (some ⟨b, 0, none⟩)] w fun e w' => e = .returned (keyV k) ∧ Kept (fun _ => False) w w' := id_row _ _ _ _ _ b w hb

theorem nm_at (i : Nat) (h : i < 4) : (#[.string (nmI 0), .string (nmI 1), .string (nmI 2), .string (nmI 3)] : Array Value)[i]? = some (.string (nmI i)) := by
  match i, h with
  | 0, _ => rfl
  | 1, _ => rfl
  | 2, _ => rfl
  | 3, _ => rfl
theorem dm_at (i : Nat) (h : i < 3) : (#[.string (dmI 0), .string (dmI 1), .string (dmI 2)] : Array Value)[i]? = some (.string (dmI i)) := by
  match i, h with
  | 0, _ => rfl
  | 1, _ => rfl
  | 2, _ => rfl
theorem pt_at (i : Nat) (h : i < 3) : (#[.string (ptI 0), .string (ptI 1), .string (ptI 2)] : Array Value)[i]? = some (.string (ptI i)) := by
  match i, h with
  | 0, _ => rfl
  | 1, _ => rfl
  | 2, _ => rfl

set_option maxHeartbeats 3200000 in
theorem mk_any (k : Ck) (hk : k.ok) (w : World) :
    Calls Yba.prog 5 #[.agg k.cells] w fun e w' => ∃ b, e = .returned (.pointer (some ⟨b, 0, none⟩)) ∧ w.heap.size ≤ b ∧ Blk w' b (ckCells k) 58 ∧ Kept (fun _ => False) w w' := by
  obtain ⟨an, ad, ap, ae⟩ := k
  obtain ⟨a1, a2, a3, a4, a5, a6, a7, a8⟩ := hk
  simp only at a1 a2 a3 a4 a5 a6 a7 a8
  simp only [Ck.cells, ckCells, nm, dm, pt]
  have u1 := wrap_small an a1 a2
  have u2 := wrap_small ad a3 a4
  have u3 := wrap_small ap a5 a6
  obtain ⟨i, hi⟩ : ∃ i : Nat, an % 4 = (i : Int) := ⟨(an % 4).toNat, by omega⟩
  obtain ⟨j, hj⟩ : ∃ j : Nat, ad % 3 = (j : Int) := ⟨(ad % 3).toNat, by omega⟩
  obtain ⟨l, hl⟩ : ∃ l : Nat, ap % 3 = (l : Int) := ⟨(ap % 3).toNat, by omega⟩
  have hi4 : i < 4 := by omega
  have hj3 : j < 3 := by omega
  have hl3 : l < 3 := by omega
  have zi : (i : Int) < 4 := by omega
  have zj : (j : Int) < 3 := by omega
  have zl : (l : Int) < 3 := by omega
  rw [hi, hj, hl, Int.toNat_natCast, Int.toNat_natCast, Int.toNat_natCast]
  have m1 : an.tmod 4 = (i : Int) := by rw [Int.tmod_eq_emod_of_nonneg a1]; exact hi
  have m2 : ad.tmod 3 = (j : Int) := by rw [Int.tmod_eq_emod_of_nonneg a3]; exact hj
  have m3 : ap.tmod 3 = (l : Int) := by rw [Int.tmod_eq_emod_of_nonneg a5]; exact hl
  go_enter Yba.func5, Yba.ntmps5
  go_wp2_with fail
  generalize hW : (((w.alloc (.cells #[.int .u8 an, .int .u8 ad, .int .u8 ap, .int .i64 ae] 24)).alloc (.cells #[.string ⟨#[97]⟩, .string ⟨#[98]⟩, .string ⟨#[95, 95, 72, 111, 115, 116, 45, 120]⟩, .string ⟨#[]⟩] 55)).alloc (.cells #[.string ⟨#[101, 120, 97, 109, 112, 108, 101, 46, 99, 111, 109]⟩, .string ⟨#[97, 46, 101, 120, 97, 109, 112, 108, 101, 46, 99, 111, 109]⟩, .string ⟨#[]⟩] 56)).alloc (.cells #[.string ⟨#[47]⟩, .string ⟨#[47, 120]⟩, .string ⟨#[]⟩] 56) = W
  have bK : Blk W w.heap.size #[.int .u8 an, .int .u8 ad, .int .u8 ap, .int .i64 ae] 24 := by rw [← hW]; exact (((Blk.new _ _ _).alloc _).alloc _).alloc _
  have bN : Blk W (w.heap.size + 1) #[.string (nmI 0), .string (nmI 1), .string (nmI 2), .string (nmI 3)] 55 := by rw [← hW]; exact ((Blk.new' _ _ (by simp)).alloc _).alloc _
  have bD : Blk W (w.heap.size + 1 + 1) #[.string (dmI 0), .string (dmI 1), .string (dmI 2)] 56 := by rw [← hW]; exact (Blk.new' _ _ (by simp)).alloc _
  have bP : Blk W (w.heap.size + 1 + 1 + 1) #[.string (ptI 0), .string (ptI 1), .string (ptI 2)] 56 := by rw [← hW]; exact Blk.new' _ _ (by simp)
  have kW : Kept (fun _ => False) w W := by rw [← hW]; exact ((((Kept.refl _ _).alloc _).alloc _).alloc _).alloc _
  have hsz : W.heap.size = w.heap.size + 1 + 1 + 1 + 1 := by rw [← hW]; simp
  obtain ⟨X, f, hne, hf, hto⟩ := cls (Kept (fun _ => False) W) W.drew (Kept.refl _ _).drew
  have Hto := hide hto
  have r0 : ∀ x, (f x).cell? ⟨w.heap.size, 0, none⟩ = some (.int .u8 an) := fun x => ((hf x).blk bK id).cell 0
  have r1 : ∀ x, (f x).cell? ⟨w.heap.size, 1, none⟩ = some (.int .u8 ad) := fun x => ((hf x).blk bK id).cell 1
  have r2 : ∀ x, (f x).cell? ⟨w.heap.size, 2, none⟩ = some (.int .u8 ap) := fun x => ((hf x).blk bK id).cell 2
  have s0 : ∀ x, (f x).cell? ⟨w.heap.size + 1, i, none⟩ = some (.string (nmI i)) := fun x => (((hf x).blk bN id).cell i).trans (nm_at i hi4)
  have s1 : ∀ x, (f x).cell? ⟨w.heap.size + 1 + 1, j, none⟩ = some (.string (dmI j)) := fun x => (((hf x).blk bD id).cell j).trans (dm_at j hj3)
  have s2 : ∀ x, (f x).cell? ⟨w.heap.size + 1 + 1 + 1, l, none⟩ = some (.string (ptI l)) := fun x => (((hf x).blk bP id).cell l).trans (pt_at l hl3)
  have HC := hide (Hto.out _ (Kept.refl (fun _ => False) W).drew)
  have BK := hide bK
  have Hsz := hide hsz
  clear hto hf hW hsz bK bN bD bP hi4 hj3 hl3
  refine wp_region_seq (fun w' => ∃ x, w' = f x) [(true, 0), (true, 1), (true, 2), (true, 3), (true, 4), (true, 5), (true, 6), (true, 7), (true, 8), (true, 9), (true, 10), (true, 11), (true, 12), (true, 13), (true, 14), (true, 15), (true, 16), (true, 17), (true, 18), (false, 19), (false, 20)] (by kernel_rfl) (by kernel_rfl) (fun _ _ _ _ _ h => h) ?_
  simp only [pickS, List.getElem?_cons_zero, List.getElem?_cons_succ]
  iterate 19
    refine wpSeq_quiet HC.out (fun K hK => ?_)
    go_simp
    refine hK _ ?_
    clear hK K
  clear r0 r1 r2 s0 s1 s2
  refine wpSeq_forced (fun K hK => ?_)
  go_simp
  refine hK _ _ (Hto.out _ ?_) ?_
  · repeat (first | exact Kept.refl _ _ | refine Kept.drew ?_ | refine Kept.alloc ?_ _)
  clear hK K
  refine wpSeq_forced (fun K hK => ?_)
  go_simp
  refine hK _ _ (Hto.out _ ?_) ?_
  · repeat (first | exact Kept.refl _ _ | refine Kept.drew ?_ | refine Kept.alloc ?_ _)
  clear hK K
  refine wpSeq_nil ?_
  clear HC hne Hto
  generalize hV : W.alloc (.cells #[.string (nmI i), .string ⟨#[118]⟩, .bool false, .string (dmI j), .bool false, .string (ptI l), .bool false, .int .u64 0, .int .i64 0, .pointer none, .int .u64 0, .int .i64 0, .pointer none] 58) = V
  have bC : Blk V W.heap.size (ckRow (nmI i) (dmI j) (ptI l) 0 0) 58 := by rw [← hV]; exact Blk.new _ _ _
  have bK : Blk V w.heap.size #[.int .u8 an, .int .u8 ad, .int .u8 ap, .int .i64 ae] 24 := by rw [← hV]; exact BK.out.alloc _
  have kV : Kept (fun _ => False) w V := by rw [← hV]; exact kW.alloc _
  have hge : w.heap.size ≤ W.heap.size := by have := Hsz.out; omega
  have hge' : ¬ W.heap.size < w.heap.size := by omega
  generalize W.heap.size = c at *
  clear hV BK kW Hsz
  have k3 := bK.cell 3
  by_cases he : ae = 0
  · subst he
    go_wp2
    go_ret
    refine ⟨c, rfl, hge, ?_, ?_⟩
    · rw [tN0, tX0]; exact bC
    · repeat (first | exact kV | refine Kept.drew ?_)
  · go_wp2_with fail
    refine (zadd_any ae _ a7 a8).mono ?_
    rintro e V' ⟨rfl, kV'⟩
    have bC' := kV'.blk bC id
    have kk := kV.drew.trans kV'
    have c7 := bC'.cell 7
    have c8 := bC'.cell 8
    have c9 := bC'.cell 9
    have f7 := bC'.frozen 7
    have f8 := bC'.frozen 8
    have f9 := bC'.frozen 9
    simp only [ckRow] at c7 c8 c9
    clear kV kV' bC k3 bK
    go_wp2
    go_ret
    refine ⟨c, rfl, hge, ?_, ?_⟩
    · have := ((bC'.set 7 (.int .u64 (tN ae))).set 8 (.int .i64 (tX ae))).set 9 (.pointer none)
      simpa [ckRow] using this
    · repeat (first | exact kk | refine Kept.drew ?_ | refine Kept.set ?_ (by intro h; exact hge' h) _)

end Go.Proofs.Ybulkdbfi
