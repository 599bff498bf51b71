import Derived.Test.YbulkdbdsGreatDoorFrom
namespace Go.Proofs.YbulkdbdsGreatDoor
open Go.RowKit Go.HeadTail
attribute [local go_sem] yields yUpon

theorem wrap16 (x : Int) (h0 : 0 ≤ x) (h1 : x < 65536) : IntKind.u16.wrap x = x := by
  have : x % 65536 = x := Int.emod_eq_of_lt h0 h1
  simp [IntKind.wrap, IntKind.bits, IntKind.signed, this]
theorem port_or (p : Int) (h0 : 0 ≤ p) (h1 : p < 65536) : bits .or .u16 (IntKind.u16.wrap (IntKind.u16.wrap (p / 256) * 256)) (IntKind.u16.wrap (p % 256)) = p := by
  rw [wrap16 (p / 256) (by omega) (by omega), wrap16 (p % 256) (by omega) (by omega), wrap16 (p / 256 * 256) (by omega) (by omega), u16_or _ _ (by omega) (by omega) (by omega) (by omega),
    show (p / 256 * 256).toNat = (p / 256).toNat * 2 ^ 8 from by omega, Nat.or_comm, or_add _ _ 8 (by omega)]
  omega

/-- the 18 bytes of an address -/
def a18 (ip p : Int) : Array Value := a16 ip ++ pv p

set_option maxRecDepth 100000 in
theorem compact_any (b o : Nat) (ip p : Int) (h0 : 0 ≤ ip) (h1 : ip < 256) (hp0 : 0 ≤ p) (hp1 : p < 65536) {z4 z6 : Addr} (w : World) (g : Gl w z4 z6) (cs : Array Value) (t : TypeId) (hb : Blk w b cs t)
    (hc : ∀ j, j < 18 → cs[o + j]? = (a18 ip p)[j]?) :
    Calls Ybaz.prog 29 #[.slice (some ⟨b, o, none⟩) 18 18] w fun e w' => e = .returned (.agg (ap (some z4) ip p)) ∧ Kept (fun _ => False) w w' := by
  have hpo := port_or p hp0 hp1
  have w17 : IntKind.i64.wrap 17 = 17 := by decide
  go_enter Ybaz.func29, Ybaz.ntmps29
  go_wp2_with fail
  generalize hW : w.alloc (.cells #[.int .u64 0, .int .u64 0, .pointer none, .int .u16 0] 47) = W
  have kW : Kept (fun _ => False) w W := by rw [← hW]; exact (Kept.refl _ _).alloc _
  have bA : Blk W b cs t := kW.blk hb id
  have bR : Blk W w.heap.size #[.int .u64 0, .int .u64 0, .pointer none, .int .u16 0] 47 := by rw [← hW]; exact Blk.new _ _ _
  have gW := g.mono kW
  have hsz : W.heap.size = w.heap.size + 1 := by rw [← hW]; simp
  replace kW := hide kW
  replace hsz := hide hsz
  clear hW
  obtain ⟨X, f, hne, hf, hto⟩ := cls (Kept (fun _ => False) W) (World.drew W) (Kept.refl _ _).drew
  have HC := hide (hto _ (Kept.refl _ W).drew)
  have Hto := hide hto
  clear hto
  have l16 : ∀ x, (f x).cell? ⟨b, o + 16, none⟩ = some (.int .u8 (p / 256)) := fun x => (((hf x).blk bA id).cell (o + 16)).trans (hc 16 (by omega))
  have l17 : ∀ x, (f x).cell? ⟨b, o + 17, none⟩ = some (.int .u8 (p % 256)) := fun x => (((hf x).blk bA id).cell (o + 17)).trans (hc 17 (by omega))
  refine wp_region_seq (fun w' => ∃ x, w' = f x) [(true, 0), (true, 1), (true, 2), (true, 3), (true, 4), (true, 5), (true, 6), (true, 7), (true, 8), (true, 9), (true, 10), (true, 11), (true, 12), (true, 13)] (by kernel_rfl) (by kernel_rfl) (fun _ _ _ _ _ h => h) ?_
  simp only [pickS, List.getElem?_cons_zero, List.getElem?_cons_succ]
  iterate 14
    refine wpSeq_quiet HC.out (fun K hK => ?_)
    go_simp
    refine hK _ ?_
    clear hK K
  refine wpSeq_nil ?_
  clear l16 l17 Hto HC hf hne f X
  replace hpo := hide hpo
  go_wp2_with fail
  generalize hV : (W.alloc (.cells #[.int .u8 0, .int .u8 0, .int .u8 0, .int .u8 0, .int .u8 0, .int .u8 0, .int .u8 0, .int .u8 0, .int .u8 0, .int .u8 0, .int .u8 0, .int .u8 0, .int .u8 0, .int .u8 0, .int .u8 0, .int .u8 0] 104)).drew = V
  have kV : Kept (fun _ => False) W V := by rw [← hV]; exact ((Kept.refl _ _).alloc _).drew
  have bC : Blk V (W.heap.size) z16 104 := by rw [← hV]; exact (Blk.new _ _ _).drew
  have bA1 := kV.blk bA id
  have bR1 := kV.blk bR id
  have hcp : (Builtin.copy_ #[102, 102] 3 #[.slice (some ⟨W.heap.size, 0, none⟩) 16 16, .slice (some ⟨b, o, none⟩) 16 18]).run Ybaz.prog V.drew = .ok (goInt 16) (V.drew.setCells (W.heap.size) 0 (a16 ip).toList) := by
    refine run_copy_cells (P := Ybaz.prog) V.drew 102 102 3 5 (W.heap.size) 0 16 16 ⟨b, o, none⟩ 16 18 (a16 ip).toList (by kernel_rfl) (by kernel_rfl) rfl ?_ ?_ ?_ ?_
    · intro j v hv
      have hj : j < 16 := (List.getElem?_eq_some_iff.1 hv).1
      rw [Addr.add_mid, bA1.drew.cell, hc j (by omega), ← hv, a18, Array.getElem?_append_left (by show j < 16; omega), Array.getElem?_toList]
    · intro j hj
      rw [bC.drew.cell, Array.getElem?_eq_getElem (show 0 + j < z16.size from by have : j < 16 := hj; show 0 + j < 16; omega)]; rfl
    · intro j hj; exact bC.drew.frozen _
    · simp [a16, Value.oneCell']
  clear hV
  obtain ⟨X, f, hne, hf, hto⟩ := cls (Kept (fun k => k = W.heap.size) V) (World.drew V) (Kept.refl _ _).drew
  have HC := hide (hto _ (Kept.refl _ V).drew)
  have Hto := hide hto
  clear hto
  refine wp_region_seq (fun w' => ∃ x, w' = f x) [(true, 0), (true, 1), (true, 2), (true, 3), (false, 4)] (by kernel_rfl) (by kernel_rfl) (fun _ _ _ _ _ h => h) ?_
  simp only [pickS, List.getElem?_cons_zero, List.getElem?_cons_succ]
  iterate 4
    refine wpSeq_quiet HC.out (fun K hK => ?_)
    go_simp
    refine hK _ ?_
    clear hK K
  refine wpSeq_forced (fun K hK => ?_)
  go_simp
  have kc : Kept (fun k => k = W.heap.size) V (V.drew.setCells W.heap.size 0 (a16 ip).toList) := Kept.setCells _ _ (Kept.refl _ _).drew (fun _ => rfl)
  refine hK _ _ (Hto.out _ kc) ?_
  clear hK K
  clear HC
  have HC := hide (Hto.out _ kc)
  refine wpSeq_nil ?_
  clear  Hto HC hf hne f X
  generalize hU : V.drew.setCells W.heap.size 0 (a16 ip).toList = U
  rw [hU] at kc
  have bC2 : Blk U W.heap.size (a16 ip) 104 := by rw [← hU]; exact bC.drew.setAll _ rfl
  have hsz' := hsz.out
  have bR2 : Blk U w.heap.size _ 47 := kc.blk bR1 (by omega)
  have kU : Kept (fun _ => False) w U := (kW.out.trans kV).trans' kc (by intro x hx hh; omega)
  have gU := g.mono kU
  clear hU kc hcp bR1 bA1 bC kV kW gW bR bA hsz hsz' hc hb
  replace kU := hide kU
  go_wp2_with (first | refine wpList_load_blk rfl 104 _ rfl (W.heap.size) 0 16 rfl bC2 (a16 ip) (by kernel_rfl) (by kernel_rfl) (by kernel_rfl) ?_)
  refine (from16_any ip h0 h1 _ gU).mono ?_
  rintro e w1 ⟨rfl, k1⟩
  go_wp2_with fail
  refine (unmap_any ip h0 h1 _ (gU.mono k1)).mono ?_
  rintro e w2 ⟨rfl, k2⟩
  go_wp2_with fail
  refine (addrPortFrom_any _ _ _ _ _).mono ?_
  rintro e w3 ⟨rfl, k3⟩
  have bR3 := (k1.trans (k2.trans k3)).blk bR2 id
  have kk := hide (kU.out.trans (k1.trans (k2.trans k3)))
  clear k1 k2 k3 bR2 bC2 gU kU
  have rc0 := bR3.cell 0
  have rf0 := bR3.frozen 0
  have rc1 := bR3.cell 1
  have rf1 := bR3.frozen 1
  have rc2 := bR3.cell 2
  have rf2 := bR3.frozen 2
  have rc3 := bR3.cell 3
  have rf3 := bR3.frozen 3
  go_wp2
  refine bodyPost_ret (v := .agg (ap (some z4) ip p)) (by simp [results, Ybaz.results29, go_sem, ap, rc0, rc1, rc2, rc3]) rfl ⟨rfl, ?_⟩
  refine Kept.set (Kept.set (Kept.set (Kept.set kk.out ?_ _) ?_ _) ?_ _) ?_ _ <;> (intro h; exact absurd h (by simp))
end Go.Proofs.YbulkdbdsGreatDoor
