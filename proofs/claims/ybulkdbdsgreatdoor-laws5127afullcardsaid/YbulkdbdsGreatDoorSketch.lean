import Derived.Test.YbulkdbdsGreatDoorHost
namespace Go.Proofs.YbulkdbdsGreatDoor
open Go.RowKit Go.HeadTail
attribute [local go_sem] yields yUpon

/-- which of the 512 bits -/
def sat (ip : Int) : Int := IntKind.u64.wrap ((281470849515520 + ip) * 11400714819323198485) / 36028797018963968
theorem sat_bd (ip : Int) : 0 ≤ sat ip ∧ sat ip < 512 := by
  unfold sat
  have : 0 ≤ IntKind.u64.wrap ((281470849515520 + ip) * 11400714819323198485) ∧ IntKind.u64.wrap ((281470849515520 + ip) * 11400714819323198485) < 18446744073709551616 := by
    simp [IntKind.wrap, IntKind.bits, IntKind.signed]; omega
  omega

/-- the word, and the bit in it -/
def sw (ip : Int) : Nat := (sat ip / 64).toNat
def sb (ip : Int) : Nat := (sat ip % 64).toNat
theorem sw_bd (ip : Int) : sw ip < 8 := by have := sat_bd ip; unfold sw; omega
theorem sb_bd (ip : Int) : sb ip < 64 := by unfold sb; omega
theorem shl_bit (n : Int) (h0 : 0 ≤ n) (h1 : n < 64) (w : World) : (Op.shift .shl .u64 1 .u64 n).run Ybaz.prog w = .ok (.int .u64 ((2 ^ n.toNat : Nat) : Int)) w := by
  have hm : min n.toNat IntKind.u64.bits = n.toNat := by simp [IntKind.bits]; omega
  have hw : IntKind.u64.wrap (1 * 2 ^ n.toNat) = ((2 ^ n.toNat : Nat) : Int) := by
    have h2 : 2 ^ n.toNat < 2 ^ 64 := Nat.pow_lt_pow_right (by omega) (by omega)
    rw [wrap64]
    · simp
    · rw [Int.one_mul]; have : (0 : Int) ≤ ((2 ^ n.toNat : Nat) : Int) := Int.natCast_nonneg _; simpa using this
    · rw [Int.one_mul]; have : ((2 ^ n.toNat : Nat) : Int) < ((2 ^ 64 : Nat) : Int) := by exact_mod_cast h2
      simpa using this
  unfold Op.shift
  rw [if_neg (by omega)]
  simp only [hm, hw, Sem.run_pure]
theorem hx_eq (ip : Int) (h0 : 0 ≤ ip) (h1 : ip < 256) : bits BinOp.xor IntKind.u64 (bits BinOp.xor IntKind.u64 (IntKind.u64.wrap 0) (281470849515520 + ip)) (IntKind.u64.wrap (IntKind.u64.wrap 0 * 4294967296)) = 281470849515520 + ip := by
  rw [show IntKind.u64.wrap (IntKind.u64.wrap 0 * 4294967296) = 0 from by decide, show IntKind.u64.wrap 0 = 0 from by decide, u64_xor 0 _ (by omega) (by omega) (by omega) (by omega)]
  simp only [Int.toNat_zero, Nat.zero_xor]
  rw [u64_xor _ 0 (by omega) (by omega) (by omega) (by omega)]
  simp only [Int.toNat_zero, Nat.xor_zero]
  omega
set_option maxRecDepth 100000 in
set_option maxHeartbeats 1600000 in
theorem bit_any (ip : Int) (h0 : 0 ≤ ip) (h1 : ip < 256) {z4 : Addr} (w : World) :
    Calls Ybaz.prog 36 #[.agg (ap (some z4) ip 0)] w fun e w' => e = .returned (.tuple #[.int .i64 (sw ip), .int .u64 ((2 ^ sb ip : Nat) : Int)]) ∧ Kept (fun _ => False) w w' := by
  go_enter Ybaz.func36, Ybaz.ntmps36
  have bA : Blk (w.alloc (.cells (ap (some z4) ip 0) 47)) w.heap.size (ap (some z4) ip 0) 47 := Blk.new _ _ _
  have kA : Kept (fun _ => False) w (w.alloc (.cells (ap (some z4) ip 0) 47)) := (Kept.refl _ _).alloc _
  go_wp2_with (first | refine wpList_load_blk rfl 47 _ rfl (w.heap.size) 0 4 rfl bA (ap (some z4) ip 0) (by kernel_rfl) (by kernel_rfl) (by kernel_rfl) ?_)
  generalize w.alloc (.cells (ap (some z4) ip 0) 47) = W at *
  refine (addr_any _ _ _ _ _).mono ?_
  rintro e w1 ⟨rfl, k1⟩
  go_wp2_with fail
  refine (as16_any ip h0 h1 _ _).mono ?_
  rintro e w2 ⟨rfl, k2⟩
  have k12 := k1.trans k2
  have bA2 := k12.blk bA id
  have kk2 := hide (kA.trans k12)
  have bI : Blk (w2.alloc (.cells #[.int .u8 0, .int .u8 0, .int .u8 0, .int .u8 0, .int .u8 0, .int .u8 0, .int .u8 0, .int .u8 0, .int .u8 0, .int .u8 0, .int .u8 0, .int .u8 0, .int .u8 0, .int .u8 0, .int .u8 0, .int .u8 0] 104)) w2.heap.size z16 104 := Blk.new _ _ _
  clear k1 k2 k12 bA kA
  go_wp2_with (first | refine wpList_store_blk rfl 104 _ _ rfl (w2.heap.size) 0 (a16 ip) rfl rfl bI (by kernel_rfl) (by kernel_rfl) (by kernel_rfl) ?_)
  generalize hU : (w2.alloc (.cells #[.int .u8 0, .int .u8 0, .int .u8 0, .int .u8 0, .int .u8 0, .int .u8 0, .int .u8 0, .int .u8 0, .int .u8 0, .int .u8 0, .int .u8 0, .int .u8 0, .int .u8 0, .int .u8 0, .int .u8 0, .int .u8 0] 104)).setCells w2.heap.size 0 (a16 ip).toList = U
  have kU : Kept (fun _ => False) w2 U := by rw [← hU]; exact Kept.setCells _ _ ((Kept.refl _ _).alloc _) (fun h => absurd h (by omega))
  have bI2 : Blk U w2.heap.size (a16 ip) 104 := by rw [← hU]; exact bI.setAll _ rfl
  have bA3 := kU.blk bA2 id
  have kk3 := hide (kk2.out.trans kU)
  clear hU kU bA2 kk2 bI
  obtain ⟨X, f, hne, hf, hto⟩ := cls (Kept (fun _ => False) U) (World.drew U) (Kept.refl _ _).drew
  have HC := hide (hto _ (Kept.refl _ U).drew)
  have Hto := hide hto
  clear hto
  refine wp_region_seq (fun w' => ∃ x, w' = f x) [(true, 0), (true, 1), (true, 4), (true, 5), (true, 8), (false, 2), (true, 3), (false, 6), (true, 7), (false, 9), (true, 10), (true, 11), (true, 12), (true, 13)] (by kernel_rfl) (by kernel_rfl) (fun _ _ _ _ _ h => h) ?_
  simp only [pickS, List.getElem?_cons_zero, List.getElem?_cons_succ]
  iterate 4
    refine wpSeq_quiet HC.out (fun K hK => ?_)
    go_simp
    refine hK _ ?_
    clear hK K
  refine wpSeq_load_blk HC.out rfl 47 _ rfl (w.heap.size) 0 4 rfl (fun w' hw' => by obtain ⟨x, rfl⟩ := hw'; exact (hf x).blk bA3 id) (ap (some z4) ip 0) (by kernel_rfl) (by kernel_rfl) (by kernel_rfl) ?_
  refine wpSeq_forced (fun K hK => ?_)
  go_simp
  have gc : ∀ {w' : World}, Blk w' w2.heap.size (a16 ip) 104 → ∀ j, w'.cell? ⟨w2.heap.size, j, none⟩ = (a16 ip)[j]? := fun h j => h.cell j
  refine (u64_any w2.heap.size 0 16 0 0 0 0 0 0 0 0 _ (gc bI2.drew 0) (gc bI2.drew 1) (gc bI2.drew 2) (gc bI2.drew 3) (gc bI2.drew 4) (gc bI2.drew 5) (gc bI2.drew 6) (gc bI2.drew 7)).mono ?_
  rintro e w4 ⟨rfl, k4⟩
  rw [beV_zero]
  refine hK _ _ (Hto.out _ k4.ofDrew) ?_
  clear hK K
  clear HC
  have HC := hide (Hto.out _ k4.ofDrew)
  iterate 1
    refine wpSeq_quiet HC.out (fun K hK => ?_)
    go_simp
    refine hK _ ?_
    clear hK K
  refine wpSeq_forced (fun K hK => ?_)
  go_simp
  have bI4 := k4.blk bI2.drew id
  refine (u64_any w2.heap.size 8 8 0 0 255 255 10 0 0 ip _ (gc bI4 8) (gc bI4 9) (gc bI4 10) (gc bI4 11) (gc bI4 12) (gc bI4 13) (gc bI4 14) (gc bI4 15)).mono ?_
  rintro e w5 ⟨rfl, k5⟩
  rw [beV_ip ip h0 h1]
  refine hK _ _ (Hto.out _ (k4.trans k5).ofDrew) ?_
  clear hK K
  clear HC
  have HC := hide (Hto.out _ (k4.trans k5).ofDrew)
  iterate 1
    refine wpSeq_quiet HC.out (fun K hK => ?_)
    go_simp
    refine hK _ ?_
    clear hK K
  refine wpSeq_forced (fun K hK => ?_)
  go_simp
  refine (port_any _ _ _ _ _).mono ?_
  rintro e w6 ⟨rfl, k6⟩
  refine hK _ _ (Hto.out _ (k4.trans (k5.trans k6)).ofDrew) ?_
  clear hK K
  clear HC
  have HC := hide (Hto.out _ (k4.trans (k5.trans k6)).ofDrew)
  iterate 4
    refine wpSeq_quiet HC.out (fun K hK => ?_)
    go_simp
    refine hK _ ?_
    clear hK K
  have kk6 := hide (kk3.out.trans (k4.trans (k5.trans k6)).ofDrew)
  clear bI4 gc bI2 bA3 kk3 k4 k5 k6
  refine wpSeq_nil ?_
  clear  Hto HC hf hne f X
  rw [hx_eq ip h0 h1]
  have hs := sat_bd ip
  have hfold : IntKind.u64.wrap ((281470849515520 + ip) * 11400714819323198485) / 36028797018963968 = sat ip := rfl
  have e1 : (sat ip).tdiv 64 = sat ip / 64 := Int.tdiv_eq_ediv_of_nonneg hs.1
  have e2 : IntKind.u64.wrap (sat ip / 64) = sat ip / 64 := wrap64 _ (by omega) (by omega)
  have e3 : RowKit.wrap64 (sat ip / 64) = (sw ip : Int) := by unfold RowKit.wrap64 sw; omega
  have e4 : (sat ip).tmod 64 = sat ip % 64 := Int.tmod_eq_emod_of_nonneg hs.1
  have e5 : ∀ w, (Op.shift .shl .u64 1 .u64 (sat ip % 64)).run Ybaz.prog w = .ok (.int .u64 ((2 ^ sb ip : Nat) : Int)) w := fun w => shl_bit _ (by omega) (by omega) w
  have e6 : IntKind.u64.wrap (2 ^ (sat ip % 64).toNat) = ((2 ^ sb ip : Nat) : Int) := by
    have h := shl_bit (sat ip % 64) (by omega) (by omega) w
    unfold Op.shift at h
    rw [if_neg (by omega)] at h
    have hm : min (sat ip % 64).toNat IntKind.u64.bits = (sat ip % 64).toNat := by simp [IntKind.bits]; omega
    simp only [hm, Sem.run_pure, Int.one_mul] at h
    simpa [sb] using h
  generalize hQ : sat ip = q at *
  clear hs
  go_wp2
  refine bodyPost_ret (v := .tuple #[.int .i64 (sw ip), .int .u64 ((2 ^ sb ip : Nat) : Int)]) (by simp [results, Ybaz.results36, go_sem, e3]) rfl ⟨rfl, kk6.out⟩
end Go.Proofs.YbulkdbdsGreatDoor
