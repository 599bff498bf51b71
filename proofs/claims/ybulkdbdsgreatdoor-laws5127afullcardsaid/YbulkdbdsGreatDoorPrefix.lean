import Derived.Test.YbulkdbdsGreatDoorLz
namespace Go.Proofs.YbulkdbdsGreatDoor
open Go.RowKit Go.HeadTail
attribute [local go_sem] yields yUpon

def idb (a b : Int) (k : Nat) : Int := if k = 0 then a else if k = 1 then b else 0
theorem idv_at (a b : Int) (k : Nat) (hk : k < 20) : (idv a b)[k]? = some (.int .u8 (idb a b k)) := by
  rcases k with _ | _ | k
  · rfl
  · rfl
  · rw [show idb a b (k + 2) = 0 from by simp [idb]]
    have h : ∀ j : Fin 18, (idv a b)[j.val + 2]? = some (.int .u8 0) := by
      intro ⟨j, hj⟩
      simp only [idv]
      rcases j with _ | _ | _ | _ | _ | _ | _ | _ | _ | _ | _ | _ | _ | _ | _ | _ | _ | _ | j
      all_goals first | rfl | omega
    exact h ⟨k, by omega⟩
theorem idb_bd (a b : Int) (h0 : 0 ≤ a) (h1 : a < 256) (g0 : 0 ≤ b) (g1 : b < 256) (k : Nat) : 0 ≤ idb a b k ∧ idb a b k < 256 := by
  unfold idb; split
  · omega
  · split <;> omega
theorem xor_bd (x y : Int) (h0 : 0 ≤ x) (h1 : x < 256) (g0 : 0 ≤ y) (g1 : y < 256) : x.toNat ^^^ y.toNat < 256 := Nat.xor_lt_two_pow (n := 8) (by omega) (by omega)

set_option maxRecDepth 100000 in
set_option maxHeartbeats 1600000 in
theorem prefix_any (a b a' b' : Int) (h0 : 0 ≤ a) (h1 : a < 256) (g0 : 0 ≤ b) (g1 : b < 256) (h0' : 0 ≤ a') (h1' : a' < 256) (g0' : 0 ≤ b') (g1' : b' < 256) (w : World) :
    Calls Ybaz.prog 28 #[.agg (idv a b), .agg (idv a' b')] w fun e w' => ∃ r : Int, e = .returned (.int .i64 r) ∧ Kept (fun _ => False) w w' ∧ 0 ≤ r ∧ r ≤ 160 ∧ (128 ≤ a.toNat ^^^ a'.toNat → r = 0) := by
  go_enter Ybaz.func28, Ybaz.ntmps28
  go_wp2_with fail
  generalize hW : (w.alloc (.cells (idv a b) 24)).alloc (.cells (idv a' b') 24) = W
  have kW : Kept (fun _ => False) w W := by rw [← hW]; exact ((Kept.refl _ _).alloc _).alloc _
  have bA : Blk W w.heap.size (idv a b) 24 := by rw [← hW]; exact (Blk.new _ _ _).alloc _
  have bB : Blk W (w.heap.size + 1) (idv a' b') 24 := by rw [← hW]; exact Blk.new' _ _ (by simp)
  clear hW
  replace kW := hide kW
  go_loopw [7] (fun iv wr => ∃ k : Nat, iv = .int .i64 k ∧ k ≤ 20 ∧ (1 ≤ k → a.toNat ^^^ a'.toNat = 0) ∧ Kept (fun _ => False) W wr) (fun iv _ => 20 - (intOf iv).toNat)
  case atStart => exact ⟨0, rfl, by omega, fun h => absurd h (by omega), Kept.refl _ _⟩
  case round =>
    obtain ⟨k, rfl, hk, hz, kr⟩ := hrel
    by_cases hlt : k < 20
    · have hli : (k : Int) < 20 := by omega
      have hx := idb_bd a b h0 h1 g0 g1 k
      have hy := idb_bd a' b' h0' h1' g0' g1' k
      have hbd := xor_bd _ _ hx.1 hx.2 hy.1 hy.2
      have hxor := u8_xor (idb a b k) (idb a' b' k) hx.1 hx.2 hy.1 hy.2
      have hk0 : k = 0 → (idb a b k).toNat ^^^ (idb a' b' k).toNat = a.toNat ^^^ a'.toNat := by rintro rfl; rfl
      have bA1 := kr.blk bA id
      have bB1 := kr.blk bB id
      have eA := idv_at a b k hlt
      have eB := idv_at a' b' k hlt
      generalize idb a b k = x at *
      generalize idb a' b' k = y at *
      generalize x.toNat ^^^ y.toNat = X at *
      replace hk0 := hide hk0
      replace hz := hide hz
      go_wp2_with fail
      obtain ⟨X, f, hne, hf, hto⟩ := cls (Kept (fun _ => False) wr) (World.drew wr) (Kept.refl _ _).drew
      have HC := hide (hto _ (Kept.refl _ wr).drew)
      have Hto := hide hto
      clear hto
      have lA : ∀ x', (f x').cell? ⟨w.heap.size, k, none⟩ = some (.int .u8 x) := fun x' => (((hf x').blk bA1 id).cell k).trans eA
      have lB : ∀ x', (f x').cell? ⟨w.heap.size + 1, k, none⟩ = some (.int .u8 y) := fun x' => (((hf x').blk bB1 id).cell k).trans eB
      clear eA eB bA1 bB1
      refine wp_region_seq (fun w' => ∃ x, w' = f x) [(true, 0), (true, 1), (true, 2), (true, 3), (true, 4), (true, 5), (true, 6), (true, 7)] (by kernel_rfl) (by kernel_rfl) (fun _ _ _ _ _ h => h) ?_
      simp only [pickS, List.getElem?_cons_zero, List.getElem?_cons_succ]
      iterate 8
        refine wpSeq_quiet HC.out (fun K hK => ?_)
        go_simp
        refine hK _ ?_
        clear hK K
      refine wpSeq_nil ?_
      clear lA lB Hto HC hf hne f X
      by_cases hX : X = 0
      · subst hX
        go_wp2
        go_roundw
        case rel => exact ⟨k + 1, by go_num, by omega, fun _ => (Nat.eq_zero_or_pos k).elim (fun h => (hk0.out h).symm) hz.out, kr.drew⟩
        case measure => simp [intOf]; omega
      · have hXi : ¬ (X : Int) = 0 := by omega
        go_wp2_with fail
        refine (lz8_any X hbd _).mono ?_
        rintro e w' ⟨r, rfl, rfl, r0, r1, r2⟩
        go_wp2
        go_ret
        refine ⟨8 * k + r, by go_num, kW.out.trans kr.drew, by omega, by omega, fun h => ?_⟩
        rcases Nat.eq_zero_or_pos k with h0 | h0
        · have := r2 (by rw [hk0.out h0]; exact h); omega
        · have := hz.out h0; omega
    · have hk20 : k = 20 := by omega
      subst hk20
      go_wp2
      go_ret
      exact ⟨160, rfl, kW.out.trans kr, by omega, by omega, fun h => absurd (hz (by omega)) (by omega)⟩
end Go.Proofs.YbulkdbdsGreatDoor
