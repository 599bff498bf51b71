import Derived.Test.YbulkdbdsGreatDoorFullK
namespace Go.Proofs.YbulkdbdsGreatDoor
open Go.RowKit Go.HeadTail
attribute [local go_sem] yields yUpon

set_option maxRecDepth 100000 in
set_option maxHeartbeats 6400000 in
theorem full_bad (sB xB : Int) (w : World) {z4 z6 : Addr} (g : Gl w z4 z6) (h0 : 0 ≤ sB ∧ sB < 256) (h1 : 0 ≤ xB ∧ xB < 256) :
    Calls Ybaz.prog 4 #[.int .u8 sB, .int .u8 xB, .bool false] w fun e w' => e = .returned (.bool true) ∧ Below w.heap.size w w' := by
  have hsf := self_bits sB h0
  have hA := high_bits xB h1
  obtain ⟨sf, eS⟩ : ∃ v, bits .and .u8 sB 127 = v := ⟨_, rfl⟩
  obtain ⟨A, eA⟩ : ∃ v, bits .or .u8 128 xB = v := ⟨_, rfl⟩
  rw [eS] at hsf
  rw [eA] at hA
  have hxor : Hid (128 ≤ sf.toNat ^^^ A.toNat) := hide (xor_ge _ _ (by omega) (by omega) (by omega))
  have hgl := g.lt
  go_enter Ybaz.func4, Ybaz.ntmps4
  go_upto_region 2 with (first | (refine wpList_built rfl 24 _ rfl (idv sf 0) (by kernel_rfl) ?_; simp only [Act.put, List.setIfInBounds_toArray, List.set_cons_zero, List.set_cons_succ]) | (refine wpList_store_new rfl 24 _ _ rfl (idv sf 0) rfl rfl (by kernel_rfl) (by kernel_rfl) (by kernel_rfl) ?_; simp only [Act.put]))
  generalize hW : w.alloc (.cells (idv sf 0) 24) = W1
  have kw1 : Hid (Kept (fun _ => False) w W1) := hide (by rw [← hW]; exact (Kept.refl _ _).alloc _)
  have bS : Blk W1 w.heap.size (idv sf 0) 24 := by rw [← hW]; exact Blk.new _ _ _
  clear hW
  go_upto_region 3 with (first | (refine wpList_built rfl 24 _ rfl (idv A 1) (by kernel_rfl) ?_; simp only [Act.put, List.setIfInBounds_toArray, List.set_cons_zero, List.set_cons_succ]))
  refine (zaddr_any 1 7 (by omega) (by omega) (some z4) _ (g.mono kw1.out).c0).mono ?_
  rintro e v1 ⟨rfl, k1⟩
  go_upto_region 3 with (first | (refine wpList_built rfl 50 _ rfl (con (some z4) A 1 1 7) (by kernel_rfl) ?_; simp only [Act.put, List.setIfInBounds_toArray, List.set_cons_zero, List.set_cons_succ]) | (refine wpList_store_new rfl 50 _ _ rfl (con (some z4) A 1 1 7) rfl rfl (by kernel_rfl) (by kernel_rfl) (by kernel_rfl) ?_; simp only [Act.put]))
  generalize hb1 : v1.heap.size = b1
  have bN1 : Blk (v1.alloc (.cells (con (some z4) A 1 1 7) 50)) b1 (con (some z4) A 1 1 7) 50 := by rw [← hb1]; exact Blk.new _ _ _
  have kN1 : Kept (fun _ => False) W1 (v1.alloc (.cells (con (some z4) A 1 1 7) 50)) := k1.alloc _
  generalize v1.alloc (.cells (con (some z4) A 1 1 7) 50) = W2 at bN1 kN1 ⊢
  replace bS := kN1.blk bS id
  have kw2 := hide (kw1.out.trans kN1)
  clear kN1 k1 kw1 hb1
  go_upto_region 4 with (first | (refine wpList_built rfl 24 _ rfl (idv A 2) (by kernel_rfl) ?_; simp only [Act.put, List.setIfInBounds_toArray, List.set_cons_zero, List.set_cons_succ]))
  refine (zaddr_any 2 7 (by omega) (by omega) (some z4) _ (g.mono kw2.out).c0).mono ?_
  rintro e v2 ⟨rfl, k2⟩
  go_upto_region 4 with (first | (refine wpList_built rfl 50 _ rfl (con (some z4) A 2 2 7) (by kernel_rfl) ?_; simp only [Act.put, List.setIfInBounds_toArray, List.set_cons_zero, List.set_cons_succ]) | (refine wpList_store_new rfl 50 _ _ rfl (con (some z4) A 2 2 7) rfl rfl (by kernel_rfl) (by kernel_rfl) (by kernel_rfl) ?_; simp only [Act.put]))
  generalize hb2 : v2.heap.size = b2
  have bN2 : Blk (v2.alloc (.cells (con (some z4) A 2 2 7) 50)) b2 (con (some z4) A 2 2 7) 50 := by rw [← hb2]; exact Blk.new _ _ _
  have kN2 : Kept (fun _ => False) W2 (v2.alloc (.cells (con (some z4) A 2 2 7) 50)) := k2.alloc _
  generalize v2.alloc (.cells (con (some z4) A 2 2 7) 50) = W3 at bN2 kN2 ⊢
  replace bS := kN2.blk bS id
  replace bN1 := kN2.blk bN1 id
  have kw3 := hide (kw2.out.trans kN2)
  clear kN2 k2 kw2 hb2
  go_upto_region 5 with (first | (refine wpList_built rfl 24 _ rfl (idv A 3) (by kernel_rfl) ?_; simp only [Act.put, List.setIfInBounds_toArray, List.set_cons_zero, List.set_cons_succ]))
  refine (zaddr_any 3 7 (by omega) (by omega) (some z4) _ (g.mono kw3.out).c0).mono ?_
  rintro e v3 ⟨rfl, k3⟩
  go_upto_region 5 with (first | (refine wpList_built rfl 50 _ rfl (con (some z4) A 3 3 7) (by kernel_rfl) ?_; simp only [Act.put, List.setIfInBounds_toArray, List.set_cons_zero, List.set_cons_succ]) | (refine wpList_store_new rfl 50 _ _ rfl (con (some z4) A 3 3 7) rfl rfl (by kernel_rfl) (by kernel_rfl) (by kernel_rfl) ?_; simp only [Act.put]))
  generalize hb3 : v3.heap.size = b3
  have bN3 : Blk (v3.alloc (.cells (con (some z4) A 3 3 7) 50)) b3 (con (some z4) A 3 3 7) 50 := by rw [← hb3]; exact Blk.new _ _ _
  have kN3 : Kept (fun _ => False) W3 (v3.alloc (.cells (con (some z4) A 3 3 7) 50)) := k3.alloc _
  generalize v3.alloc (.cells (con (some z4) A 3 3 7) 50) = W4 at bN3 kN3 ⊢
  replace bS := kN3.blk bS id
  replace bN1 := kN3.blk bN1 id
  replace bN2 := kN3.blk bN2 id
  have kw4 := hide (kw3.out.trans kN3)
  clear kN3 k3 kw3 hb3
  clear eS eA
  go_upto_region 10 with (first | (refine wpList_built rfl 31 _ rfl (T0) (by kernel_rfl) ?_; simp only [Act.put, List.setIfInBounds_toArray, List.set_cons_zero, List.set_cons_succ]) | (refine wpList_load_blk rfl 24 _ rfl (w.heap.size) 0 20 rfl (bS.alloc _) (idv sf 0) (by kernel_rfl) (by kernel_rfl) (by kernel_rfl) ?_; simp only [Act.put, List.setIfInBounds_toArray, List.set_cons_zero, List.set_cons_succ]))
  refine (newTable_any W4.heap.size sf 0 1 0 0 _ (Blk.new _ _ _)).mono ?_
  rintro e T ⟨tb, bb, rfl, bT, bB, htb, hbb, kT⟩
  have bC : Blk T W4.heap.size T0 31 := kT.blk (Blk.new _ _ _) id
  have k4T : Kept (fun _ => False) W4 T := ((Kept.refl _ _).alloc _).trans kT
  have hsz : w.heap.size ≤ W4.heap.size := kw4.out.size
  have htb2 : w.heap.size ≤ tb := Nat.le_trans hsz (Nat.le_trans ((Kept.refl (fun _ => False) W4).alloc _).size htb)
  have hbb2 : w.heap.size ≤ bb := Nat.le_trans hsz (Nat.le_trans ((Kept.refl (fun _ => False) W4).alloc _).size hbb)
  replace bN1 := k4T.blk bN1 id
  replace bN2 := k4T.blk bN2 id
  replace bN3 := k4T.blk bN3 id
  have kw5 : Hid (Kept (fun q => w.heap.size ≤ q) w T) := hide ((kw4.out.trans k4T).mono (by simp))
  generalize W4.heap.size = cb at *
  have gs0 : Gs w.heap.size tb bb cb 1 false none 0 sf [] (.slice none 0 0) (fun _ => 0) T := ⟨bT, bB, bC, World.ownsRow_nil _ _ _ _, SkOk.zero, by simp, ⟨htb2, hbb2, hsz⟩⟩
  have ok1 : (⟨A, 1, 1, 7⟩ : E).ok := by unfold E.ok; refine ⟨⟨?_, ?_⟩, ⟨?_, ?_⟩, ⟨?_, ?_⟩, ?_, ?_⟩ <;> simp only <;> omega
  have ok2 : (⟨A, 2, 2, 7⟩ : E).ok := by unfold E.ok; refine ⟨⟨?_, ?_⟩, ⟨?_, ?_⟩, ⟨?_, ?_⟩, ?_, ?_⟩ <;> simp only <;> omega
  have ok3 : (⟨A, 3, 3, 7⟩ : E).ok := by unfold E.ok; refine ⟨⟨?_, ?_⟩, ⟨?_, ?_⟩, ⟨?_, ?_⟩, ?_, ?_⟩ <;> simp only <;> omega
  have he50 : ∀ w', (Op.equalIn 10000 50 (.agg C0) (.agg C0)).run Ybaz.prog w' = .ok (!false) w' := fun w' => eq50 0 0 0 0 0 0 0 0 none w'
  replace gs0 := hide gs0
  replace ok1 := hide ok1
  replace ok2 := hide ok2
  replace ok3 := hide ok3
  clear bT bB bC kT k4T kw4 bS htb hbb
  go_upto_region 11 with (first | (refine wpList_load_blk rfl 50 _ rfl (b1) 0 24 rfl bN1 (con (some z4) A 1 1 7) (by kernel_rfl) (by kernel_rfl) (by kernel_rfl) ?_; simp only [Act.put, List.setIfInBounds_toArray, List.set_cons_zero, List.set_cons_succ]))
  refine (seen_first w.heap.size tb bb cb 1 0 sf [] _ _ ⟨A, 1, 1, 7⟩ none ok1.out (by omega) hxor.out (by simp [E.hit]) (by simp) T (gl_up g kw5.out hgl) ⟨hgl.1, hgl.2.1, hgl.2.2, kw5.out.size⟩ gs0.out).mono ?_
  rintro e w1 ⟨rfl, ⟨sv1, s1, gs1⟩, ks1⟩
  replace gs1 : Gs w.heap.size tb bb cb 1 false none 0 sf [⟨A, 1, 1, 7⟩] sv1 s1 w1 := gs1
  replace bN1 := gs0.out.blk ks1 bN1
  replace bN2 := gs0.out.blk ks1 bN2
  replace bN3 := gs0.out.blk ks1 bN3
  have kw6 := hide (kw5.out.trans (gs0.out.up ks1))
  replace gs1 := hide gs1
  clear gs0 ks1 kw5
  go_upto_region 13 with (first | (refine wpList_store_new rfl 50 _ _ rfl (C0) rfl rfl (by kernel_rfl) (by kernel_rfl) (by kernel_rfl) ?_; simp only [Act.put]) | (refine wpList_load_blk rfl 50 _ rfl (w1.heap.size) 0 24 rfl (Blk.new w1 C0 50) (C0) (by kernel_rfl) (by kernel_rfl) (by kernel_rfl) ?_; simp only [Act.put, List.setIfInBounds_toArray, List.set_cons_zero, List.set_cons_succ]) | (refine wpList_built rfl 50 _ rfl (C0) (by kernel_rfl) ?_; simp only [Act.put, List.setIfInBounds_toArray, List.set_cons_zero, List.set_cons_succ]) | (refine wpList_neqV rfl 50 _ _ _ rfl (C0) (C0) rfl rfl (by kernel_rfl) false (he50 _) ?_; simp only [Act.put, List.setIfInBounds_toArray, List.set_cons_zero, List.set_cons_succ]))
  generalize hX : w1.alloc (.cells (C0) 50) = X1
  have kX1 : Kept (fun _ => False) w1 X1 := by rw [← hX]; exact (Kept.refl _ _).alloc _
  clear hX
  replace bN1 := kX1.blk bN1 id
  replace bN2 := kX1.blk bN2 id
  replace bN3 := kX1.blk bN3 id
  have kw7 := hide (kw6.out.trans (kX1.mono (by simp)))
  replace gs1 := hide (gs1.out.mono kX1)
  clear kX1 kw6
  go_upto_region 14 with (first | (refine wpList_load_blk rfl 50 _ rfl (b2) 0 24 rfl bN2 (con (some z4) A 2 2 7) (by kernel_rfl) (by kernel_rfl) (by kernel_rfl) ?_; simp only [Act.put, List.setIfInBounds_toArray, List.set_cons_zero, List.set_cons_succ]))
  refine (seen_second w.heap.size tb bb cb 1 0 sf ⟨A, 1, 1, 7⟩ sv1 s1 ⟨A, 2, 2, 7⟩ none ok2.out (by omega) hxor.out (by simp [E.hit]) (by simp [E.hit]) (by simp) hxor.out (by omega) rfl X1 (gl_up g kw7.out hgl) ⟨hgl.1, hgl.2.1, hgl.2.2, kw7.out.size⟩ gs1.out).mono ?_
  rintro e w2 ⟨nb, sv2, s2, wt2, hd, gs2, ks2⟩
  obtain ⟨rfl, hws⟩ : e = .returned (.tuple #[.agg (con (some z4) A 1 1 7), .bool true, .bool false]) ∧ wt2.isSome = true := by
    rcases hd with ⟨h, _⟩ | ⟨_, h1, h2⟩
    · exact absurd h (by decide)
    · exact ⟨h1, h2⟩
  replace hws := hide hws
  have heA : ∀ w', (Op.equalIn 10000 50 (.agg (con (some z4) A 1 1 7)) (.agg (con (some z4) A 1 1 7))).run Ybaz.prog w' = .ok (!false) w' := fun w' => by
    rw [con_eq, eq50]; simp
  clear hd
  replace bN1 := gs1.out.blk ks2 bN1
  replace bN2 := gs1.out.blk ks2 bN2
  replace bN3 := gs1.out.blk ks2 bN3
  have kw8 := hide (kw7.out.trans (gs1.out.up ks2))
  replace gs2 := hide gs2
  clear gs1 ks2 kw7
  go_upto_region 21 with (first | (refine wpList_store_new rfl 50 _ _ rfl (con (some z4) A 1 1 7) rfl rfl (by kernel_rfl) (by kernel_rfl) (by kernel_rfl) ?_; simp only [Act.put]) | (refine wpList_load_blk rfl 50 _ rfl (w2.heap.size) 0 24 rfl (Blk.new w2 (con (some z4) A 1 1 7) 50) (con (some z4) A 1 1 7) (by kernel_rfl) (by kernel_rfl) (by kernel_rfl) ?_; simp only [Act.put, List.setIfInBounds_toArray, List.set_cons_zero, List.set_cons_succ]) | (refine wpList_load_blk rfl 50 _ rfl (b1) 0 24 rfl (bN1.alloc _) (con (some z4) A 1 1 7) (by kernel_rfl) (by kernel_rfl) (by kernel_rfl) ?_; simp only [Act.put, List.setIfInBounds_toArray, List.set_cons_zero, List.set_cons_succ]) | (refine wpList_neqV rfl 50 _ _ _ rfl (con (some z4) A 1 1 7) (con (some z4) A 1 1 7) rfl rfl (by kernel_rfl) false (heA _) ?_; simp only [Act.put, List.setIfInBounds_toArray, List.set_cons_zero, List.set_cons_succ]))
  generalize hX : w2.alloc (.cells (con (some z4) A 1 1 7) 50) = X2
  have kX2 : Kept (fun _ => False) w2 X2 := by rw [← hX]; exact (Kept.refl _ _).alloc _
  clear hX
  replace bN1 := kX2.blk bN1 id
  replace bN2 := kX2.blk bN2 id
  replace bN3 := kX2.blk bN3 id
  have kw9 := hide (kw8.out.trans (kX2.mono (by simp)))
  replace gs2 := hide (gs2.out.mono kX2)
  clear kX2 kw8
  go_upto_region 22 with (first | (refine wpList_load_blk rfl 50 _ rfl (b3) 0 24 rfl bN3 (con (some z4) A 3 3 7) (by kernel_rfl) (by kernel_rfl) (by kernel_rfl) ?_; simp only [Act.put, List.setIfInBounds_toArray, List.set_cons_zero, List.set_cons_succ]))
  refine (seen_third w.heap.size tb nb cb 2 0 sf ⟨A, 1, 1, 7⟩ sv2 s2 ⟨A, 3, 3, 7⟩ _ ok3.out (by omega) hxor.out (by simp [E.hit]) (by simp [E.hit]) (.inl hws.out) X2 (gl_up g kw9.out hgl) ⟨hgl.1, hgl.2.1, hgl.2.2, kw9.out.size⟩ gs2.out).mono ?_
  rintro e w3 ⟨rfl, gs3, ks3⟩
  replace bN1 := gs2.out.blk ks3 bN1
  replace bN2 := gs2.out.blk ks3 bN2
  replace bN3 := gs2.out.blk ks3 bN3
  have kw10 := hide (kw9.out.trans (gs2.out.up ks3))
  replace gs3 := hide gs3
  clear gs2 ks3 kw9
  go_upto_region 24 with (first | (refine wpList_store_new rfl 50 _ _ rfl (C0) rfl rfl (by kernel_rfl) (by kernel_rfl) (by kernel_rfl) ?_; simp only [Act.put]) | (refine wpList_load_blk rfl 50 _ rfl (w3.heap.size) 0 24 rfl (Blk.new w3 C0 50) (C0) (by kernel_rfl) (by kernel_rfl) (by kernel_rfl) ?_; simp only [Act.put, List.setIfInBounds_toArray, List.set_cons_zero, List.set_cons_succ]) | (refine wpList_built rfl 50 _ rfl (C0) (by kernel_rfl) ?_; simp only [Act.put, List.setIfInBounds_toArray, List.set_cons_zero, List.set_cons_succ]) | (refine wpList_neqV rfl 50 _ _ _ rfl (C0) (C0) rfl rfl (by kernel_rfl) false (he50 _) ?_; simp only [Act.put, List.setIfInBounds_toArray, List.set_cons_zero, List.set_cons_succ]))
  generalize hX : w3.alloc (.cells (C0) 50) = X3
  have kX3 : Kept (fun _ => False) w3 X3 := by rw [← hX]; exact (Kept.refl _ _).alloc _
  clear hX
  replace bN1 := kX3.blk bN1 id
  replace bN2 := kX3.blk bN2 id
  replace bN3 := kX3.blk bN3 id
  have kw11 := hide (kw10.out.trans (kX3.mono (by simp)))
  replace gs3 := hide (gs3.out.mono kX3)
  clear kX3 kw10
  go_upto_region 25 with (first | (refine wpList_load_blk rfl 50 _ rfl (b1) 0 24 rfl bN1 (con (some z4) A 1 1 7) (by kernel_rfl) (by kernel_rfl) (by kernel_rfl) ?_; simp only [Act.put, List.setIfInBounds_toArray, List.set_cons_zero, List.set_cons_succ]))
  refine (seen_again w.heap.size tb nb cb 2 0 sf [⟨A, 1, 1, 7⟩] sv2 s2 ⟨A, 1, 1, 7⟩ _ ok1.out (by omega) hxor.out (by simp [E.hit]) (by simp) ⟨_, List.mem_singleton.2 rfl, by simp [E.hit]⟩ (fun e he _ => by cases List.mem_singleton.1 he; exact ⟨rfl, rfl⟩) X3 (gl_up g kw11.out hgl) ⟨hgl.1, hgl.2.1, hgl.2.2, kw11.out.size⟩ gs3.out).mono ?_
  rintro e w4 ⟨rfl, ⟨sv4, gs4⟩, ks4⟩
  replace bN1 := gs3.out.blk ks4 bN1
  replace bN2 := gs3.out.blk ks4 bN2
  replace bN3 := gs3.out.blk ks4 bN3
  have kw12 := hide (kw11.out.trans (gs3.out.up ks4))
  replace gs4 := hide gs4
  clear gs3 ks4 kw11
  go_upto_region 27 with (first | (refine wpList_store_new rfl 50 _ _ rfl (C0) rfl rfl (by kernel_rfl) (by kernel_rfl) (by kernel_rfl) ?_; simp only [Act.put]) | (refine wpList_load_blk rfl 50 _ rfl (w4.heap.size) 0 24 rfl (Blk.new w4 C0 50) (C0) (by kernel_rfl) (by kernel_rfl) (by kernel_rfl) ?_; simp only [Act.put, List.setIfInBounds_toArray, List.set_cons_zero, List.set_cons_succ]) | (refine wpList_built rfl 50 _ rfl (C0) (by kernel_rfl) ?_; simp only [Act.put, List.setIfInBounds_toArray, List.set_cons_zero, List.set_cons_succ]) | (refine wpList_neqV rfl 50 _ _ _ rfl (C0) (C0) rfl rfl (by kernel_rfl) false (he50 _) ?_; simp only [Act.put, List.setIfInBounds_toArray, List.set_cons_zero, List.set_cons_succ]))
  generalize hX : w4.alloc (.cells (C0) 50) = X4
  have kX4 : Kept (fun _ => False) w4 X4 := by rw [← hX]; exact (Kept.refl _ _).alloc _
  clear hX
  replace bN1 := kX4.blk bN1 id
  replace bN2 := kX4.blk bN2 id
  replace bN3 := kX4.blk bN3 id
  have kw13 := hide (kw12.out.trans (kX4.mono (by simp)))
  replace gs4 := hide (gs4.out.mono kX4)
  clear kX4 kw12
  have c33 : X4.cell? ⟨tb, 33, none⟩ = some (.slice (some ⟨nb, 0, none⟩) 2 2) := (gs4.out.bT.cell 33).trans (tab_bs ..)
  obtain ⟨sa, cap, rfl, _⟩ := own_form gs4.out.own
  go_upto_region 30 with fail
  refine (contacts_any w.heap.size tb nb [⟨A, 1, 1, 7⟩] true sa 1 cap 2 _ sf 0 1 _ _ _ s2 X4 (gl_up g kw13.out hgl) ⟨by omega, by omega, by omega, by omega, by omega⟩ (by omega) gs4.out.ok gs4.out.bT gs4.out.bB gs4.out.own).mono ?_
  rintro e w5 ⟨v, rfl, oC, k5⟩
  obtain ⟨va, vc, rfl, hva⟩ := own_form oC
  obtain ⟨gV, rfl⟩ := hva (by simp)
  obtain ⟨cur, bV, hcur⟩ := own_cone oC
  replace bN1 := k5.blk bN1 (bN1.ne gs4.out.bT (by decide))
  have kw14 := hide (kw13.out.trans (k5.mono (fun q _ h => by omega)))
  have heA2 : ∀ w', (Op.equalIn 10000 50 (.agg (con (some z4) A 1 1 7)) (.agg (con (some z4) A 1 1 7))).run Ybaz.prog w' = .ok true w' := fun w' => by
    rw [con_eq, eq50]; simp
  clear oC k5 gs4 kw13 c33 bN2 bN3 hva
  have hcur2 : cur.extract 0 (0 + 24) = con (some z4) A 1 1 7 := hcur
  clear hcur
  go_wp2_with fail
  obtain ⟨X, f, hne, hf, hto⟩ := cls (Kept (fun _ => False) w5) (World.drew w5) (Kept.refl _ _).drew
  have HC := hide (hto _ (Kept.refl _ w5).drew)
  have Hto := hide hto
  clear hto
  refine wp_region_seq (fun w' => ∃ x, w' = f x) [(true, 0), (true, 1), (true, 2), (true, 3), (true, 4), (true, 5), (true, 6), (true, 7), (true, 8), (true, 9), (true, 10)] (by kernel_rfl) (by kernel_rfl) (fun _ _ _ _ _ h => h) ?_
  simp only [pickS, List.getElem?_cons_zero, List.getElem?_cons_succ]
  iterate 6
    refine wpSeq_quiet HC.out (fun K hK => ?_)
    go_simp
    refine hK _ ?_
    clear hK K
  refine wpSeq_load_blkG HC.out (by kernel_rfl) 50 _ rfl gV 0 24 rfl (fun w' hw' => by obtain ⟨x, rfl⟩ := hw'; exact (hf x).blk bV id) (con (some z4) A 1 1 7) hcur2 (by kernel_rfl) (by kernel_rfl) ?_
  refine wpSeq_load_blkG HC.out (by kernel_rfl) 50 _ rfl b1 0 24 rfl (fun w' hw' => by obtain ⟨x, rfl⟩ := hw'; exact (hf x).blk bN1 id) (con (some z4) A 1 1 7) (by kernel_rfl) (by kernel_rfl) (by kernel_rfl) ?_
  refine wpSeq_eqlG HC.out (by kernel_rfl) 50 _ _ _ rfl (con (some z4) A 1 1 7) (con (some z4) A 1 1 7) rfl rfl (by kernel_rfl) true heA2 ?_
  iterate 2
    refine wpSeq_quiet HC.out (fun K hK => ?_)
    go_simp
    refine hK _ ?_
    clear hK K
  refine wpSeq_nil ?_
  clear  Hto HC hf hne f X
  go_wp2
  go_ret
  exact ⟨rfl, kw14.out.drew.below (Nat.le_refl _) (fun q hq hh => by omega)⟩
end Go.Proofs.YbulkdbdsGreatDoor
