import Derived.Test.YbulkdbdsGreatDoorGs
namespace Go.Proofs.YbulkdbdsGreatDoor
open Go.RowKit Go.HeadTail Go.Conc.Locks Go.MuLone
attribute [local go_sem] yields yUpon

set_option maxRecDepth 100000 in
set_option maxHeartbeats 6400000 in
theorem seen_third (base tb bb cb bc : Nat) (m sf : Int) (x : E) (sv : Value) (s : Nat → Int) (c : E) (wt : Option Addr) (hc : c.ok) (hsf : 0 ≤ sf ∧ sf < 256) (hcx : 128 ≤ sf.toNat ^^^ c.a.toNat) (hs0 : c.hit sf 0 = false) (hno : x.hit c.a c.b = false) (hw : wt.isSome = true ∨ 0 < m) {z4 z6 : Addr} (w : World) (g : Gl w z4 z6)
    (hz : 3 < base ∧ z4.block < base ∧ z6.block < base ∧ base ≤ w.heap.size) (st : Gs base tb bb cb bc true wt m sf [x] sv s w) :
    Calls Ybaz.prog 7 #[.pointer (some ⟨tb, 0, none⟩), .agg (con (some z4) c.a c.b c.ip c.p)] w fun e w' => e = .returned (.tuple #[.agg C0, .bool false, .bool false]) ∧ Gs base tb bb cb bc true wt m sf [x] sv s w' ∧ Kept (fun k => k = tb ∨ k = bb ∨ sv.ownBlock = some k) w w' := by
  obtain ⟨bT, bB, bC, own, sk, ok, ge⟩ := st
  replace bT : Blk w tb (tabv sf 0 1 (clk cb) m m 0 (.slice (some ⟨bb, 0, none⟩) 2 bc) s) 74 := bT
  obtain ⟨sa, cap, rfl, hsa⟩ := own_form own
  obtain ⟨gI, rfl⟩ := hsa (by simp)
  clear hsa
  replace own : w.ownsRow base 90 41 (.slice (some ⟨gI, 0, none⟩) 1 cap) 1 (flat [x]) := own
  replace bB : Blk w bb (bks true (.slice (some ⟨gI, 0, none⟩) 1 cap) wt) 81 := bB
  have hSb : Hid (∀ q, (q = tb ∨ q = bb ∨ (Value.slice (some ⟨gI, 0, none⟩) 1 cap).ownBlock = some q) → base ≤ q) := hide (by
    rintro q (h | h | h)
    · omega
    · omega
    · exact (own_ty own h).1)
  go_enter_defers Ybaz.func7, Ybaz.ntmps7
  go_wp2_with fail
  refine gen_code C0 (by kernel_rfl) (fun W kW0 bR hsz => ?_)
  have kW : Hid (Kept (fun _ => False) w W) := hide (((Kept.refl _ _).alloc _).trans kW0)
  have bA : Blk W w.heap.size (con (some z4) c.a c.b c.ip c.p) 50 := kW0.blk (Blk.new _ _ _) id
  replace hsz := hide (hsz.trans (by simp) : W.heap.size = w.heap.size + 2)
  replace bR : Blk W (w.heap.size + 1) C0 50 := by simpa using bR
  have bTW := kW.out.blk bT id
  have heq : ∀ w', (Op.equalIn 10000 24 (.agg (idv c.a c.b)) (.agg (idv sf 0))).run Ybaz.prog w' = .ok (c.hit sf 0) w' := fun w' => eq24 9998 ..
  clear kW0
  obtain ⟨X, f, hne, hf, hto⟩ := cls (fun w' => w' = World.drew W) (World.drew W) rfl
  have HC := hide (hto _ rfl)
  clear hto
  have hfc : ∀ x (a : Addr), (f x).cell? a = World.cell? W a := fun x a => by rw [hf x]; rfl
  clear hfc
  have bAf : ∀ x, Blk (f x) w.heap.size (con (some z4) c.a c.b c.ip c.p) 50 := fun x => by rw [hf x]; exact bA.drew
  have bTf : ∀ x, Blk (f x) tb (tabv sf 0 1 (clk cb) m m 0 (.slice (some ⟨bb, 0, none⟩) 2 bc) s) 74 := fun x => by rw [hf x]; exact bTW.drew
  refine wp_region_seqD (fun w' => ∃ x, w' = f x) ok7 [(true, 0), (true, 1), (true, 2), (true, 3), (true, 4), (true, 5), (true, 6)] (by kernel_rfl) (by kernel_rfl) (by kernel_rfl) (fun c a k v w hk h => seen_put c a k v w hk h) ?_
  simp only [pickS, List.getElem?_cons_zero, List.getElem?_cons_succ]
  iterate 1
    refine wpSeq_quiet HC.out (fun K hK => ?_)
    go_simp
    refine hK _ ?_
    clear hK K
  refine wpSeq_load_blk HC.out rfl 24 _ rfl (w.heap.size) 0 20 rfl (fun w' hw' => by obtain ⟨x, rfl⟩ := hw'; exact bAf x) (idv c.a c.b) (by kernel_rfl) (by kernel_rfl) (by kernel_rfl) ?_
  iterate 3
    refine wpSeq_quiet HC.out (fun K hK => ?_)
    go_simp
    refine hK _ ?_
    clear hK K
  refine wpSeq_load_blk HC.out rfl 24 _ rfl (tb) 0 20 rfl (fun w' hw' => by obtain ⟨x, rfl⟩ := hw'; exact bTf x) (idv sf 0) (by kernel_rfl) (by kernel_rfl) (by kernel_rfl) ?_
  refine wpSeq_eql HC.out rfl 24 _ _ _ rfl (idv c.a c.b) (idv sf 0) rfl rfl (by kernel_rfl) (c.hit sf 0) (heq) ?_
  refine wpSeq_nil ?_
  clear bAf bTf HC hf hne f X heq
  cases hself : c.hit sf 0 with
  | true => exact absurd (hs0.symm.trans hself) (by decide)
  | false =>
    have bTd := bTW.drew
    go_wp2_with fail
    refine (lock_tab tb _ _ _ _ _ _ _ _ _ bTd).mono ?_
    rintro e w1 ⟨rfl, bT1, k1⟩
    have htw : tb < w.heap.size := bT.lt
    have hbw : bb < w.heap.size := bB.lt
    have hbt : bb ≠ tb := bB.ne bT (by decide)
    have kw1 : Kept (fun k => k = tb) w w1 := (kW.out.mono (by simp)).trans k1.ofDrew
    have bA1 : Blk w1 w.heap.size _ 50 := k1.blk bA.drew (by omega)
    have bR1 : Blk w1 (w.heap.size + 1) _ 50 := k1.blk bR.drew (by omega)
    have c22 := (bT1.cell 22).trans (tab_clock ..)
    have kw1 := hide kw1
    have hsz1 : w.heap.size + 2 ≤ w1.heap.size := by have := hsz.out; have := k1.size; simp at this; omega
    clear bA bR bTW bTd k1 kW hsz
    go_wp2_with fail
    rw [method_now]
    rotate_left
    · kernel_rfl
    go_wp2_with fail
    refine (now_any cb _ (kw1.out.blk bC (bC.ne bT (by decide)))).mono ?_
    rintro e w2 ⟨rfl, k2⟩
    go_wp2_with fail
    refine (span_any tb _ _ _ _ _ _ _ _ _ _ (k2.blk bT1 id)).mono ?_
    rintro e w3 ⟨rfl, k3⟩
    have k23 := k2.trans k3
    have bT3 := k23.blk bT1 id
    have bA3 := k23.blk bA1 id
    have bR3 := k23.blk bR1 id
    have kw3 := hide (kw1.out.trans (k23.mono (by simp)))
    have hsz3 : w.heap.size + 2 ≤ w3.heap.size := Nat.le_trans hsz1 k23.size
    clear k2 k3 k23 bT1 bA1 bR1 c22 kw1 hsz1
    go_wp2_with fail
    have hkt : ∀ {b : Nat} {cs : Array Value} {t : TypeId}, Blk w b cs t → t ≠ 74 → Blk w3 b cs t := fun hb ht => kw3.out.blk hb (hb.ne bT ht)
    have bB3 := hkt bB (by decide)
    have own3 := kw3.out.own own (fun q hq hqt => own_ne own bT (by decide) (by rw [hq, hqt]))
    have g3 : Gl w3 z4 z6 := g.kept kw3.out ⟨by omega, by omega, by omega, by omega, by omega⟩
    clear hkt
    go_loopw [8] (fun _ wr => wr = w3) (fun _ _ => 0)
    case atStart => rfl
    case round =>
      subst hrel
      go_wp2_with (first | (refine wpList_load_blk rfl 24 _ rfl (w.heap.size) 0 20 rfl bA3 (idv c.a c.b) (by kernel_rfl) (by kernel_rfl) (by kernel_rfl) ?_; simp only [Act.put, List.setIfInBounds_toArray, List.set_cons_zero, List.set_cons_succ]))
      refine (index_any tb sf 0 1 _ _ _ _ _ 2 _ _ c.a c.b hsf.1 hsf.2 (by omega) (by omega) hc.1.1 hc.1.2 hc.2.1.1 hc.2.1.2 (by omega) (by omega) _ bT3 (.inr hcx)).mono ?_
      rintro e w4 ⟨rfl, k4⟩
      have bT4 := k4.blk bT3 id
      have bB4 := k4.blk bB3 id
      have c33 := (bT4.cell 33).trans (tab_bs ..)
      have d3 : w4.cell? ⟨bb, 3, none⟩ = some (.int .i64 0) := (bB4.cell 3).trans (bks_at3 ..)
      have e3 := bB4.frozen 3
      have hwb : w.heap.size ≠ bb := by omega
      have bA4 : Blk (w4.setCell ⟨bb, 3, none⟩ (.int .i64 0)) w.heap.size _ 50 := (k4.blk bA3 id).setOther _ _ hwb
      go_wp2_with (first | (refine wpList_load_blk rfl 24 _ rfl (w.heap.size) 0 20 rfl bA4 (idv c.a c.b) (by kernel_rfl) (by kernel_rfl) (by kernel_rfl) ?_; simp only [Act.put, List.setIfInBounds_toArray, List.set_cons_zero, List.set_cons_succ]))
      generalize hV : w4.setCell ⟨bb, 3, none⟩ (.int .i64 0) = V
      have kV : Kept (fun k => k = bb) w4 V := by rw [← hV]; exact Kept.set (p := ⟨bb, 3, none⟩) (Kept.refl (fun k => k = bb) _) (fun _ => rfl) _
      have bBV : Blk V bb (bks true (.slice (some ⟨gI, 0, none⟩) 1 cap) wt) 81 := by
        have := bB4.set 3 (.int .i64 0)
        rw [bks_set3, hV] at this; exact this
      rw [hV] at bA4
      have bTV := kV.blk bT4 (Ne.symm hbt)
      have bRV := kV.blk (k4.blk bR3 id) (by omega)
      have ownV := kV.own (k4.own own3 (fun _ _ h => h)) (fun q hq hqt => own_ne own3 bB3 (by decide) (by rw [hq, hqt]))
      have kwV : Kept (fun k => k = tb ∨ k = bb) w V := ((kw3.out.trans (k4.mono (by simp))).mono (fun _ _ h => .inl h)).trans (kV.mono (fun _ _ h => .inr h))
      have gV : Gl V z4 z6 := g.kept kwV ⟨by omega, by omega, by omega, by omega, by omega⟩
      have hszV : w.heap.size + 2 ≤ V.heap.size := Nat.le_trans hsz3 (Nat.le_trans k4.size kV.size)
      have bCV := kwV.blk bC (fun h => h.elim (bC.ne bT (by decide)) (bC.ne bB (by decide)))
      clear hV bB4 bT4 c33 d3 e3 k4 kV bT3 bA3 bR3 kw3 bB3 own3 g3 hsz3
      replace kwV := hide kwV
      refine (find_any base bb [x] (some ⟨gI, 0, none⟩) 1 cap c.a c.b V (by omega) ((bBV.cell 0).trans (bks_at0 ..)) ownV).mono ?_
      rintro e w5 ⟨r, rfl, hfound, k5⟩
      have bT5 := k5.blk bTV id
      have bB5 := k5.blk bBV id
      have bA5 := k5.blk bA4 id
      have bR5 := k5.blk bRV id
      have bC5 := k5.blk bCV id
      have own5 := k5.own ownV (fun _ _ h => h)
      have kw5 := hide (kwV.out.trans (k5.mono (by simp)))
      have g5 := gV.mono k5
      have hsz5 : w.heap.size + 2 ≤ w5.heap.size := Nat.le_trans hszV k5.size
      clear k5 bTV bBV bA4 bRV ownV kwV gV bCV hszV
      have cb0 : w5.cell? ⟨bb, 0, none⟩ = some (.slice (some ⟨gI, 0, none⟩) 1 cap) := (bB5.cell 0).trans (bks_at0 ..)
      rcases hfound with ⟨j, y, rfl, hx, hhit, hmin⟩ | ⟨rfl, hnone⟩
      · cases j with
        | zero => cases hx; exact absurd (hno.symm.trans hhit) (by decide)
        | succ j => cases hx
      · have hw1 : IntKind.i64.wrap 1 = 1 := by decide
        have hw0 : IntKind.i64.wrap 0 = 0 := by decide
        have ck := (bT5.cell 20).trans (tab_k ..)
        have c33 := (bT5.cell 33).trans (tab_bs ..)
        go_wp2_with fail
        obtain ⟨X, f, hne, hf, hto⟩ := cls (fun w' => w' = World.drew w5) (World.drew w5) rfl
        have HC := hide (hto _ rfl)
        clear hto
        have hfc : ∀ x (a : Addr), (f x).cell? a = World.cell? w5 a := fun x a => by rw [hf x]; rfl
        have lb0 : ∀ x, (f x).cell? ⟨bb, 0, none⟩ = some (.slice (some ⟨gI, 0, none⟩) 1 cap) := fun x => (hfc x _).trans cb0
        have lk : ∀ x, (f x).cell? ⟨tb, 20, none⟩ = some (.int .i64 1) := fun x => (hfc x _).trans ck
        have l33 : ∀ x, (f x).cell? ⟨tb, 33, none⟩ = some (.slice (some ⟨bb, 0, none⟩) 2 bc) := fun x => (hfc x _).trans c33
        clear hfc
        refine wp_region_seqD (fun w' => ∃ x, w' = f x) ok7 [(true, 0), (true, 1), (true, 2), (true, 3), (true, 4), (true, 5), (true, 6), (true, 7), (true, 8), (true, 9), (true, 10), (true, 11), (true, 12), (true, 13), (true, 14), (true, 15), (true, 16), (true, 17), (true, 18), (true, 19), (true, 20), (true, 21), (true, 22), (true, 23), (true, 24), (true, 25), (true, 26), (true, 27), (true, 28)] (by kernel_rfl) (by kernel_rfl) (by kernel_rfl) (fun c a k v w hk h => seen_put c a k v w hk h) ?_
        simp only [pickS, List.getElem?_cons_zero, List.getElem?_cons_succ]
        iterate 29
          refine wpSeq_quiet HC.out (fun K hK => ?_)
          go_simp
          refine hK _ ?_
          clear hK K
        refine wpSeq_nil ?_
        clear lb0 lk l33 HC hf hne f X ck c33 hw1 hw0
        cases wt with
        | some a0 =>
          have cw : w5.cell? ⟨bb, 1, none⟩ = some (.pointer (some a0)) := (bB5.cell 1).trans (bks_at1 ..)
          have k5d : Kept (fun _ => False) w5 w5.drew := (Kept.refl _ _).drew
          have bTq := (k5d).blk bT5 id
          have bBq := (k5d).blk bB5 id
          have bRq := (k5d).blk bR5 id
          have bCq := (k5d).blk bC5 id
          have ownq := (k5d).own own5 (fun _ _ h => h)
          have kwq := hide (kw5.out.trans ((k5d).mono (by simp)))
          go_upto_region 19 with fail
          go_wp2_with (first | (refine wpList_built rfl 50 _ rfl (C0) (by kernel_rfl) ?_; simp only [Act.put, List.setIfInBounds_toArray, List.set_cons_zero, List.set_cons_succ]) | (refine wpList_store_blk rfl 50 _ _ rfl (w.heap.size + 1) 0 (C0) rfl rfl bRq (by kernel_rfl) (by kernel_rfl) (by kernel_rfl) ?_; simp only [Act.put]))
          have kz : Kept (fun k => k = w.heap.size + 1) w5.drew (w5.drew.setCells (w.heap.size + 1) 0 C0.toList) := Kept.setCells _ _ (Kept.refl _ _) (fun _ => rfl)
          refine leaves_cons (f := 12) (args := #[.pointer (some ⟨tb, 31, none⟩)]) (by simp) (by simp [go_sem]) ?_
          refine (unlock_tab tb _ _ _ _ _ _ _ _ .returning _ (kz.blk bTq (by omega))).mono ?_
          rintro e u' w9 ⟨rfl, rfl, bT9, k9⟩
          refine ⟨_, res7 _ (w.heap.size + 1) C0 50 (.bool false) (.bool false) _ (k9.blk (bRq.setAll _ rfl) (by omega)) (by kernel_rfl) rfl rfl rfl, rfl, ?_, ?_⟩
          · exact ⟨bT9, k9.blk (kz.blk bBq (by omega)) hbt, k9.blk (kz.blk bCq (by have := bC.lt; omega)) (bC.ne bT (by decide)), k9.own (kz.own ownq (fun q hq hh => own_ne ownq bRq (by decide) (by rw [hq, hh]))) (fun q hq hh => own_ne ownq bTq (by decide) (by rw [hq, hh])), sk, ok, ge⟩
          · refine ((kwq.out.mono ?_).trans' kz ?_).trans' k9 ?_
            · intro q _ h; exact h.elim .inl (fun h => .inr (.inl h))
            · intro q hq h; exact absurd h (by omega)
            · intro q _ h; exact .inl h
        | none =>
          have hm : 0 < m := hw.elim (fun h => by cases h) id
          obtain ⟨cur, bG, hcsz, hncap, _, htk, hext⟩ := own_blk own5
          have hcut : cur.extract 0 (0 + 41) = ent x.a x.b x.ip x.p := hext 0 x rfl
          have cw : w5.cell? ⟨bb, 1, none⟩ = some (.pointer none) := (bB5.cell 1).trans (bks_at1 ..)
          have bGd := bG.drew
          clear hext htk
          go_wp2_with (first | (refine wpList_load_blkG (by kernel_rfl) 90 _ rfl gI 0 41 rfl bGd (ent x.a x.b x.ip x.p) hcut (by kernel_rfl) (by kernel_rfl) ?_; simp only [Act.put, List.setIfInBounds_toArray, List.set_cons_zero, List.set_cons_succ]))
          refine (good_any tb _ _ _ _ m _ _ _ x.a x.b x.ip x.p (by omega) _ bT5.drew).mono ?_
          rintro e w6 ⟨rfl, k6⟩
          rw [decide_eq_true hm]
          have k56 : Kept (fun _ => False) w5 w6 := k6.ofDrew
          have bTq := (k56).blk bT5 id
          have bBq := (k56).blk bB5 id
          have bRq := (k56).blk bR5 id
          have bCq := (k56).blk bC5 id
          have ownq := (k56).own own5 (fun _ _ h => h)
          have kwq := hide (kw5.out.trans ((k56).mono (by simp)))
          clear k6 k56 bT5 bB5 bR5 bC5 own5 kw5 g5 bA5 cb0 cw bGd bG hcut hcsz hncap
          go_wp2_with fail
          refine (chall_any tb bb _ _ _ _ _ _ _ _ _ _ bTq).mono ?_
          rintro e w7 ⟨rfl, rfl⟩
          go_upto_region 19 with fail
          go_wp2_with (first | (refine wpList_built rfl 50 _ rfl (C0) (by kernel_rfl) ?_; simp only [Act.put, List.setIfInBounds_toArray, List.set_cons_zero, List.set_cons_succ]) | (refine wpList_store_blk rfl 50 _ _ rfl (w.heap.size + 1) 0 (C0) rfl rfl bRq (by kernel_rfl) (by kernel_rfl) (by kernel_rfl) ?_; simp only [Act.put]))
          have kz : Kept (fun k => k = w.heap.size + 1) w7 (w7.setCells (w.heap.size + 1) 0 C0.toList) := Kept.setCells _ _ (Kept.refl _ _) (fun _ => rfl)
          refine leaves_cons (f := 12) (args := #[.pointer (some ⟨tb, 31, none⟩)]) (by simp) (by simp [go_sem]) ?_
          refine (unlock_tab tb _ _ _ _ _ _ _ _ .returning _ (kz.blk bTq (by omega))).mono ?_
          rintro e u' w9 ⟨rfl, rfl, bT9, k9⟩
          refine ⟨_, res7 _ (w.heap.size + 1) C0 50 (.bool false) (.bool false) _ (k9.blk (bRq.setAll _ rfl) (by omega)) (by kernel_rfl) rfl rfl rfl, rfl, ?_, ?_⟩
          · exact ⟨bT9, k9.blk (kz.blk bBq (by omega)) hbt, k9.blk (kz.blk bCq (by have := bC.lt; omega)) (bC.ne bT (by decide)), k9.own (kz.own ownq (fun q hq hh => own_ne ownq bRq (by decide) (by rw [hq, hh]))) (fun q hq hh => own_ne ownq bTq (by decide) (by rw [hq, hh])), sk, ok, ge⟩
          · refine ((kwq.out.mono ?_).trans' kz ?_).trans' k9 ?_
            · intro q _ h; exact h.elim .inl (fun h => .inr (.inl h))
            · intro q hq h; exact absurd h (by omega)
            · intro q _ h; exact .inl h
end Go.Proofs.YbulkdbdsGreatDoor
