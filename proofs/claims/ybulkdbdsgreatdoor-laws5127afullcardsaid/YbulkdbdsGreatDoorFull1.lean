import Derived.Test.YbulkdbdsGreatDoorGs
namespace Go.Proofs.YbulkdbdsGreatDoor
open Go.RowKit Go.HeadTail Go.Conc.Locks Go.MuLone
attribute [local go_sem] yields yUpon

set_option maxRecDepth 100000 in
set_option maxHeartbeats 6400000 in
theorem seen_first (base tb bb cb bc : Nat) (m sf : Int) (L : List E) (sv : Value) (s : Nat → Int) (c : E) (wt : Option Addr) (hc : c.ok) (hsf : 0 ≤ sf ∧ sf < 256) (hcx : 128 ≤ sf.toNat ^^^ c.a.toNat) (hs0 : c.hit sf 0 = false) (hL : L.length < 1) {z4 z6 : Addr} (w : World) (g : Gl w z4 z6)
    (hz : 3 < base ∧ z4.block < base ∧ z6.block < base ∧ base ≤ w.heap.size) (st : Gs base tb bb cb bc false wt m sf L sv s w) :
    Calls Ybaz.prog 7 #[.pointer (some ⟨tb, 0, none⟩), .agg (con (some z4) c.a c.b c.ip c.p)] w fun e w' => e = .returned (.tuple #[.agg C0, .bool false, .bool true]) ∧ (∃ sv' s', Gs base tb bb cb bc false wt m sf (L ++ [c]) sv' s' w') ∧ Kept (fun k => k = tb ∨ k = bb ∨ sv.ownBlock = some k) w w' := by
  obtain ⟨bT, bB, bC, own, sk, ok, ge⟩ := st
  replace bT : Blk w tb (tabv sf 0 1 (clk cb) m m 0 (.slice (some ⟨bb, 0, none⟩) 1 bc) s) 74 := bT
  obtain ⟨sa, cap, rfl, hsa⟩ := own_form own
  have hSb : Hid (∀ q, (q = tb ∨ q = bb ∨ (Value.slice sa L.length cap).ownBlock = some q) → base ≤ q) := hide (by
    rintro q (h | h | h)
    · omega
    · omega
    · exact (own_ty own h).1)
  go_enter_defers Ybaz.func7, Ybaz.ntmps7
  go_wp2_with fail
  refine gen_code C0 (by kernel_rfl) (fun W kW0 bR hsz => ?_)
  have kW : Hid (Kept (fun _ => False) w W) := hide (((Kept.refl _ _).alloc _).trans kW0)
  have bA : Blk W w.heap.size (con (some z4) c.a c.b c.ip c.p) 50 := kW0.blk (Blk.new _ _ _) id
  replace hsz := hide (hsz.trans (by simp) : W.heap.size = w.heap.size + 2)
  replace bR : Blk W (w.heap.size + 1) C0 50 := by simpa using bR
  have bTW := kW.out.blk bT id
  have heq : ∀ w', (Op.equalIn 10000 24 (.agg (idv c.a c.b)) (.agg (idv sf 0))).run Ybaz.prog w' = .ok (c.hit sf 0) w' := fun w' => eq24 9998 ..
  clear kW0
  obtain ⟨X, f, hne, hf, hto⟩ := cls (fun w' => w' = World.drew W) (World.drew W) rfl
  have HC := hide (hto _ rfl)
  clear hto
  have hfc : ∀ x (a : Addr), (f x).cell? a = World.cell? W a := fun x a => by rw [hf x]; rfl
  clear hfc
  have bAf : ∀ x, Blk (f x) w.heap.size (con (some z4) c.a c.b c.ip c.p) 50 := fun x => by rw [hf x]; exact bA.drew
  have bTf : ∀ x, Blk (f x) tb (tabv sf 0 1 (clk cb) m m 0 (.slice (some ⟨bb, 0, none⟩) 1 bc) s) 74 := fun x => by rw [hf x]; exact bTW.drew
  refine wp_region_seqD (fun w' => ∃ x, w' = f x) ok7 [(true, 0), (true, 1), (true, 2), (true, 3), (true, 4), (true, 5), (true, 6)] (by kernel_rfl) (by kernel_rfl) (by kernel_rfl) (fun c a k v w hk h => seen_put c a k v w hk h) ?_
  simp only [pickS, List.getElem?_cons_zero, List.getElem?_cons_succ]
  iterate 1
    refine wpSeq_quiet HC.out (fun K hK => ?_)
    go_simp
    refine hK _ ?_
    clear hK K
  refine wpSeq_load_blk HC.out rfl 24 _ rfl (w.heap.size) 0 20 rfl (fun w' hw' => by obtain ⟨x, rfl⟩ := hw'; exact bAf x) (idv c.a c.b) (by kernel_rfl) (by kernel_rfl) (by kernel_rfl) ?_
  iterate 3
    refine wpSeq_quiet HC.out (fun K hK => ?_)
    go_simp
    refine hK _ ?_
    clear hK K
  refine wpSeq_load_blk HC.out rfl 24 _ rfl (tb) 0 20 rfl (fun w' hw' => by obtain ⟨x, rfl⟩ := hw'; exact bTf x) (idv sf 0) (by kernel_rfl) (by kernel_rfl) (by kernel_rfl) ?_
  refine wpSeq_eql HC.out rfl 24 _ _ _ rfl (idv c.a c.b) (idv sf 0) rfl rfl (by kernel_rfl) (c.hit sf 0) (heq) ?_
  refine wpSeq_nil ?_
  clear bAf bTf HC hf hne f X heq
  cases hself : c.hit sf 0 with
  | true => exact absurd (hs0.symm.trans hself) (by decide)
  | false =>
    have bTd := bTW.drew
    go_wp2_with fail
    refine (lock_tab tb _ _ _ _ _ _ _ _ _ bTd).mono ?_
    rintro e w1 ⟨rfl, bT1, k1⟩
    have htw : tb < w.heap.size := bT.lt
    have hbw : bb < w.heap.size := bB.lt
    have hbt : bb ≠ tb := bB.ne bT (by decide)
    have kw1 : Kept (fun k => k = tb) w w1 := (kW.out.mono (by simp)).trans k1.ofDrew
    have bA1 : Blk w1 w.heap.size _ 50 := k1.blk bA.drew (by omega)
    have bR1 : Blk w1 (w.heap.size + 1) _ 50 := k1.blk bR.drew (by omega)
    have c22 := (bT1.cell 22).trans (tab_clock ..)
    have kw1 := hide kw1
    have hsz1 : w.heap.size + 2 ≤ w1.heap.size := by have := hsz.out; have := k1.size; simp at this; omega
    clear bA bR bTW bTd k1 kW hsz
    go_wp2_with fail
    rw [method_now]
    rotate_left
    · kernel_rfl
    go_wp2_with fail
    refine (now_any cb _ (kw1.out.blk bC (bC.ne bT (by decide)))).mono ?_
    rintro e w2 ⟨rfl, k2⟩
    go_wp2_with fail
    refine (span_any tb _ _ _ _ _ _ _ _ _ _ (k2.blk bT1 id)).mono ?_
    rintro e w3 ⟨rfl, k3⟩
    have k23 := k2.trans k3
    have bT3 := k23.blk bT1 id
    have bA3 := k23.blk bA1 id
    have bR3 := k23.blk bR1 id
    have kw3 := hide (kw1.out.trans (k23.mono (by simp)))
    have hsz3 : w.heap.size + 2 ≤ w3.heap.size := Nat.le_trans hsz1 k23.size
    clear k2 k3 k23 bT1 bA1 bR1 c22 kw1 hsz1
    go_wp2_with fail
    have hkt : ∀ {b : Nat} {cs : Array Value} {t : TypeId}, Blk w b cs t → t ≠ 74 → Blk w3 b cs t := fun hb ht => kw3.out.blk hb (hb.ne bT ht)
    have bB3 := hkt bB (by decide)
    have own3 := kw3.out.own own (fun q hq hqt => own_ne own bT (by decide) (by rw [hq, hqt]))
    have g3 : Gl w3 z4 z6 := g.kept kw3.out ⟨by omega, by omega, by omega, by omega, by omega⟩
    clear hkt
    go_loopw [8] (fun _ wr => wr = w3) (fun _ _ => 0)
    case atStart => rfl
    case round =>
      subst hrel
      go_wp2_with (first | (refine wpList_load_blk rfl 24 _ rfl (w.heap.size) 0 20 rfl bA3 (idv c.a c.b) (by kernel_rfl) (by kernel_rfl) (by kernel_rfl) ?_; simp only [Act.put, List.setIfInBounds_toArray, List.set_cons_zero, List.set_cons_succ]))
      refine (index_any tb sf 0 1 _ _ _ _ _ 1 _ _ c.a c.b hsf.1 hsf.2 (by omega) (by omega) hc.1.1 hc.1.2 hc.2.1.1 hc.2.1.2 (by omega) (by omega) _ bT3 (.inr hcx)).mono ?_
      rintro e w4 ⟨rfl, k4⟩
      have bT4 := k4.blk bT3 id
      have bB4 := k4.blk bB3 id
      have c33 := (bT4.cell 33).trans (tab_bs ..)
      have d3 : w4.cell? ⟨bb, 3, none⟩ = some (.int .i64 0) := (bB4.cell 3).trans (bks_at3 ..)
      have e3 := bB4.frozen 3
      have hwb : w.heap.size ≠ bb := by omega
      have bA4 : Blk (w4.setCell ⟨bb, 3, none⟩ (.int .i64 0)) w.heap.size _ 50 := (k4.blk bA3 id).setOther _ _ hwb
      go_wp2_with (first | (refine wpList_load_blk rfl 24 _ rfl (w.heap.size) 0 20 rfl bA4 (idv c.a c.b) (by kernel_rfl) (by kernel_rfl) (by kernel_rfl) ?_; simp only [Act.put, List.setIfInBounds_toArray, List.set_cons_zero, List.set_cons_succ]))
      generalize hV : w4.setCell ⟨bb, 3, none⟩ (.int .i64 0) = V
      have kV : Kept (fun k => k = bb) w4 V := by rw [← hV]; exact Kept.set (p := ⟨bb, 3, none⟩) (Kept.refl (fun k => k = bb) _) (fun _ => rfl) _
      have bBV : Blk V bb (bks false (.slice sa L.length cap) wt) 81 := by
        have := bB4.set 3 (.int .i64 0)
        rw [bks_set3, hV] at this; exact this
      rw [hV] at bA4
      have bTV := kV.blk bT4 (Ne.symm hbt)
      have bRV := kV.blk (k4.blk bR3 id) (by omega)
      have ownV := kV.own (k4.own own3 (fun _ _ h => h)) (fun q hq hqt => own_ne own3 bB3 (by decide) (by rw [hq, hqt]))
      have kwV : Kept (fun k => k = tb ∨ k = bb) w V := ((kw3.out.trans (k4.mono (by simp))).mono (fun _ _ h => .inl h)).trans (kV.mono (fun _ _ h => .inr h))
      have gV : Gl V z4 z6 := g.kept kwV ⟨by omega, by omega, by omega, by omega, by omega⟩
      have hszV : w.heap.size + 2 ≤ V.heap.size := Nat.le_trans hsz3 (Nat.le_trans k4.size kV.size)
      have bCV := kwV.blk bC (fun h => h.elim (bC.ne bT (by decide)) (bC.ne bB (by decide)))
      clear hV bB4 bT4 c33 d3 e3 k4 kV bT3 bA3 bR3 kw3 bB3 own3 g3 hsz3
      replace kwV := hide kwV
      refine (find_any base bb L sa L.length cap c.a c.b V (by omega) ((bBV.cell 0).trans (bks_at0 ..)) ownV).mono ?_
      rintro e w5 ⟨r, rfl, hfound, k5⟩
      have bT5 := k5.blk bTV id
      have bB5 := k5.blk bBV id
      have bA5 := k5.blk bA4 id
      have bR5 := k5.blk bRV id
      have bC5 := k5.blk bCV id
      have own5 := k5.own ownV (fun _ _ h => h)
      have kw5 := hide (kwV.out.trans (k5.mono (by simp)))
      have g5 := gV.mono k5
      have hsz5 : w.heap.size + 2 ≤ w5.heap.size := Nat.le_trans hszV k5.size
      clear k5 bTV bBV bA4 bRV ownV kwV gV bCV hszV
      have cb0 : w5.cell? ⟨bb, 0, none⟩ = some (.slice sa L.length cap) := (bB5.cell 0).trans (bks_at0 ..)
      rcases hfound with ⟨j, x, rfl, hx, hhit, hmin⟩ | ⟨rfl, hnone⟩
      · exact absurd (List.getElem?_eq_some_iff.1 hx).1 (by omega)
      · have hln : ¬ ((L.length : Int) = 1) := by omega
        have ck := (bT5.cell 20).trans (tab_k ..)
        have c33 := (bT5.cell 33).trans (tab_bs ..)
        have hlb : ((L.length : Int) == 1) = false := by simp [hln]
        go_wp2_with fail
        obtain ⟨X, f, hne, hf, hto⟩ := cls (fun w' => w' = World.drew w5) (World.drew w5) rfl
        have HC := hide (hto _ rfl)
        clear hto
        have hfc : ∀ x (a : Addr), (f x).cell? a = World.cell? w5 a := fun x a => by rw [hf x]; rfl
        have lb0 : ∀ x, (f x).cell? ⟨bb, 0, none⟩ = some (.slice sa L.length cap) := fun x => (hfc x _).trans cb0
        have lk : ∀ x, (f x).cell? ⟨tb, 20, none⟩ = some (.int .i64 1) := fun x => (hfc x _).trans ck
        clear hfc
        refine wp_region_seqD (fun w' => ∃ x, w' = f x) ok7 [(true, 0), (true, 1), (true, 2), (true, 3), (true, 4), (true, 5), (true, 6), (true, 7), (true, 8), (true, 9), (true, 10), (true, 11), (true, 12), (true, 13), (true, 14), (true, 15), (true, 16), (true, 17), (true, 18), (true, 19), (true, 20), (true, 21), (true, 22), (true, 23), (true, 24), (true, 25), (true, 26), (true, 27), (true, 28)] (by kernel_rfl) (by kernel_rfl) (by kernel_rfl) (fun c a k v w hk h => seen_put c a k v w hk h) ?_
        simp only [pickS, List.getElem?_cons_zero, List.getElem?_cons_succ]
        iterate 29
          refine wpSeq_quiet HC.out (fun K hK => ?_)
          go_simp
          refine hK _ ?_
          clear hK K
        refine wpSeq_nil ?_
        clear lb0 lk HC hf hne f X
        have bAd := bA5.drew
        go_wp2_with (first | (refine wpList_load_blkG (by kernel_rfl) 47 _ rfl (w.heap.size) 20 4 rfl bAd (ap (some z4) c.ip c.p) (by kernel_rfl) (by kernel_rfl) (by kernel_rfl) ?_; simp only [Act.put, List.setIfInBounds_toArray, List.set_cons_zero, List.set_cons_succ]))
        refine (holds_any base tb bb L false sa L.length cap bc wt sf 0 1 _ _ _ _ s c.ip c.p hc.2.2.1.1 hc.2.2.1.2 _ (g5.mono (Kept.refl _ _).drew) (by omega) ok sk bT5.drew bB5.drew (own_drew own5)).mono ?_
        rintro e w6 ⟨rfl, ⟨s', sk', bT6⟩, k6⟩
        have k56 : Kept (fun k => k = tb) w5 w6 := k6.ofDrew
        have bB6 := k56.blk bB5 hbt
        have bA6 := k56.blk bA5 (by omega)
        have bR6 := k56.blk bR5 (by omega)
        have bC6 := k56.blk bC5 (bC.ne bT (by decide))
        have own6 := k56.own own5 (fun q hq hqt => own_ne own5 bT5 (by decide) (by rw [hq, hqt]))
        have kw6 : Hid (Kept (fun k => k = tb ∨ k = bb) w w6) := hide (kw5.out.trans (k56.mono (fun _ _ h => .inl h)))
        have g6 : Gl w6 z4 z6 := g5.kept k56 ⟨by omega, by omega, by omega, by omega, by omega⟩
        have hsz6 : w.heap.size + 2 ≤ w6.heap.size := Nat.le_trans hsz5 k56.size
        clear k6 k56 bT5 bB5 bA5 bR5 bC5 own5 kw5 g5 hsz5 bAd cb0 ck c33
        have hany0 : (L.any fun x => x.ip == c.ip) = false := by rw [(List.eq_nil_of_length_eq_zero (by omega) : L = [])]; rfl
        cases hany : (L.any fun x => x.ip == c.ip) with
        | true => exact absurd (hany0.symm.trans hany) (by decide)
        | false =>
          have cb0 : w6.cell? ⟨bb, 0, none⟩ = some (.slice sa L.length cap) := (bB6.cell 0).trans (bks_at0 ..)
          have ck := (bT6.cell 20).trans (tab_k ..)
          have hlt2 : (L.length : Int) < 1 := by omega
          go_wp2_with fail
          obtain ⟨X, f, hne, hf, hto⟩ := cls (fun w' => w' = World.drew w6) (World.drew w6) rfl
          have HC := hide (hto _ rfl)
          clear hto
          have hfc : ∀ x (a : Addr), (f x).cell? a = World.cell? w6 a := fun x a => by rw [hf x]; rfl
          have lb0 : ∀ x, (f x).cell? ⟨bb, 0, none⟩ = some (.slice sa L.length cap) := fun x => (hfc x _).trans cb0
          have lk : ∀ x, (f x).cell? ⟨tb, 20, none⟩ = some (.int .i64 1) := fun x => (hfc x _).trans ck
          clear hfc
          refine wp_region_seqD (fun w' => ∃ x, w' = f x) ok7 [(true, 0), (true, 1), (true, 2), (true, 3), (true, 4), (true, 5), (true, 6), (true, 7), (true, 8), (true, 9), (true, 10)] (by kernel_rfl) (by kernel_rfl) (by kernel_rfl) (fun c a k v w hk h => seen_put c a k v w hk h) ?_
          simp only [pickS, List.getElem?_cons_zero, List.getElem?_cons_succ]
          iterate 11
            refine wpSeq_quiet HC.out (fun K hK => ?_)
            go_simp
            refine hK _ ?_
            clear hK K
          refine wpSeq_nil ?_
          clear lb0 lk HC hf hne f X
          go_wp2_with fail
          have hob : (Value.slice sa L.length cap).ownBlock ≠ some bb := own_ne own6 bB6 (by decide)
          have hoA : (Value.slice sa L.length cap).ownBlock ≠ some w.heap.size := own_ne own6 bA6 (by decide)
          have hoR : (Value.slice sa L.length cap).ownBlock ≠ some (w.heap.size + 1) := own_ne own6 bR6 (by decide)
          have hoT : (Value.slice sa L.length cap).ownBlock ≠ some tb := own_ne own6 bT6 (by decide)
          have hoC : (Value.slice sa L.length cap).ownBlock ≠ some cb := own_ne own6 bC6 (by decide)
          obtain ⟨X, f, hne, hf, hto⟩ := cls (Kept (fun k => (Value.slice sa L.length cap).ownBlock = some k) (w6.drew)) (World.drew (w6.drew)) (Kept.refl _ _).drew
          have HC := hide (hto _ (Kept.refl _ (w6.drew)).drew)
          have Hto := hide hto
          clear hto
          have lb0 : ∀ x, (f x).cell? ⟨bb, 0, none⟩ = some (.slice sa L.length cap) := fun x => (((hf x).blk bB6.drew hob).cell 0).trans (bks_at0 ..)
          refine wp_region_seqR (fun w' => ∃ x, w' = f x) 12 ok7 [(0, 0), (0, 1), (0, 2), (0, 3), (0, 4), (0, 5), (0, 6), (2, 7), (2, 8), (2, 9), (1, 10), (1, 11), (2, 12)] (by kernel_rfl) (by kernel_rfl) (by kernel_rfl) (fun c a k v w hk h => seen_put c a k v w hk h) ?_
          simp only [pickF, List.getElem?_cons_zero, List.getElem?_cons_succ]
          iterate 5
            refine wpSeqR_quiet HC.out (fun K hK => ?_)
            go_simp
            refine hK _ ?_
            clear hK K
          refine wpSeqR_load_blk HC.out rfl 50 _ rfl (w.heap.size) 0 24 rfl (fun w' hw' => by obtain ⟨x, rfl⟩ := hw'; exact (hf x).blk bA6.drew hoA) (con (some z4) c.a c.b c.ip c.p) (by kernel_rfl) (by kernel_rfl) (by kernel_rfl) ?_
          iterate 1
            refine wpSeqR_quiet HC.out (fun K hK => ?_)
            go_simp
            refine hK _ ?_
            clear hK K
          refine wpSeqR_op rfl (fun K hK => ?_)
          go_simp
          refine (newEntry_any (some z4) c.a c.b c.ip c.p hc.2.2.1.1 hc.2.2.1.2 hc.2.2.2.1 hc.2.2.2.2 _).mono ?_
          rintro e w7 ⟨rfl, k7⟩
          refine hK _ _ (fun _ _ => Hto.out _ (k7.ofDrew.mono (by simp))) ?_
          clear hK K
          have k67 : Kept (fun _ => False) w6 w7 := (k7.ofDrew).ofDrew
          refine wpSeqR_op rfl (fun K hK => ?_)
          refine wp_slice90 _ rfl c.a c.b c.ip c.p rfl ?_
          refine hK _ _ (fun _ _ => Hto.out _ ((k7.ofDrew.mono (by simp)).alloc _)) ?_
          clear hK K
          have own7 := k67.own own6 (fun _ _ h => h)
          obtain ⟨i90, hi90, hz0, hz1, hz2⟩ := info_parts info90
          refine wpSeqR_op rfl (fun K hK => ?_)
          refine wp_append_lies _ _ _ 77 rfl base 90 i90 (.agg (ent0 0 0)) 41 48 Ybaz.underlying77 hi90 hz0 hz1 hz2 (by kernel_rfl) (by decide) (.slice sa L.length cap) L.length (flat L) rfl (((Kept.refl (fun _ => False) w7).alloc _).own own7 (fun _ _ h => h)) ⟨w7.heap.size, 0, none⟩ 1 1 (ent c.a c.b c.ip c.p).toList rfl (by kernel_rfl) (fun j u hu => by rw [Addr.add_mid, Nat.zero_add, (Blk.new w7 (ent c.a c.b c.ip c.p) 90).cell, ← Array.getElem?_toList]; exact hu) (ent_one _ _ _ _) (by decide) (by unfold maxLen; omega) (by omega) (by have := k67.size; simp; omega) _ rfl ?_
          intro gN cN w8 own8 grow8 hat8 hlt8
          have k8 : Kept (fun k => (Value.slice sa L.length cap).ownBlock = some k) w7 w8 := ((Kept.refl _ _).alloc _).grown grow8 (fun _ _ e => e)
          refine hK _ _ (fun _ _ => Hto.out _ ((k7.ofDrew.mono (by simp)).trans k8)) ?_
          clear hK K
          iterate 2
            refine wpSeqR_pure (fun K hK => ?_)
            go_simp
            refine hK _ ?_
            clear hK K
          have k68 : Kept (fun k => (Value.slice sa L.length cap).ownBlock = some k) w6 w8 := (k67.mono (by simp)).trans k8
          have bB8 := k68.blk bB6 hob
          have d0 : w8.cell? ⟨bb, 0, none⟩ = some (.slice sa L.length cap) := (bB8.cell 0).trans (bks_at0 ..)
          have e0 := bB8.frozen 0
          refine wpSeqR_op rfl (fun K hK => ?_)
          go_simp
          refine hK _ _ (fun h => absurd h (by decide)) ?_
          clear hK K
          refine wpSeqR_nil ?_
          clear lb0 Hto HC hf hne f X
          generalize hV : w8.setCell ⟨bb, 0, none⟩ (.slice (some ⟨gN, 0, none⟩) (L.length + 1) cN) = V
          have hw7 : w.heap.size + 2 ≤ w7.heap.size := Nat.le_trans hsz6 k67.size
          have hgN : gN ≠ bb ∧ gN ≠ tb ∧ gN ≠ w.heap.size ∧ gN ≠ w.heap.size + 1 ∧ gN ≠ cb := by
            rcases hat8 with h | h
            · rw [h] at hob hoT hoA hoR hoC
              exact ⟨fun e => hob (by rw [e]), fun e => hoT (by rw [e]), fun e => hoA (by rw [e]), fun e => hoR (by rw [e]), fun e => hoC (by rw [e])⟩
            · have h' : gN = w7.heap.size + 1 := by simpa using h
              have hcw := bC.lt
              omega
          have kV : Kept (fun k => k = bb) w8 V := by rw [← hV]; exact Kept.set (S := fun k => k = bb) (p := ⟨bb, 0, none⟩) (Kept.refl _ _) (fun _ => rfl) _
          have bBV : Blk V bb (bks false (.slice (some ⟨gN, 0, none⟩) (L.length + 1) cN) wt) 81 := by
            have := bB8.set 0 (.slice (some ⟨gN, 0, none⟩) (L.length + 1) cN)
            rw [bks_set0, hV] at this; exact this
          have ownV : V.ownsRow base 90 41 (.slice (some ⟨gN, 0, none⟩) (L.length + 1) cN) (L.length + 1) (flat L ++ (ent c.a c.b c.ip c.p).toList) := kV.own own8 (fun q hq hh => by cases hq; exact hgN.1 hh)
          have bTV := kV.blk (k68.blk bT6 hoT) (Ne.symm hbt)
          have bAV := kV.blk (k68.blk bA6 hoA) (by omega)
          have bRV := kV.blk (k68.blk bR6 hoR) (by omega)
          have bCV := kV.blk (k68.blk bC6 hoC) (bC.ne bB (by decide))
          have kb6 : Kept (fun k => k = tb ∨ k = bb ∨ (Value.slice sa L.length cap).ownBlock = some k) w6 w8 := k68.mono (fun q _ h => .inr (.inr h))
          have kwV : Hid (Kept (fun k => k = tb ∨ k = bb ∨ (Value.slice sa L.length cap).ownBlock = some k) w V) := hide (((kw6.out.mono (fun q _ h => h.elim .inl (fun h => .inr (.inl h)))).trans kb6).trans (kV.mono (fun q _ h => .inr (.inl h))))
          have gV : Gl V z4 z6 := g.kept (kwV.out.mono (T := fun k => base ≤ k) (fun q _ h => hSb.out q h)) ⟨by omega, by omega, by omega, by omega, by omega⟩
          have hszV : w.heap.size + 2 ≤ V.heap.size := by have := k68.size; have := kV.size; omega
          clear hV kV bB8 own8 k68 k67 k7 k8 kb6 d0 e0 bT6 bA6 bR6 bC6 bB6 own6 kw6 g6 hat8 grow8 own7 hlt8
          have csh := (bTV.cell 28).trans (tab_shared ..)
          go_wp2_with fail
          obtain ⟨X, f, hne, hf, hto⟩ := cls (fun w' => Kept (fun k => k = tb) V w' ∧ w'.cell? ⟨tb, 28, none⟩ = some (.bool false)) V.drew ⟨(Kept.refl _ _).drew, csh⟩
          have HC := hide (hto _ ⟨(Kept.refl _ V).drew, csh⟩)
          have Hto := hide hto
          clear hto
          have lsh : ∀ x, (f x).cell? ⟨tb, 28, none⟩ = some (.bool false) := fun x => (hf x).2
          refine wp_region_seqD (fun w' => ∃ x, w' = f x) ok7 [(true, 0), (true, 1), (true, 2), (true, 3), (true, 4), (true, 5), (true, 6), (true, 7), (true, 8), (false, 9), (false, 10)] (by kernel_rfl) (by kernel_rfl) (by kernel_rfl) (fun c a k v w hk h => seen_put c a k v w hk h) ?_
          simp only [pickS, List.getElem?_cons_zero, List.getElem?_cons_succ]
          iterate 4
            refine wpSeq_quiet HC.out (fun K hK => ?_)
            go_simp
            refine hK _ ?_
            clear hK K
          refine wpSeq_load_blk HC.out rfl 47 _ rfl (w.heap.size) 20 4 rfl (fun w' hw' => by obtain ⟨x, rfl⟩ := hw'; exact (hf x).1.blk bAV (by omega)) (ap (some z4) c.ip c.p) (by kernel_rfl) (by kernel_rfl) (by kernel_rfl) ?_
          iterate 4
            refine wpSeq_quiet HC.out (fun K hK => ?_)
            go_simp
            refine hK _ ?_
            clear hK K
          refine wpSeq_forced (fun K hK => ?_)
          go_simp
          refine (host_any c.ip c.p _ (gV.mono (Kept.refl _ _).drew)).mono ?_
          rintro e wa ⟨rfl, ka⟩
          have kVa : Kept (fun _ => False) V wa := ka.ofDrew
          have bTa := kVa.blk bTV id
          have hCa := Hto.out wa ⟨kVa.mono (by simp), (bTa.cell 28).trans (tab_shared ..)⟩
          refine hK _ _ hCa ?_
          clear hK K HC
          have HC := hide hCa
          refine wpSeq_forced (fun K hK => ?_)
          go_simp
          refine (mark_any tb 34 c.ip (s' (sw c.ip)) hc.2.2.1.1 hc.2.2.1.2 _ _ _ bTa (tab_w _ _ _ _ _ _ _ _ _ _ (sw_bd _))).mono ?_
          rintro e wb ⟨rfl, bTb, kb⟩
          rw [tab_setw _ _ _ _ _ _ _ _ _ _ (sw_bd _)] at bTb
          have kVb : Kept (fun k => k = tb) V wb := (kVa.mono (by simp)).trans kb
          refine hK _ _ (Hto.out wb ⟨kVb, (bTb.cell 28).trans (tab_shared ..)⟩) ?_
          clear hK K
          have bBb := kVb.blk bBV hbt
          have bRb := kVb.blk bRV (by omega)
          have bCb := kVb.blk bCV (bC.ne bT (by decide))
          have ownb := kVb.own ownV (fun q hq hh => by cases hq; exact hgN.2.1 hh)
          have kwb : Hid (Kept (fun k => k = tb ∨ k = bb ∨ (Value.slice sa L.length cap).ownBlock = some k) w wb) := hide (kwV.out.trans (kVb.mono (fun q _ h => .inl h)))
          refine wpSeq_nil ?_
          clear lsh hCa Hto HC hf hne f X
          clear kVa ka bTa kb kVb bBV bRV bCV bTV bAV ownV kwV gV csh
          go_wp2_with (first | (refine wpList_built rfl 50 _ rfl (C0) (by kernel_rfl) ?_; simp only [Act.put, List.setIfInBounds_toArray, List.set_cons_zero, List.set_cons_succ]) | (refine wpList_store_blk rfl 50 _ _ rfl (w.heap.size + 1) 0 (C0) rfl rfl bRb (by kernel_rfl) (by kernel_rfl) (by kernel_rfl) ?_; simp only [Act.put]))
          have kz : Kept (fun k => k = w.heap.size + 1) wb (wb.setCells (w.heap.size + 1) 0 C0.toList) := Kept.setCells _ _ (Kept.refl _ _) (fun _ => rfl)
          refine leaves_cons (f := 12) (args := #[.pointer (some ⟨tb, 31, none⟩)]) (by simp) (by simp [go_sem]) ?_
          refine (unlock_tab tb _ _ _ _ _ _ _ _ .returning _ (kz.blk bTb (by omega))).mono ?_
          rintro e u' w9 ⟨rfl, rfl, bT9, k9⟩
          have hfl : flat (L ++ [c]) = flat L ++ (ent c.a c.b c.ip c.p).toList := by rw [flat_append]; simp [flat, E.v]
          refine ⟨_, res7 _ (w.heap.size + 1) C0 50 (.bool false) (.bool true) _ (k9.blk (bRb.setAll _ rfl) (by omega)) (by kernel_rfl) rfl rfl rfl, rfl, ⟨.slice (some ⟨gN, 0, none⟩) (L.length + 1) cN, _, ⟨bT9, k9.blk (kz.blk bBb (by omega)) hbt, k9.blk (kz.blk bCb (by have := bC.lt; omega)) (bC.ne bT (by decide)), ?_, sk'.mark c, ?_, ge⟩⟩, ?_⟩
          · rw [hfl, List.length_append]
            exact k9.own (kz.own ownb (fun q hq hh => by cases hq; exact hgN.2.2.2.1 hh)) (fun q hq hh => by cases hq; exact hgN.2.1 hh)
          · intro e he
            rcases List.mem_append.1 he with he | he
            · exact ok e he
            · simp at he; subst he; exact hc
          · refine (kwb.out.trans' kz ?_).trans' k9 ?_
            · intro q hq h; exact absurd h (by omega)
            · intro q _ h; exact .inl h
end Go.Proofs.YbulkdbdsGreatDoor
