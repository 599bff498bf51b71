import Derived.Test.YbulkdbdsGreatDoorGs
namespace Go.Proofs.YbulkdbdsGreatDoor
open Go.RowKit Go.HeadTail Go.Conc.Locks Go.MuLone
attribute [local go_sem] yields yUpon

theorem perm1 {L : List E} {j : Nat} {x : E} (hx : L[j]? = some x) (h : L.length ≤ 1) : L.take j ++ L.drop (j + 1) ++ [x] = L := by
  cases L with
  | nil => simp at hx
  | cons a l =>
    have hl : l = [] := List.eq_nil_of_length_eq_zero (by simp at h; simp [h])
    subst hl
    cases j with
    | zero => simp at hx; subst hx; rfl
    | succ j => simp at hx

set_option maxRecDepth 100000 in
set_option maxHeartbeats 6400000 in
theorem seen_again (base tb bb cb bc : Nat) (m sf : Int) (L : List E) (sv : Value) (s : Nat → Int) (c : E) (wt : Option Addr) (hc : c.ok) (hsf : 0 ≤ sf ∧ sf < 256) (hcx : 128 ≤ sf.toNat ^^^ c.a.toNat) (hs0 : c.hit sf 0 = false) (hL : L.length ≤ 1) (hin : ∃ e ∈ L, e.hit c.a c.b = true) (hsame : ∀ e ∈ L, e.hit c.a c.b = true → e.ip = c.ip ∧ e.p = c.p) {z4 z6 : Addr} (w : World) (g : Gl w z4 z6)
    (hz : 3 < base ∧ z4.block < base ∧ z6.block < base ∧ base ≤ w.heap.size) (st : Gs base tb bb cb bc true wt m sf L sv s w) :
    Calls Ybaz.prog 7 #[.pointer (some ⟨tb, 0, none⟩), .agg (con (some z4) c.a c.b c.ip c.p)] w fun e w' => e = .returned (.tuple #[.agg C0, .bool false, .bool false]) ∧ (∃ sv', Gs base tb bb cb bc true wt m sf L sv' s w') ∧ Kept (fun k => k = tb ∨ k = bb ∨ sv.ownBlock = some k) w w' := by
  obtain ⟨bT, bB, bC, own, sk, ok, ge⟩ := st
  replace bT : Blk w tb (tabv sf 0 1 (clk cb) m m 0 (.slice (some ⟨bb, 0, none⟩) 2 bc) s) 74 := bT
  obtain ⟨sa, cap, rfl, hsa⟩ := own_form own
  have hSb : Hid (∀ q, (q = tb ∨ q = bb ∨ (Value.slice sa L.length cap).ownBlock = some q) → base ≤ q) := hide (by
    rintro q (h | h | h)
    · omega
    · omega
    · exact (own_ty own h).1)
  have hL2 : L.length ≤ 256 := by omega
  replace hL := hide hL
  replace hin := hide hin
  replace hsame := hide hsame
  go_enter_defers Ybaz.func7, Ybaz.ntmps7
  go_wp2_with fail
  refine gen_code C0 (by kernel_rfl) (fun W kW0 bR hsz => ?_)
  have kW : Hid (Kept (fun _ => False) w W) := hide (((Kept.refl _ _).alloc _).trans kW0)
  have bA : Blk W w.heap.size (con (some z4) c.a c.b c.ip c.p) 50 := kW0.blk (Blk.new _ _ _) id
  replace hsz := hide (hsz.trans (by simp) : W.heap.size = w.heap.size + 2)
  replace bR : Blk W (w.heap.size + 1) C0 50 := by simpa using bR
  have bTW := kW.out.blk bT id
  have heq : ∀ w', (Op.equalIn 10000 24 (.agg (idv c.a c.b)) (.agg (idv sf 0))).run Ybaz.prog w' = .ok (c.hit sf 0) w' := fun w' => eq24 9998 ..
  clear kW0
  obtain ⟨X, f, hne, hf, hto⟩ := cls (fun w' => w' = World.drew W) (World.drew W) rfl
  have HC := hide (hto _ rfl)
  clear hto
  have hfc : ∀ x (a : Addr), (f x).cell? a = World.cell? W a := fun x a => by rw [hf x]; rfl
  clear hfc
  have bAf : ∀ x, Blk (f x) w.heap.size (con (some z4) c.a c.b c.ip c.p) 50 := fun x => by rw [hf x]; exact bA.drew
  have bTf : ∀ x, Blk (f x) tb (tabv sf 0 1 (clk cb) m m 0 (.slice (some ⟨bb, 0, none⟩) 2 bc) s) 74 := fun x => by rw [hf x]; exact bTW.drew
  refine wp_region_seqD (fun w' => ∃ x, w' = f x) ok7 [(true, 0), (true, 1), (true, 2), (true, 3), (true, 4), (true, 5), (true, 6)] (by kernel_rfl) (by kernel_rfl) (by kernel_rfl) (fun c a k v w hk h => seen_put c a k v w hk h) ?_
  simp only [pickS, List.getElem?_cons_zero, List.getElem?_cons_succ]
  iterate 1
    refine wpSeq_quiet HC.out (fun K hK => ?_)
    go_simp
    refine hK _ ?_
    clear hK K
  refine wpSeq_load_blk HC.out rfl 24 _ rfl (w.heap.size) 0 20 rfl (fun w' hw' => by obtain ⟨x, rfl⟩ := hw'; exact bAf x) (idv c.a c.b) (by kernel_rfl) (by kernel_rfl) (by kernel_rfl) ?_
  iterate 3
    refine wpSeq_quiet HC.out (fun K hK => ?_)
    go_simp
    refine hK _ ?_
    clear hK K
  refine wpSeq_load_blk HC.out rfl 24 _ rfl (tb) 0 20 rfl (fun w' hw' => by obtain ⟨x, rfl⟩ := hw'; exact bTf x) (idv sf 0) (by kernel_rfl) (by kernel_rfl) (by kernel_rfl) ?_
  refine wpSeq_eql HC.out rfl 24 _ _ _ rfl (idv c.a c.b) (idv sf 0) rfl rfl (by kernel_rfl) (c.hit sf 0) (heq) ?_
  refine wpSeq_nil ?_
  clear bAf bTf HC hf hne f X heq
  cases hself : c.hit sf 0 with
  | true => exact absurd (hs0.symm.trans hself) (by decide)
  | false =>
    have bTd := bTW.drew
    go_wp2_with fail
    refine (lock_tab tb _ _ _ _ _ _ _ _ _ bTd).mono ?_
    rintro e w1 ⟨rfl, bT1, k1⟩
    have htw : tb < w.heap.size := bT.lt
    have hbw : bb < w.heap.size := bB.lt
    have hbt : bb ≠ tb := bB.ne bT (by decide)
    have kw1 : Kept (fun k => k = tb) w w1 := (kW.out.mono (by simp)).trans k1.ofDrew
    have bA1 : Blk w1 w.heap.size _ 50 := k1.blk bA.drew (by omega)
    have bR1 : Blk w1 (w.heap.size + 1) _ 50 := k1.blk bR.drew (by omega)
    have c22 := (bT1.cell 22).trans (tab_clock ..)
    have kw1 := hide kw1
    have hsz1 : w.heap.size + 2 ≤ w1.heap.size := by have := hsz.out; have := k1.size; simp at this; omega
    clear bA bR bTW bTd k1 kW hsz
    go_wp2_with fail
    rw [method_now]
    rotate_left
    · kernel_rfl
    go_wp2_with fail
    refine (now_any cb _ (kw1.out.blk bC (bC.ne bT (by decide)))).mono ?_
    rintro e w2 ⟨rfl, k2⟩
    go_wp2_with fail
    refine (span_any tb _ _ _ _ _ _ _ _ _ _ (k2.blk bT1 id)).mono ?_
    rintro e w3 ⟨rfl, k3⟩
    have k23 := k2.trans k3
    have bT3 := k23.blk bT1 id
    have bA3 := k23.blk bA1 id
    have bR3 := k23.blk bR1 id
    have kw3 := hide (kw1.out.trans (k23.mono (by simp)))
    have hsz3 : w.heap.size + 2 ≤ w3.heap.size := Nat.le_trans hsz1 k23.size
    clear k2 k3 k23 bT1 bA1 bR1 c22 kw1 hsz1
    go_wp2_with fail
    have hkt : ∀ {b : Nat} {cs : Array Value} {t : TypeId}, Blk w b cs t → t ≠ 74 → Blk w3 b cs t := fun hb ht => kw3.out.blk hb (hb.ne bT ht)
    have bB3 := hkt bB (by decide)
    have own3 := kw3.out.own own (fun q hq hqt => own_ne own bT (by decide) (by rw [hq, hqt]))
    have g3 : Gl w3 z4 z6 := g.kept kw3.out ⟨by omega, by omega, by omega, by omega, by omega⟩
    clear hkt
    go_loopw [8] (fun _ wr => wr = w3) (fun _ _ => 0)
    case atStart => rfl
    case round =>
      subst hrel
      go_wp2_with (first | (refine wpList_load_blk rfl 24 _ rfl (w.heap.size) 0 20 rfl bA3 (idv c.a c.b) (by kernel_rfl) (by kernel_rfl) (by kernel_rfl) ?_; simp only [Act.put, List.setIfInBounds_toArray, List.set_cons_zero, List.set_cons_succ]))
      refine (index_any tb sf 0 1 _ _ _ _ _ 2 _ _ c.a c.b hsf.1 hsf.2 (by omega) (by omega) hc.1.1 hc.1.2 hc.2.1.1 hc.2.1.2 (by omega) (by omega) _ bT3 (.inr hcx)).mono ?_
      rintro e w4 ⟨rfl, k4⟩
      have bT4 := k4.blk bT3 id
      have bB4 := k4.blk bB3 id
      have c33 := (bT4.cell 33).trans (tab_bs ..)
      have d3 : w4.cell? ⟨bb, 3, none⟩ = some (.int .i64 0) := (bB4.cell 3).trans (bks_at3 ..)
      have e3 := bB4.frozen 3
      have hwb : w.heap.size ≠ bb := by omega
      have bA4 : Blk (w4.setCell ⟨bb, 3, none⟩ (.int .i64 0)) w.heap.size _ 50 := (k4.blk bA3 id).setOther _ _ hwb
      go_wp2_with (first | (refine wpList_load_blk rfl 24 _ rfl (w.heap.size) 0 20 rfl bA4 (idv c.a c.b) (by kernel_rfl) (by kernel_rfl) (by kernel_rfl) ?_; simp only [Act.put, List.setIfInBounds_toArray, List.set_cons_zero, List.set_cons_succ]))
      generalize hV : w4.setCell ⟨bb, 3, none⟩ (.int .i64 0) = V
      have kV : Kept (fun k => k = bb) w4 V := by rw [← hV]; exact Kept.set (p := ⟨bb, 3, none⟩) (Kept.refl (fun k => k = bb) _) (fun _ => rfl) _
      have bBV : Blk V bb (bks true (.slice sa L.length cap) wt) 81 := by
        have := bB4.set 3 (.int .i64 0)
        rw [bks_set3, hV] at this; exact this
      rw [hV] at bA4
      have bTV := kV.blk bT4 (Ne.symm hbt)
      have bRV := kV.blk (k4.blk bR3 id) (by omega)
      have ownV := kV.own (k4.own own3 (fun _ _ h => h)) (fun q hq hqt => own_ne own3 bB3 (by decide) (by rw [hq, hqt]))
      have kwV : Kept (fun k => k = tb ∨ k = bb) w V := ((kw3.out.trans (k4.mono (by simp))).mono (fun _ _ h => .inl h)).trans (kV.mono (fun _ _ h => .inr h))
      have gV : Gl V z4 z6 := g.kept kwV ⟨by omega, by omega, by omega, by omega, by omega⟩
      have hszV : w.heap.size + 2 ≤ V.heap.size := Nat.le_trans hsz3 (Nat.le_trans k4.size kV.size)
      have bCV := kwV.blk bC (fun h => h.elim (bC.ne bT (by decide)) (bC.ne bB (by decide)))
      clear hV bB4 bT4 c33 d3 e3 k4 kV bT3 bA3 bR3 kw3 bB3 own3 g3 hsz3
      replace kwV := hide kwV
      refine (find_any base bb L sa L.length cap c.a c.b V (by omega) ((bBV.cell 0).trans (bks_at0 ..)) ownV).mono ?_
      rintro e w5 ⟨r, rfl, hfound, k5⟩
      have bT5 := k5.blk bTV id
      have bB5 := k5.blk bBV id
      have bA5 := k5.blk bA4 id
      have bR5 := k5.blk bRV id
      have bC5 := k5.blk bCV id
      have own5 := k5.own ownV (fun _ _ h => h)
      have kw5 := hide (kwV.out.trans (k5.mono (by simp)))
      have g5 := gV.mono k5
      have hsz5 : w.heap.size + 2 ≤ w5.heap.size := Nat.le_trans hszV k5.size
      clear k5 bTV bBV bA4 bRV ownV kwV gV bCV hszV
      have cb0 : w5.cell? ⟨bb, 0, none⟩ = some (.slice sa L.length cap) := (bB5.cell 0).trans (bks_at0 ..)
      rcases hfound with ⟨j, x, rfl, hx, hhit, hmin⟩ | ⟨rfl, hnone⟩
      · have hjl : j < L.length := (List.getElem?_eq_some_iff.1 hx).1
        have hji : (j : Int) < L.length := by omega
        obtain ⟨gI, rfl⟩ := hsa (by omega)
        obtain ⟨cur, bG, hcsz, hncap, _, htk, hext⟩ := own_blk own5
        have hcut := hext j x hx
        have hxo := ok x (List.mem_of_getElem? hx)
        go_wp2_with (first | (refine wpList_load_blk rfl 90 _ rfl gI (j * 41) 41 rfl bG x.v hcut (by kernel_rfl) (by kernel_rfl) ?_; simp only [Act.put, List.setIfInBounds_toArray, List.set_cons_zero, List.set_cons_succ]) | (refine wpList_store_new rfl 90 _ _ rfl (x.v) rfl rfl (by kernel_rfl) (by kernel_rfl) (by kernel_rfl) ?_; simp only [Act.put]))
        generalize hY : w5.alloc (.cells x.v 90) = Y
        have kY : Kept (fun _ => False) w5 Y := by rw [← hY]; exact (Kept.refl _ _).alloc _
        have bX : Blk Y w5.heap.size (ent x.a x.b x.ip x.p) 90 := by rw [← hY]; exact Blk.new _ _ _
        have bAY := kY.blk bA5 id
        have gY := g5.mono kY
        have heq : ∀ w', (Op.equalIn 10000 47 (.agg (ap (some z4) x.ip x.p)) (.agg (ap (some z4) c.ip c.p))).run Ybaz.prog w' = .ok (x.ip == c.ip && x.p == c.p) w' := fun w' => eq47' 9996 ..
        have hwg : w5.heap.size ≠ gI := fun h => absurd bG.lt (by omega)
        clear hY hext
        obtain ⟨X, f, hne, hf, hto⟩ := cls (Kept (fun _ => False) Y) (World.drew Y) (Kept.refl _ _).drew
        have HC := hide (hto _ (Kept.refl _ Y).drew)
        have Hto := hide hto
        clear hto
        refine wp_region_seqD (fun w' => ∃ x, w' = f x) ok7 [(true, 0), (true, 3), (true, 4), (false, 1), (true, 2), (true, 5)] (by kernel_rfl) (by kernel_rfl) (by kernel_rfl) (fun c a k v w hk h => seen_put c a k v w hk h) ?_
        simp only [pickS, List.getElem?_cons_zero, List.getElem?_cons_succ]
        refine wpSeq_load_blk HC.out rfl 90 _ rfl (w5.heap.size) 0 41 rfl (fun w' hw' => by obtain ⟨x, rfl⟩ := hw'; exact (hf x).blk bX id) (ent x.a x.b x.ip x.p) (by kernel_rfl) (by kernel_rfl) (by kernel_rfl) ?_
        iterate 1
          refine wpSeq_quiet HC.out (fun K hK => ?_)
          go_simp
          refine hK _ ?_
          clear hK K
        refine wpSeq_load_blk HC.out rfl 47 _ rfl (w.heap.size) 20 4 rfl (fun w' hw' => by obtain ⟨x, rfl⟩ := hw'; exact (hf x).blk bAY id) (ap (some z4) c.ip c.p) (by kernel_rfl) (by kernel_rfl) (by kernel_rfl) ?_
        refine wpSeq_forced (fun K hK => ?_)
        go_simp
        refine (contact_any x.a x.b x.ip x.p hxo.2.2.1.1 hxo.2.2.1.2 hxo.2.2.2.1 hxo.2.2.2.2 _ (gY.mono (Kept.refl _ _).drew)).mono ?_
        rintro e w6 ⟨rfl, k6⟩
        refine hK _ _ (Hto.out _ k6.ofDrew) ?_
        clear hK K
        clear HC
        have HC := hide (Hto.out _ k6.ofDrew)
        refine wpSeq_value HC.out rfl (.agg (ap (some z4) x.ip x.p)) (fun w' _ => (exec_field _ rfl (con (some z4) x.a x.b x.ip x.p) rfl).trans (by rw [show (con (some z4) x.a x.b x.ip x.p).extract 20 (20 + 4) = ap (some z4) x.ip x.p from by kernel_rfl])) ?_
        refine wpSeq_eql HC.out rfl 47 _ _ _ rfl (ap (some z4) x.ip x.p) (ap (some z4) c.ip c.p) rfl rfl (by kernel_rfl) (x.ip == c.ip && x.p == c.p) (heq) ?_
        have k56 : Kept (fun _ => False) w5 w6 := kY.trans k6.ofDrew
        have bT6 := k56.blk bT5 id
        have bB6 := k56.blk bB5 id
        have bR6 := k56.blk bR5 id
        have bC6 := k56.blk bC5 id
        have bG6 := k56.blk bG id
        have own6 := k56.own own5 (fun _ _ h => h)
        have bX6 := k6.blk bX.drew id
        have kw6 := hide (kw5.out.trans (k56.mono (by simp)))
        have hsz6 : w.heap.size + 2 ≤ w6.heap.size := Nat.le_trans hsz5 k56.size
        have hX6 := bX6.lt
        have hgb : gI ≠ bb := fun h => by have := own_ne own6 bB6 (by decide); exact this (by rw [← h]; rfl)
        have hgt : gI ≠ tb := fun h => by have := own_ne own6 bT6 (by decide); exact this (by rw [← h]; rfl)
        have hgc : gI ≠ cb := fun h => by have := own_ne own6 bC6 (by decide); exact this (by rw [← h]; rfl)
        have hgr : gI ≠ w.heap.size + 1 := fun h => by have := own_ne own6 bR6 (by decide); exact this (by rw [← h]; rfl)
        clear bT5 bB5 bR5 bC5 bG own5 kw5 k6 kY bX bAY gY g5 heq bA5 cb0
        refine wpSeq_nil ?_
        clear  Hto HC hf hne f X
        clear k56
        cases hab : (x.ip == c.ip && x.p == c.p) with
        | false => exact absurd hab (by obtain ⟨h1, h2⟩ := hsame.out x (List.mem_of_getElem? hx) hhit; simp [h1, h2])
        | true =>
          have ca : w6.cell? ⟨w5.heap.size, 39, none⟩ = some (.int .u32 0) := (bX6.cell 39).trans (ent_at39 ..)
          go_wp2_with fail
          refine (secs_any _).mono ?_
          rintro e w7 ⟨rfl, k7⟩
          have bX7 := k7.blk bX6 id
          have c39 := (bX7.cell 39).trans (ent_at39 ..)
          have c38 := (bX7.cell 38).trans (ent_at38 ..)
          have f39 := bX7.frozen 39
          have f38 := bX7.frozen 38
          go_wp2_with fail
          generalize hZ : (w7.setCell ⟨w5.heap.size, 39, none⟩ (.int .u32 0)).setCell ⟨w5.heap.size, 38, none⟩ (.int .u8 0) = Z
          have kZ : Kept (fun k => k = w5.heap.size) w6 Z := by
            rw [← hZ]
            exact Kept.set (S := fun k => k = w5.heap.size) (p := ⟨w5.heap.size, 38, none⟩) (Kept.set (S := fun k => k = w5.heap.size) (p := ⟨w5.heap.size, 39, none⟩) (k7.mono (by simp)) (fun _ => rfl) _) (fun _ => rfl) _
          have bXZ : Blk Z w5.heap.size (ent x.a x.b x.ip x.p) 90 := by
            have := (bX7.set 39 (.int .u32 0)).set 38 (.int .u8 0)
            rw [ent_set39, ent_set38] at this
            rw [← hZ]; exact this
          have bTZ := kZ.blk bT6 (by omega)
          have bBZ := kZ.blk bB6 (by omega)
          have bRZ := kZ.blk bR6 (by omega)
          have bCZ := kZ.blk bC6 (by have := bC.lt; omega)
          have bGZ := kZ.blk bG6 (Ne.symm hwg)
          have ownZ := kZ.own own6 (fun q hq hh => by cases hq; exact hwg hh.symm)
          have kwZ : Hid (Kept (fun k => k = tb ∨ k = bb ∨ k = w5.heap.size) w Z) := hide ((kw6.out.mono (fun q _ h => h.elim .inl (fun h => .inr (.inl h)))).trans (kZ.mono (fun _ _ h => .inr (.inr h))))
          have hszZ : w.heap.size + 2 ≤ Z.heap.size := Nat.le_trans hsz6 kZ.size
          clear hZ bX6 bX7 c39 c38 f39 f38 k7 kZ bT6 bB6 bR6 bC6 bG6 own6 kw6 hsz6 ca
          have hji2 : (j : Int) ≤ L.length := by omega
          have hcj : ¬ cap = j := by omega
          have hwr : IntKind.i64.wrap ((j : Int) + 1) = ((j + 1 : Nat) : Int) := by
            simp [IntKind.wrap, IntKind.bits, IntKind.signed]; omega
          have hj3 : (j : Int) + 1 ≤ L.length := by omega
          have hj4 : 0 ≤ (j : Int) + 1 := by omega
          obtain ⟨A, hA, hA2⟩ : ∃ A : Addr, (if cap = j + 1 then some (⟨gI, 0, none⟩ : Addr) else some ⟨gI, (j + 1) * 41, none⟩) = some A ∧ (j + 1 < L.length → A = ⟨gI, (j + 1) * 41, none⟩) := by
            by_cases hce : cap = j + 1
            · exact ⟨_, if_pos hce, fun h => absurd h (by omega)⟩
            · exact ⟨_, if_neg hce, fun _ => rfl⟩
          have hdl : (flat (L.drop (j + 1))).length = (L.length - (j + 1)) * 41 := by rw [flat_length, List.length_drop]
          have hcs : L.length * 41 ≤ cur.size := by rw [hcsz]; exact Nat.mul_le_mul_right _ hncap
          have hcp : (Builtin.copy_ #[77, 77] 3 #[.slice (some ⟨gI, j * 41, none⟩) (L.length - j) (cap - j), .slice (some A) (L.length - (j + 1)) (cap - (j + 1))]).run Ybaz.prog Z.drew = .ok (goInt (Nat.min (L.length - (j + 1)) (L.length - j))) (Z.drew.setCells gI (j * 41) (flat (L.drop (j + 1)))) := by
            refine run_copy_big (P := Ybaz.prog) Z.drew 77 77 3 90 41 gI (j * 41) (L.length - j) (cap - j) A (L.length - (j + 1)) (cap - (j + 1)) (flat (L.drop (j + 1))) (by kernel_rfl) (by kernel_rfl) ?_ ?_ ?_ ?_ (flat_one _)
            · rw [hdl]; congr 1; show _ = min _ _; omega
            · intro i v hv
              have hil : i < (flat (L.drop (j + 1))).length := (List.getElem?_eq_some_iff.1 hv).1
              rw [hA2 (by omega), Addr.add_mid, bGZ.drew.cell, ← Array.getElem?_toList]
              have h1 : flat L = flat (L.take (j + 1)) ++ flat (L.drop (j + 1)) := by rw [← flat_append, List.take_append_drop]
              have h2 : (flat (L.take (j + 1))).length = (j + 1) * 41 := by rw [flat_length, List.length_take]; congr 1; omega
              have h3 : (flat L)[(j + 1) * 41 + i]? = some v := by rw [h1, List.getElem?_append_right (by omega), h2, Nat.add_sub_cancel_left]; exact hv
              rw [← htk, List.getElem?_take] at h3
              split at h3
              · exact h3
              · cases h3
            · intro i hi
              rw [bGZ.drew.cell, Array.getElem?_eq_getElem (by omega)]; rfl
            · intro i hi; exact bGZ.drew.frozen _
          obtain ⟨X, f, hne, hf, hto⟩ := cls (Kept (fun k => k = gI) Z) (World.drew Z) (Kept.refl _ _).drew
          have HC := hide (hto _ (Kept.refl _ Z).drew)
          have Hto := hide hto
          clear hto
          have lb0 : ∀ x, (f x).cell? ⟨bb, 0, none⟩ = some (.slice (some ⟨gI, 0, none⟩) L.length cap) := fun x => (((hf x).blk bBZ (Ne.symm hgb)).cell 0).trans (bks_at0 ..)
          refine wp_region_seqD (fun w' => ∃ x, w' = f x) ok7 [(true, 0), (true, 1), (true, 2), (true, 3), (true, 4), (true, 5), (true, 6), (true, 7), (true, 8), (true, 9), (true, 10), (true, 11), (true, 12), (false, 13)] (by kernel_rfl) (by kernel_rfl) (by kernel_rfl) (fun c a k v w hk h => seen_put c a k v w hk h) ?_
          simp only [pickS, List.getElem?_cons_zero, List.getElem?_cons_succ]
          iterate 13
            refine wpSeq_quiet HC.out (fun K hK => ?_)
            go_simp
            refine hK _ ?_
            clear hK K
          refine wpSeq_forced (fun K hK => ?_)
          go_simp
          have kc : Kept (fun k => k = gI) Z (Z.drew.setCells gI (j * 41) (flat (L.drop (j + 1)))) := Kept.setCells _ _ (Kept.refl _ _).drew (fun _ => rfl)
          refine hK _ _ (Hto.out _ kc) ?_
          clear hK K
          clear HC
          have HC := hide (Hto.out _ kc)
          refine wpSeq_nil ?_
          clear lb0 Hto HC hf hne f X
          generalize hU : Z.drew.setCells gI (j * 41) (flat (L.drop (j + 1))) = U
          rw [hU] at kc
          have hc1 : ∀ cu, Blk Z gI cu 90 → Blk U gI (lays cu (j * 41) (flat (L.drop (j + 1)))) 90 := fun cu h => by rw [← hU]; exact h.drew.setCells _ _
          have bTU := kc.blk bTZ (Ne.symm hgt)
          have bBU := kc.blk bBZ (Ne.symm hgb)
          have bRU := kc.blk bRZ (Ne.symm hgr)
          have bCU := kc.blk bCZ (Ne.symm hgc)
          have bXU := kc.blk bXZ hwg
          have bGU := hc1 _ bGZ
          have kwU : Hid (Kept (fun k => k = tb ∨ k = bb ∨ (Value.slice (some ⟨gI, 0, none⟩) L.length cap).ownBlock = some k) w U) := hide ((kwZ.out.mono (fun q hq h => by
            rcases h with h | h | h
            · exact .inl h
            · exact .inr (.inl h)
            · omega)).trans (kc.mono (fun q _ h => .inr (.inr (by rw [h]; rfl)))))
          have hszU : w.heap.size + 2 ≤ U.heap.size := Nat.le_trans hszZ kc.size
          clear hU kc hcp bTZ bBZ bRZ bCZ bXZ kwZ hszZ hA hA2
          have hwr2 : IntKind.i64.wrap ((L.length : Int) - 1) = ((L.length - 1 : Nat) : Int) := by
            simp [IntKind.wrap, IntKind.bits, IntKind.signed]; omega
          have hl1 : ((L.length - 1 : Nat) : Int) < L.length := by omega
          go_wp2_with fail
          obtain ⟨X, f, hne, hf, hto⟩ := cls (Kept (fun k => k = gI) U) (World.drew U) (Kept.refl _ _).drew
          have HC := hide (hto _ (Kept.refl _ U).drew)
          have Hto := hide hto
          clear hto
          have lb0 : ∀ x, (f x).cell? ⟨bb, 0, none⟩ = some (.slice (some ⟨gI, 0, none⟩) L.length cap) := fun x => (((hf x).blk bBU (Ne.symm hgb)).cell 0).trans (bks_at0 ..)
          refine wp_region_seqD (fun w' => ∃ x, w' = f x) ok7 [(true, 0), (true, 1), (true, 2), (true, 3), (true, 4), (true, 5), (true, 6), (true, 7), (true, 8), (true, 9), (true, 10), (true, 11), (false, 12)] (by kernel_rfl) (by kernel_rfl) (by kernel_rfl) (fun c a k v w hk h => seen_put c a k v w hk h) ?_
          simp only [pickS, List.getElem?_cons_zero, List.getElem?_cons_succ]
          iterate 10
            refine wpSeq_quiet HC.out (fun K hK => ?_)
            go_simp
            refine hK _ ?_
            clear hK K
          refine wpSeq_load_blk HC.out rfl 90 _ rfl (w5.heap.size) 0 41 rfl (fun w' hw' => by obtain ⟨x, rfl⟩ := hw'; exact (hf x).blk bXU hwg) (x.v) (by kernel_rfl) (by kernel_rfl) (by kernel_rfl) ?_
          iterate 1
            refine wpSeq_quiet HC.out (fun K hK => ?_)
            go_simp
            refine hK _ ?_
            clear hK K
          have hlay : (lays cur (j * 41) (flat (L.drop (j + 1)))).size = cap * 41 := by rw [lays_size, hcsz]
          have kc2 : Kept (fun k => k = gI) U (U.drew.setCells gI ((L.length - 1) * 41) x.v.toList) := Kept.setCells _ _ (Kept.refl _ _).drew (fun _ => rfl)
          refine wpSeq_store_blk rfl 90 _ _ rfl gI ((L.length - 1) * 41) x.v rfl rfl bGU.drew (by rw [decide_eq_true_eq, hlay, E.v, ent_size]; omega) (by kernel_rfl) (by kernel_rfl) (Hto.out _ kc2) ?_
          refine wpSeq_nil ?_
          clear lb0 Hto HC hf hne f X
          generalize hT : U.drew.setCells gI ((L.length - 1) * 41) x.v.toList = T
          rw [hT] at kc2
          have hc2 : ∀ cu, Blk U gI cu 90 → Blk T gI (lays cu ((L.length - 1) * 41) x.v.toList) 90 := fun cu h => by rw [← hT]; exact h.drew.setCells _ _
          have ownT := own_moved ownZ hx hc1 hc2
          have bTT := kc2.blk bTU (Ne.symm hgt)
          have bBT := kc2.blk bBU (Ne.symm hgb)
          have bRT := kc2.blk bRU (Ne.symm hgr)
          have bCT := kc2.blk bCU (Ne.symm hgc)
          have kwT : Hid (Kept (fun k => k = tb ∨ k = bb ∨ (Value.slice (some ⟨gI, 0, none⟩) L.length cap).ownBlock = some k) w T) := hide (kwU.out.trans (kc2.mono (fun q _ h => .inr (.inr (by rw [h]; rfl)))))
          clear hT kc2 hc1 hc2 bGU bTU bBU bRU bCU bXU kwU bGZ ownZ
          go_wp2_with (first | (refine wpList_built rfl 50 _ rfl (C0) (by kernel_rfl) ?_; simp only [Act.put, List.setIfInBounds_toArray, List.set_cons_zero, List.set_cons_succ]) | (refine wpList_store_blk rfl 50 _ _ rfl (w.heap.size + 1) 0 (C0) rfl rfl bRT (by kernel_rfl) (by kernel_rfl) (by kernel_rfl) ?_; simp only [Act.put]))
          have kz : Kept (fun k => k = w.heap.size + 1) T (T.setCells (w.heap.size + 1) 0 C0.toList) := Kept.setCells _ _ (Kept.refl _ _) (fun _ => rfl)
          refine leaves_cons (f := 12) (args := #[.pointer (some ⟨tb, 31, none⟩)]) (by simp) (by simp [go_sem]) ?_
          refine (unlock_tab tb _ _ _ _ _ _ _ _ .returning _ (kz.blk bTT (by omega))).mono ?_
          rintro e u' w9 ⟨rfl, rfl, bT9, k9⟩
          have hp := perm1 hx hL.out
          refine ⟨_, res7 _ (w.heap.size + 1) C0 50 (.bool false) (.bool false) _ (k9.blk (bRT.setAll _ rfl) (by omega)) (by kernel_rfl) rfl rfl rfl, rfl, ⟨.slice (some ⟨gI, 0, none⟩) L.length cap, ?_⟩, ?_⟩
          · refine ⟨bT9, k9.blk (kz.blk bBT (by omega)) hbt, k9.blk (kz.blk bCT (by have := bC.lt; omega)) (bC.ne bT (by decide)), ?_, sk, ok, ge⟩
            rw [hp] at ownT
            exact k9.own (kz.own ownT (fun q hq hh => by cases hq; exact hgr hh)) (fun q hq hh => by cases hq; exact hgt hh)
          · refine (kwT.out.trans' kz ?_).trans' k9 ?_
            · intro q hq h; exact absurd h (by omega)
            · intro q _ h; exact .inl h
      · obtain ⟨e, he, hh⟩ := hin.out
        exact absurd (hnone e he) (by rw [hh]; decide)
end Go.Proofs.YbulkdbdsGreatDoor
