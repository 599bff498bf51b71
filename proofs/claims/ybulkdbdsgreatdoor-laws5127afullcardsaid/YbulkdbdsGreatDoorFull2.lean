import Derived.Test.YbulkdbdsGreatDoorGs
namespace Go.Proofs.YbulkdbdsGreatDoor
open Go.RowKit Go.HeadTail Go.Conc.Locks Go.MuLone
attribute [local go_sem] yields yUpon

set_option maxRecDepth 100000 in
set_option maxHeartbeats 6400000 in
theorem seen_second (base tb bb cb bc : Nat) (m sf : Int) (x : E) (sv : Value) (s : Nat → Int) (c : E) (wt : Option Addr) (hc : c.ok) (hsf : 0 ≤ sf ∧ sf < 256) (hcx : 128 ≤ sf.toNat ^^^ c.a.toNat) (hs0 : c.hit sf 0 = false) (hno : x.hit c.a c.b = false) (hip : (x.ip == c.ip) = false) (hxor : 128 ≤ sf.toNat ^^^ x.a.toNat) (hm0 : 0 ≤ m) (hwt : wt = none) {z4 z6 : Addr} (w : World) (g : Gl w z4 z6)
    (hz : 3 < base ∧ z4.block < base ∧ z6.block < base ∧ base ≤ w.heap.size) (st : Gs base tb bb cb bc false wt m sf [x] sv s w) :
    Calls Ybaz.prog 7 #[.pointer (some ⟨tb, 0, none⟩), .agg (con (some z4) c.a c.b c.ip c.p)] w fun e w' => ∃ nb sv' s' wt', (0 < m ∧ e = .returned (.tuple #[.agg C0, .bool false, .bool false]) ∧ wt' = none ∨ ¬ 0 < m ∧ e = .returned (.tuple #[.agg (con (some z4) x.a x.b x.ip x.p), .bool true, .bool false]) ∧ Option.isSome wt' = true) ∧ Gs base tb nb cb 2 true wt' m sf [x] sv' s' w' ∧ Kept (fun k => k = tb ∨ k = bb ∨ sv.ownBlock = some k) w w' := by
  subst hwt
  obtain ⟨bT, bB, bC, own, sk, ok, ge⟩ := st
  replace bT : Blk w tb (tabv sf 0 1 (clk cb) m m 0 (.slice (some ⟨bb, 0, none⟩) 1 bc) s) 74 := bT
  obtain ⟨sa, cap, rfl, hsa⟩ := own_form own
  obtain ⟨gI, rfl⟩ := hsa (by simp)
  clear hsa
  replace own : w.ownsRow base 90 41 (.slice (some ⟨gI, 0, none⟩) 1 cap) 1 (flat [x]) := own
  replace bB : Blk w bb (bks false (.slice (some ⟨gI, 0, none⟩) 1 cap) none) 81 := bB
  have hSb : Hid (∀ q, (q = tb ∨ q = bb ∨ (Value.slice (some ⟨gI, 0, none⟩) 1 cap).ownBlock = some q) → base ≤ q) := hide (by
    rintro q (h | h | h)
    · omega
    · omega
    · exact (own_ty own h).1)
  go_enter_defers Ybaz.func7, Ybaz.ntmps7
  go_wp2_with fail
  refine gen_code C0 (by kernel_rfl) (fun W kW0 bR hsz => ?_)
  have kW : Hid (Kept (fun _ => False) w W) := hide (((Kept.refl _ _).alloc _).trans kW0)
  have bA : Blk W w.heap.size (con (some z4) c.a c.b c.ip c.p) 50 := kW0.blk (Blk.new _ _ _) id
  replace hsz := hide (hsz.trans (by simp) : W.heap.size = w.heap.size + 2)
  replace bR : Blk W (w.heap.size + 1) C0 50 := by simpa using bR
  have bTW := kW.out.blk bT id
  have heq : ∀ w', (Op.equalIn 10000 24 (.agg (idv c.a c.b)) (.agg (idv sf 0))).run Ybaz.prog w' = .ok (c.hit sf 0) w' := fun w' => eq24 9998 ..
  clear kW0
  obtain ⟨X, f, hne, hf, hto⟩ := cls (fun w' => w' = World.drew W) (World.drew W) rfl
  have HC := hide (hto _ rfl)
  clear hto
  have hfc : ∀ x (a : Addr), (f x).cell? a = World.cell? W a := fun x a => by rw [hf x]; rfl
  clear hfc
  have bAf : ∀ x, Blk (f x) w.heap.size (con (some z4) c.a c.b c.ip c.p) 50 := fun x => by rw [hf x]; exact bA.drew
  have bTf : ∀ x, Blk (f x) tb (tabv sf 0 1 (clk cb) m m 0 (.slice (some ⟨bb, 0, none⟩) 1 bc) s) 74 := fun x => by rw [hf x]; exact bTW.drew
  refine wp_region_seqD (fun w' => ∃ x, w' = f x) ok7 [(true, 0), (true, 1), (true, 2), (true, 3), (true, 4), (true, 5), (true, 6)] (by kernel_rfl) (by kernel_rfl) (by kernel_rfl) (fun c a k v w hk h => seen_put c a k v w hk h) ?_
  simp only [pickS, List.getElem?_cons_zero, List.getElem?_cons_succ]
  iterate 1
    refine wpSeq_quiet HC.out (fun K hK => ?_)
    go_simp
    refine hK _ ?_
    clear hK K
  refine wpSeq_load_blk HC.out rfl 24 _ rfl (w.heap.size) 0 20 rfl (fun w' hw' => by obtain ⟨x, rfl⟩ := hw'; exact bAf x) (idv c.a c.b) (by kernel_rfl) (by kernel_rfl) (by kernel_rfl) ?_
  iterate 3
    refine wpSeq_quiet HC.out (fun K hK => ?_)
    go_simp
    refine hK _ ?_
    clear hK K
  refine wpSeq_load_blk HC.out rfl 24 _ rfl (tb) 0 20 rfl (fun w' hw' => by obtain ⟨x, rfl⟩ := hw'; exact bTf x) (idv sf 0) (by kernel_rfl) (by kernel_rfl) (by kernel_rfl) ?_
  refine wpSeq_eql HC.out rfl 24 _ _ _ rfl (idv c.a c.b) (idv sf 0) rfl rfl (by kernel_rfl) (c.hit sf 0) (heq) ?_
  refine wpSeq_nil ?_
  clear bAf bTf HC hf hne f X heq
  cases hself : c.hit sf 0 with
  | true => exact absurd (hs0.symm.trans hself) (by decide)
  | false =>
    have bTd := bTW.drew
    go_wp2_with fail
    refine (lock_tab tb _ _ _ _ _ _ _ _ _ bTd).mono ?_
    rintro e w1 ⟨rfl, bT1, k1⟩
    have htw : tb < w.heap.size := bT.lt
    have hbw : bb < w.heap.size := bB.lt
    have hbt : bb ≠ tb := bB.ne bT (by decide)
    have kw1 : Kept (fun k => k = tb) w w1 := (kW.out.mono (by simp)).trans k1.ofDrew
    have bA1 : Blk w1 w.heap.size _ 50 := k1.blk bA.drew (by omega)
    have bR1 : Blk w1 (w.heap.size + 1) _ 50 := k1.blk bR.drew (by omega)
    have c22 := (bT1.cell 22).trans (tab_clock ..)
    have kw1 := hide kw1
    have hsz1 : w.heap.size + 2 ≤ w1.heap.size := by have := hsz.out; have := k1.size; simp at this; omega
    clear bA bR bTW bTd k1 kW hsz
    go_wp2_with fail
    rw [method_now]
    rotate_left
    · kernel_rfl
    go_wp2_with fail
    refine (now_any cb _ (kw1.out.blk bC (bC.ne bT (by decide)))).mono ?_
    rintro e w2 ⟨rfl, k2⟩
    go_wp2_with fail
    refine (span_any tb _ _ _ _ _ _ _ _ _ _ (k2.blk bT1 id)).mono ?_
    rintro e w3 ⟨rfl, k3⟩
    have k23 := k2.trans k3
    have bT3 := k23.blk bT1 id
    have bA3 := k23.blk bA1 id
    have bR3 := k23.blk bR1 id
    have kw3 := hide (kw1.out.trans (k23.mono (by simp)))
    have hsz3 : w.heap.size + 2 ≤ w3.heap.size := Nat.le_trans hsz1 k23.size
    clear k2 k3 k23 bT1 bA1 bR1 c22 kw1 hsz1
    go_wp2_with fail
    have hkt : ∀ {b : Nat} {cs : Array Value} {t : TypeId}, Blk w b cs t → t ≠ 74 → Blk w3 b cs t := fun hb ht => kw3.out.blk hb (hb.ne bT ht)
    have bB3 := hkt bB (by decide)
    have own3 := kw3.out.own own (fun q hq hqt => own_ne own bT (by decide) (by rw [hq, hqt]))
    have g3 : Gl w3 z4 z6 := g.kept kw3.out ⟨by omega, by omega, by omega, by omega, by omega⟩
    clear hkt
    have hxo : x.ok := ok x (by simp)
    have hany : ([x].any fun y => y.ip == c.ip) = false := by simp only [List.any_cons, List.any_nil, hip, Bool.or_false]
    replace hip := hide hip
    go_loopw [12] (fun v wr => (v = undef ∧ wr = w3) ∨ (v = .bool false ∧ ∃ nb gN cN s', Blk wr tb (tabv sf 0 1 (clk cb) m m 1 (.slice (some ⟨nb, 0, none⟩) 2 2) s') 74 ∧ Blk wr nb (bks true (.slice (some ⟨gN, 0, none⟩) 1 cN) none) 81 ∧ wr.ownsRow base 90 41 (.slice (some ⟨gN, 0, none⟩) 1 cN) 1 (flat [x]) ∧ SkOk s' [x] ∧ w.heap.size ≤ nb ∧ Kept (fun k => k = tb ∨ k = bb ∨ (Value.slice (some ⟨gI, 0, none⟩) 1 cap).ownBlock = some k) w wr ∧ Blk wr w.heap.size (con (some z4) c.a c.b c.ip c.p) 50 ∧ Blk wr (w.heap.size + 1) C0 50 ∧ w.heap.size + 2 ≤ wr.heap.size)) (fun v _ => match v with | .bool _ => 0 | _ => 1)
    case atStart => exact .inl ⟨rfl, rfl⟩
    case round =>
     rcases hrel with ⟨rfl, rfl⟩ | ⟨rfl, nb, gN, cN, s', bT3', bB3', own3', sk', hnb, kw3', bA3', bR3', hsz3'⟩
     ·
      go_wp2_with (first | (refine wpList_load_blk rfl 24 _ rfl (w.heap.size) 0 20 rfl bA3 (idv c.a c.b) (by kernel_rfl) (by kernel_rfl) (by kernel_rfl) ?_; simp only [Act.put, List.setIfInBounds_toArray, List.set_cons_zero, List.set_cons_succ]))
      refine (index_any tb sf 0 1 _ _ _ _ _ 1 _ _ c.a c.b hsf.1 hsf.2 (by omega) (by omega) hc.1.1 hc.1.2 hc.2.1.1 hc.2.1.2 (by omega) (by omega) _ bT3 (.inr hcx)).mono ?_
      rintro e w4 ⟨rfl, k4⟩
      have bT4 := k4.blk bT3 id
      have bB4 := k4.blk bB3 id
      have c33 := (bT4.cell 33).trans (tab_bs ..)
      have d3 : w4.cell? ⟨bb, 3, none⟩ = some (.int .i64 0) := (bB4.cell 3).trans (bks_at3 ..)
      have e3 := bB4.frozen 3
      have hwb : w.heap.size ≠ bb := by omega
      have bA4 : Blk (w4.setCell ⟨bb, 3, none⟩ (.int .i64 0)) w.heap.size _ 50 := (k4.blk bA3 id).setOther _ _ hwb
      go_wp2_with (first | (refine wpList_load_blk rfl 24 _ rfl (w.heap.size) 0 20 rfl bA4 (idv c.a c.b) (by kernel_rfl) (by kernel_rfl) (by kernel_rfl) ?_; simp only [Act.put, List.setIfInBounds_toArray, List.set_cons_zero, List.set_cons_succ]))
      generalize hV : w4.setCell ⟨bb, 3, none⟩ (.int .i64 0) = V
      have kV : Kept (fun k => k = bb) w4 V := by rw [← hV]; exact Kept.set (p := ⟨bb, 3, none⟩) (Kept.refl (fun k => k = bb) _) (fun _ => rfl) _
      have bBV : Blk V bb (bks false (.slice (some ⟨gI, 0, none⟩) 1 cap) none) 81 := by
        have := bB4.set 3 (.int .i64 0)
        rw [bks_set3, hV] at this; exact this
      rw [hV] at bA4
      have bTV := kV.blk bT4 (Ne.symm hbt)
      have bRV := kV.blk (k4.blk bR3 id) (by omega)
      have ownV := kV.own (k4.own own3 (fun _ _ h => h)) (fun q hq hqt => own_ne own3 bB3 (by decide) (by rw [hq, hqt]))
      have kwV : Kept (fun k => k = tb ∨ k = bb) w V := ((kw3.out.trans (k4.mono (by simp))).mono (fun _ _ h => .inl h)).trans (kV.mono (fun _ _ h => .inr h))
      have gV : Gl V z4 z6 := g.kept kwV ⟨by omega, by omega, by omega, by omega, by omega⟩
      have hszV : w.heap.size + 2 ≤ V.heap.size := Nat.le_trans hsz3 (Nat.le_trans k4.size kV.size)
      have bCV := kwV.blk bC (fun h => h.elim (bC.ne bT (by decide)) (bC.ne bB (by decide)))
      clear hV bB4 bT4 c33 d3 e3 k4 kV bT3 bA3 bR3 kw3 bB3 own3 g3 hsz3
      replace kwV := hide kwV
      refine (find_any base bb [x] (some ⟨gI, 0, none⟩) 1 cap c.a c.b V (by omega) ((bBV.cell 0).trans (bks_at0 ..)) ownV).mono ?_
      rintro e w5 ⟨r, rfl, hfound, k5⟩
      have bT5 := k5.blk bTV id
      have bB5 := k5.blk bBV id
      have bA5 := k5.blk bA4 id
      have bR5 := k5.blk bRV id
      have bC5 := k5.blk bCV id
      have own5 := k5.own ownV (fun _ _ h => h)
      have kw5 := hide (kwV.out.trans (k5.mono (by simp)))
      have g5 := gV.mono k5
      have hsz5 : w.heap.size + 2 ≤ w5.heap.size := Nat.le_trans hszV k5.size
      clear k5 bTV bBV bA4 bRV ownV kwV gV bCV hszV
      have cb0 : w5.cell? ⟨bb, 0, none⟩ = some (.slice (some ⟨gI, 0, none⟩) 1 cap) := (bB5.cell 0).trans (bks_at0 ..)
      rcases hfound with ⟨j, y, rfl, hx, hhit, hmin⟩ | ⟨rfl, hnone⟩
      · cases j with
        | zero => cases hx; exact absurd (hno.symm.trans hhit) (by decide)
        | succ j => cases hx
      · have hw1 : IntKind.i64.wrap 1 = 1 := by decide
        have hw0 : IntKind.i64.wrap 0 = 0 := by decide
        have ck := (bT5.cell 20).trans (tab_k ..)
        have c33 := (bT5.cell 33).trans (tab_bs ..)
        go_wp2_with fail
        obtain ⟨X, f, hne, hf, hto⟩ := cls (fun w' => w' = World.drew w5) (World.drew w5) rfl
        have HC := hide (hto _ rfl)
        clear hto
        have hfc : ∀ x (a : Addr), (f x).cell? a = World.cell? w5 a := fun x a => by rw [hf x]; rfl
        have lb0 : ∀ x, (f x).cell? ⟨bb, 0, none⟩ = some (.slice (some ⟨gI, 0, none⟩) 1 cap) := fun x => (hfc x _).trans cb0
        have lk : ∀ x, (f x).cell? ⟨tb, 20, none⟩ = some (.int .i64 1) := fun x => (hfc x _).trans ck
        have l33 : ∀ x, (f x).cell? ⟨tb, 33, none⟩ = some (.slice (some ⟨bb, 0, none⟩) 1 bc) := fun x => (hfc x _).trans c33
        clear hfc
        refine wp_region_seqD (fun w' => ∃ x, w' = f x) ok7 [(true, 0), (true, 1), (true, 2), (true, 3), (true, 4), (true, 5), (true, 6), (true, 7), (true, 8), (true, 9), (true, 10), (true, 11), (true, 12), (true, 13), (true, 14), (true, 15), (true, 16), (true, 17), (true, 18), (true, 19), (true, 20), (true, 21), (true, 22), (true, 23), (true, 24), (true, 25), (true, 26), (true, 27), (true, 28)] (by kernel_rfl) (by kernel_rfl) (by kernel_rfl) (fun c a k v w hk h => seen_put c a k v w hk h) ?_
        simp only [pickS, List.getElem?_cons_zero, List.getElem?_cons_succ]
        iterate 29
          refine wpSeq_quiet HC.out (fun K hK => ?_)
          go_simp
          refine hK _ ?_
          clear hK K
        refine wpSeq_nil ?_
        clear lb0 lk l33 HC hf hne f X ck c33 hw1 hw0
        have bAd := bA5.drew
        go_wp2_with (first | (refine wpList_load_blkG (by kernel_rfl) 47 _ rfl (w.heap.size) 20 4 rfl bAd (ap (some z4) c.ip c.p) (by kernel_rfl) (by kernel_rfl) (by kernel_rfl) ?_; simp only [Act.put, List.setIfInBounds_toArray, List.set_cons_zero, List.set_cons_succ]))
        refine (holds_any base tb bb [x] false (some ⟨gI, 0, none⟩) 1 cap bc none sf 0 1 _ _ _ _ s c.ip c.p hc.2.2.1.1 hc.2.2.1.2 _ (g5.mono (Kept.refl _ _).drew) (by omega) ok sk bT5.drew bB5.drew (own_drew own5)).mono ?_
        rintro e w6 ⟨rfl, ⟨s', sk', bT6⟩, k6⟩
        rw [hany]
        have k56 : Kept (fun k => k = tb) w5 w6 := k6.ofDrew
        have bB6 := k56.blk bB5 hbt
        have bA6 := k56.blk bA5 (by omega)
        have bR6 := k56.blk bR5 (by omega)
        have own6 := k56.own own5 (fun q hq hqt => own_ne own5 bT5 (by decide) (by rw [hq, hqt]))
        have kw6 : Hid (Kept (fun k => k = tb ∨ k = bb) w w6) := hide (kw5.out.trans (k56.mono (fun _ _ h => .inl h)))
        have hsz6 : w.heap.size + 2 ≤ w6.heap.size := Nat.le_trans hsz5 k56.size
        clear k6 k56 bT5 bB5 bA5 bR5 bC5 own5 kw5 g5 hsz5 bAd cb0
        have cb0 : w6.cell? ⟨bb, 0, none⟩ = some (.slice (some ⟨gI, 0, none⟩) 1 cap) := (bB6.cell 0).trans (bks_at0 ..)
        have ck := (bT6.cell 20).trans (tab_k ..)
        go_wp2_with fail
        obtain ⟨X, f, hne, hf, hto⟩ := cls (fun w' => w' = World.drew w6) (World.drew w6) rfl
        have HC := hide (hto _ rfl)
        clear hto
        have hfc : ∀ x (a : Addr), (f x).cell? a = World.cell? w6 a := fun x a => by rw [hf x]; rfl
        have lb0 : ∀ x, (f x).cell? ⟨bb, 0, none⟩ = some (.slice (some ⟨gI, 0, none⟩) 1 cap) := fun x => (hfc x _).trans cb0
        have lk : ∀ x, (f x).cell? ⟨tb, 20, none⟩ = some (.int .i64 1) := fun x => (hfc x _).trans ck
        clear hfc
        refine wp_region_seqD (fun w' => ∃ x, w' = f x) ok7 [(true, 0), (true, 1), (true, 2), (true, 3), (true, 4), (true, 5), (true, 6), (true, 7), (true, 8), (true, 9), (true, 10)] (by kernel_rfl) (by kernel_rfl) (by kernel_rfl) (fun c a k v w hk h => seen_put c a k v w hk h) ?_
        simp only [pickS, List.getElem?_cons_zero, List.getElem?_cons_succ]
        iterate 11
          refine wpSeq_quiet HC.out (fun K hK => ?_)
          go_simp
          refine hK _ ?_
          clear hK K
        refine wpSeq_nil ?_
        clear lb0 lk HC hf hne f X cb0 ck
        go_wp2_with fail
        have hbs : base ≤ w6.drew.heap.size := by show base ≤ w6.heap.size; omega
        refine (split_one base tb bb x gI cap bc sf 0 1 (clk cb) m m 1 s' ⟨hsf, by omega⟩ hxo hxor w6.drew bT6.drew bB6.drew (own_drew own6) hbs).mono ?_
        rintro e w8 ⟨rfl, nb, gN, cN, bT8, bB8, own8, hnb8, k8⟩
        have hgA : gI ≠ w.heap.size := fun h => own_ne own6 bA6 (by decide) (by rw [← h]; rfl)
        have hgR : gI ≠ w.heap.size + 1 := fun h => own_ne own6 bR6 (by decide) (by rw [← h]; rfl)
        have k68 : Kept (fun q => q = tb ∨ q = bb ∨ q = gI) w6 w8 := k8.ofDrew
        have bA8 := k68.blk bA6 (by omega)
        have bR8 := k68.blk bR6 (by omega)
        have hnb9 : w.heap.size ≤ nb := by have h : w6.heap.size ≤ nb := hnb8; omega
        have kw8 : Hid (Kept (fun k => k = tb ∨ k = bb ∨ (Value.slice (some ⟨gI, 0, none⟩) 1 cap).ownBlock = some k) w w8) := hide ((kw6.out.mono (fun q _ h => h.elim .inl (fun h => .inr (.inl h)))).trans (k68.mono (fun q _ h => h.elim .inl (fun h => h.elim (fun h => .inr (.inl h)) (fun h => .inr (.inr (by rw [h]; rfl)))))))
        have hsz8 : w.heap.size + 2 ≤ w8.heap.size := Nat.le_trans hsz6 k68.size
        clear k8 k68 bA6 bR6 bB6 bT6 own6 kw6 hsz6 hbs
        go_wp2
        go_roundw
        case rel => exact .inr ⟨rfl, nb, gN, cN, s', bT8, bB8, own8, sk', hnb9, kw8.out, bA8, bR8, hsz8⟩
        case measure => exact (by decide : (0 : Nat) < 1)
     ·
      clear bT3 bA3 bR3 kw3 bB3 own3 g3 hsz3
      have hwb : w.heap.size ≠ nb := bA3'.ne bB3' (by decide)
      have hrb : w.heap.size + 1 ≠ nb := bR3'.ne bB3' (by decide)
      have hnt : nb ≠ tb := bB3'.ne bT3' (by decide)
      replace kw3' := hide kw3'
      go_wp2_with (first | (refine wpList_load_blk rfl 24 _ rfl (w.heap.size) 0 20 rfl bA3' (idv c.a c.b) (by kernel_rfl) (by kernel_rfl) (by kernel_rfl) ?_; simp only [Act.put, List.setIfInBounds_toArray, List.set_cons_zero, List.set_cons_succ]))
      refine (index_any tb sf 0 1 _ _ _ _ _ 2 _ _ c.a c.b hsf.1 hsf.2 (by omega) (by omega) hc.1.1 hc.1.2 hc.2.1.1 hc.2.1.2 (by omega) (by omega) _ bT3' (.inr hcx)).mono ?_
      rintro e w4 ⟨rfl, k4⟩
      have bT4 := k4.blk bT3' id
      have bB4 := k4.blk bB3' id
      have c33 := (bT4.cell 33).trans (tab_bs ..)
      have d3 : w4.cell? ⟨nb, 3, none⟩ = some (.int .i64 0) := (bB4.cell 3).trans (bks_at3 ..)
      have e3 := bB4.frozen 3
      have bA4 : Blk (w4.setCell ⟨nb, 3, none⟩ (.int .i64 0)) w.heap.size _ 50 := (k4.blk bA3' id).setOther _ _ hwb
      go_wp2_with (first | (refine wpList_load_blk rfl 24 _ rfl (w.heap.size) 0 20 rfl bA4 (idv c.a c.b) (by kernel_rfl) (by kernel_rfl) (by kernel_rfl) ?_; simp only [Act.put, List.setIfInBounds_toArray, List.set_cons_zero, List.set_cons_succ]))
      generalize hV : w4.setCell ⟨nb, 3, none⟩ (.int .i64 0) = V
      have kV : Kept (fun k => k = nb) w4 V := by rw [← hV]; exact Kept.set (p := ⟨nb, 3, none⟩) (Kept.refl (fun k => k = nb) _) (fun _ => rfl) _
      have bBV : Blk V nb (bks true (.slice (some ⟨gN, 0, none⟩) 1 cN) none) 81 := by
        have := bB4.set 3 (.int .i64 0)
        rw [bks_set3, hV] at this; exact this
      rw [hV] at bA4
      have bTV := kV.blk bT4 (Ne.symm hnt)
      have bRV := kV.blk (k4.blk bR3' id) hrb
      have ownV := kV.own (k4.own own3' (fun _ _ h => h)) (fun q hq hqt => own_ne own3' bB3' (by decide) (by rw [hq, hqt]))
      have kwV : Kept (fun k => k = tb ∨ k = bb ∨ (Value.slice (some ⟨gI, 0, none⟩) 1 cap).ownBlock = some k) w V := (kw3'.out.trans (k4.mono (by simp))).trans' kV (fun q hq h => absurd h (by omega))
      have gV : Gl V z4 z6 := g.kept (kwV.mono (T := fun k => base ≤ k) (fun q _ h => hSb.out q h)) ⟨by omega, by omega, by omega, by omega, by omega⟩
      have hszV : w.heap.size + 2 ≤ V.heap.size := Nat.le_trans hsz3' (Nat.le_trans k4.size kV.size)
      have bCV := kwV.blk bC (fun h => h.elim (bC.ne bT (by decide)) (fun h => h.elim (bC.ne bB (by decide)) (own_ne own bC (by decide))))
      clear hV bB4 bT4 c33 d3 e3 k4 kV bT3' bA3' bR3' kw3' bB3' own3' hsz3'
      replace kwV := hide kwV
      refine (find_any base nb [x] (some ⟨gN, 0, none⟩) 1 cN c.a c.b V (by omega) ((bBV.cell 0).trans (bks_at0 ..)) ownV).mono ?_
      rintro e w5 ⟨r, rfl, hfound, k5⟩
      have bT5 := k5.blk bTV id
      have bB5 := k5.blk bBV id
      have bA5 := k5.blk bA4 id
      have bR5 := k5.blk bRV id
      have bC5 := k5.blk bCV id
      have own5 := k5.own ownV (fun _ _ h => h)
      have kw5 := hide (kwV.out.trans (k5.mono (by simp)))
      have g5 := gV.mono k5
      have hsz5 : w.heap.size + 2 ≤ w5.heap.size := Nat.le_trans hszV k5.size
      clear k5 bTV bBV bA4 bRV ownV kwV gV bCV hszV
      have cb0 : w5.cell? ⟨nb, 0, none⟩ = some (.slice (some ⟨gN, 0, none⟩) 1 cN) := (bB5.cell 0).trans (bks_at0 ..)
      rcases hfound with ⟨j, y, rfl, hx, hhit, hmin⟩ | ⟨rfl, hnone⟩
      · cases j with
        | zero => cases hx; exact absurd (hno.symm.trans hhit) (by decide)
        | succ j => cases hx
      · have hw1 : IntKind.i64.wrap 1 = 1 := by decide
        have hw0 : IntKind.i64.wrap 0 = 0 := by decide
        have ck := (bT5.cell 20).trans (tab_k ..)
        have c33 := (bT5.cell 33).trans (tab_bs ..)
        go_wp2_with fail
        obtain ⟨X, f, hne, hf, hto⟩ := cls (fun w' => w' = World.drew w5) (World.drew w5) rfl
        have HC := hide (hto _ rfl)
        clear hto
        have hfc : ∀ x (a : Addr), (f x).cell? a = World.cell? w5 a := fun x a => by rw [hf x]; rfl
        have lb0 : ∀ x, (f x).cell? ⟨nb, 0, none⟩ = some (.slice (some ⟨gN, 0, none⟩) 1 cN) := fun x => (hfc x _).trans cb0
        have lk : ∀ x, (f x).cell? ⟨tb, 20, none⟩ = some (.int .i64 1) := fun x => (hfc x _).trans ck
        have l33 : ∀ x, (f x).cell? ⟨tb, 33, none⟩ = some (.slice (some ⟨nb, 0, none⟩) 2 2) := fun x => (hfc x _).trans c33
        clear hfc
        refine wp_region_seqD (fun w' => ∃ x, w' = f x) ok7 [(true, 0), (true, 1), (true, 2), (true, 3), (true, 4), (true, 5), (true, 6), (true, 7), (true, 8), (true, 9), (true, 10), (true, 11), (true, 12), (true, 13), (true, 14), (true, 15), (true, 16), (true, 17), (true, 18), (true, 19), (true, 20), (true, 21), (true, 22), (true, 23), (true, 24), (true, 25), (true, 26), (true, 27), (true, 28)] (by kernel_rfl) (by kernel_rfl) (by kernel_rfl) (fun c a k v w hk h => seen_put c a k v w hk h) ?_
        simp only [pickS, List.getElem?_cons_zero, List.getElem?_cons_succ]
        iterate 29
          refine wpSeq_quiet HC.out (fun K hK => ?_)
          go_simp
          refine hK _ ?_
          clear hK K
        refine wpSeq_nil ?_
        clear lb0 lk l33 HC hf hne f X ck c33 hw1 hw0
        obtain ⟨cur, bG, hcsz, hncap, _, htk, hext⟩ := own_blk own5
        have hcut : cur.extract 0 (0 + 41) = ent x.a x.b x.ip x.p := hext 0 x rfl
        have cw : w5.cell? ⟨nb, 1, none⟩ = some (.pointer none) := (bB5.cell 1).trans (bks_at1 ..)
        have bGd := bG.drew
        clear hext htk
        go_wp2_with (first | (refine wpList_load_blkG (by kernel_rfl) 90 _ rfl gN 0 41 rfl bGd (ent x.a x.b x.ip x.p) hcut (by kernel_rfl) (by kernel_rfl) ?_; simp only [Act.put, List.setIfInBounds_toArray, List.set_cons_zero, List.set_cons_succ]))
        refine (good_any tb _ _ _ _ m _ _ _ x.a x.b x.ip x.p hm0 _ bT5.drew).mono ?_
        rintro e w6 ⟨rfl, k6⟩
        have k56 : Kept (fun _ => False) w5 w6 := k6.ofDrew
        have bT6 := k56.blk bT5 id
        have bB6 := k56.blk bB5 id
        have bA6 := k56.blk bA5 id
        have bR6 := k56.blk bR5 id
        have bC6 := k56.blk bC5 id
        have own6 := k56.own own5 (fun _ _ h => h)
        have kw6 := hide (kw5.out.trans (k56.mono (by simp)))
        have g6 := g5.mono k56
        have hsz6 : w.heap.size + 2 ≤ w6.heap.size := Nat.le_trans hsz5 k56.size
        clear k6 k56 bT5 bB5 bR5 bC5 own5 kw5 g5 bA5 cb0 cw bGd bG hcut hcsz hncap hsz5
        have hgt : (Value.slice (some ⟨gN, 0, none⟩) 1 cN).ownBlock ≠ some tb := own_ne own6 bT6 (by decide)
        have hgr : (Value.slice (some ⟨gN, 0, none⟩) 1 cN).ownBlock ≠ some (w.heap.size + 1) := own_ne own6 bR6 (by decide)
        by_cases hm : 0 < m
        · rw [decide_eq_true hm]
          replace hm := hide hm
          go_wp2_with fail
          refine (chall_any tb nb _ _ _ _ _ _ _ _ _ _ bT6).mono ?_
          rintro e w7 ⟨rfl, rfl⟩
          go_upto_region 19 with fail
          go_wp2_with (first | (refine wpList_built rfl 50 _ rfl (C0) (by kernel_rfl) ?_; simp only [Act.put, List.setIfInBounds_toArray, List.set_cons_zero, List.set_cons_succ]) | (refine wpList_store_blk rfl 50 _ _ rfl (w.heap.size + 1) 0 (C0) rfl rfl bR6 (by kernel_rfl) (by kernel_rfl) (by kernel_rfl) ?_; simp only [Act.put]))
          have kz : Kept (fun k => k = w.heap.size + 1) w7 (w7.setCells (w.heap.size + 1) 0 C0.toList) := Kept.setCells _ _ (Kept.refl _ _) (fun _ => rfl)
          refine leaves_cons (f := 12) (args := #[.pointer (some ⟨tb, 31, none⟩)]) (by simp) (by simp [go_sem]) ?_
          refine (unlock_tab tb _ _ _ _ _ _ _ _ .returning _ (kz.blk bT6 (by omega))).mono ?_
          rintro e u' w9 ⟨rfl, rfl, bT9, k9⟩
          refine ⟨_, res7 _ (w.heap.size + 1) C0 50 (.bool false) (.bool false) _ (k9.blk (bR6.setAll _ rfl) (by omega)) (by kernel_rfl) rfl rfl rfl, nb, .slice (some ⟨gN, 0, none⟩) 1 cN, s', none, .inl ⟨hm.out, rfl, rfl⟩, ?_, ?_⟩
          · exact ⟨bT9, k9.blk (kz.blk bB6 (Ne.symm hrb)) hnt, k9.blk (kz.blk bC6 (by have := bC.lt; omega)) (bC.ne bT (by decide)), k9.own (kz.own own6 (fun q hq hh => hgr (by rw [hq, hh]))) (fun q hq hh => hgt (by rw [hq, hh])), sk', ok, ⟨ge.1, by omega, ge.2.2⟩⟩
          · refine (kw6.out.trans' kz ?_).trans' k9 ?_
            · intro q hq h; exact absurd h (by omega)
            · intro q _ h; exact .inl h
        · rw [decide_eq_false hm]
          replace hm := hide hm
          go_wp2_with (first | (refine wpList_load_blkG (by kernel_rfl) 47 _ rfl (w.heap.size) 20 4 rfl bA6 (ap (some z4) c.ip c.p) (by kernel_rfl) (by kernel_rfl) (by kernel_rfl) ?_; simp only [Act.put, List.setIfInBounds_toArray, List.set_cons_zero, List.set_cons_succ]))
          refine (holds_any base tb nb [x] true (some ⟨gN, 0, none⟩) 1 cN 2 none sf 0 1 _ _ _ _ s' c.ip c.p hc.2.2.1.1 hc.2.2.1.2 _ g6 (by omega) ok sk' bT6 bB6 own6).mono ?_
          rintro e w7 ⟨rfl, ⟨s7, sk7, bT7⟩, k7⟩
          rw [hany]
          have bB7 := k7.blk bB6 hnt
          have bA7 := k7.blk bA6 (by omega)
          have bR7 := k7.blk bR6 (by omega)
          have bC7 := k7.blk bC6 (bC.ne bT (by decide))
          have own7 := k7.own own6 (fun q hq hqt => hgt (by rw [hq, hqt]))
          have kw7 := hide (kw6.out.trans (k7.mono (fun _ _ h => .inl h)))
          have hsz7 : w.heap.size + 2 ≤ w7.heap.size := Nat.le_trans hsz6 k7.size
          clear k7 bT6 bB6 bA6 bR6 bC6 own6 kw6 g6 hsz6
          have cb0 : w7.cell? ⟨nb, 0, none⟩ = some (.slice (some ⟨gN, 0, none⟩) 1 cN) := (bB7.cell 0).trans (bks_at0 ..)
          have ck := (bT7.cell 20).trans (tab_k ..)
          go_wp2_with fail
          obtain ⟨X, f, hne, hf, hto⟩ := cls (fun w' => w' = World.drew w7) (World.drew w7) rfl
          have HC := hide (hto _ rfl)
          clear hto
          have hfc : ∀ x (a : Addr), (f x).cell? a = World.cell? w7 a := fun x a => by rw [hf x]; rfl
          have lb0 : ∀ x, (f x).cell? ⟨nb, 0, none⟩ = some (.slice (some ⟨gN, 0, none⟩) 1 cN) := fun x => (hfc x _).trans cb0
          have lk : ∀ x, (f x).cell? ⟨tb, 20, none⟩ = some (.int .i64 1) := fun x => (hfc x _).trans ck
          clear hfc
          refine wp_region_seqD (fun w' => ∃ x, w' = f x) ok7 [(true, 0), (true, 1), (true, 2), (true, 3), (true, 4), (true, 5), (true, 6), (true, 7), (true, 8), (true, 9), (true, 10)] (by kernel_rfl) (by kernel_rfl) (by kernel_rfl) (fun c a k v w hk h => seen_put c a k v w hk h) ?_
          simp only [pickS, List.getElem?_cons_zero, List.getElem?_cons_succ]
          iterate 11
            refine wpSeq_quiet HC.out (fun K hK => ?_)
            go_simp
            refine hK _ ?_
            clear hK K
          refine wpSeq_nil ?_
          clear lb0 lk HC hf hne f X cb0 ck
          have bA7d := bA7.drew
          go_wp2_with (first | (refine wpList_load_blk rfl 50 _ rfl (w.heap.size) 0 24 rfl bA7d (con (some z4) c.a c.b c.ip c.p) (by kernel_rfl) (by kernel_rfl) (by kernel_rfl) ?_; simp only [Act.put, List.setIfInBounds_toArray, List.set_cons_zero, List.set_cons_succ]))
          refine (newEntry_any (some z4) c.a c.b c.ip c.p hc.2.2.1.1 hc.2.2.1.2 hc.2.2.2.1 hc.2.2.2.2 _).mono ?_
          rintro e w8 ⟨rfl, k8⟩
          have k78 : Kept (fun _ => False) w7 w8 := k8.ofDrew
          have bT8 := k78.blk bT7 id
          have bB8 := k78.blk bB7 id
          have bR8 := k78.blk bR7 id
          have bC8 := k78.blk bC7 id
          have own8 := k78.own own7 (fun _ _ h => h)
          have kw8 := hide (kw7.out.trans (k78.mono (by simp)))
          have hsz8 : w.heap.size + 2 ≤ w8.heap.size := Nat.le_trans hsz7 k78.size
          clear k8 k78 bT7 bB7 bA7 bA7d bR7 bC7 own7 kw7 hsz7
          go_upto_region 21 with (refine wpList_store_new rfl 90 _ _ rfl (ent c.a c.b c.ip c.p) rfl rfl (by kernel_rfl) (by kernel_rfl) (by kernel_rfl) ?_; simp only [Act.put])
          generalize hY : w8.alloc (.cells (ent c.a c.b c.ip c.p) 90) = Y
          have kY : Kept (fun _ => False) w8 Y := by rw [← hY]; exact (Kept.refl _ _).alloc _
          have bTY := kY.blk bT8 id
          have bBY := kY.blk bB8 id
          have bRY := kY.blk bR8 id
          have bCY := kY.blk bC8 id
          have ownY := kY.own own8 (fun _ _ h => h)
          have kwY := hide (kw8.out.trans (kY.mono (by simp)))
          have hszY : w.heap.size + 2 ≤ Y.heap.size := Nat.le_trans hsz8 kY.size
          clear hY kY bT8 bB8 bR8 bC8 own8 kw8 hsz8
          have d1 : Y.cell? ⟨nb, 1, none⟩ = some (.pointer none) := (bBY.cell 1).trans (bks_at1 ..)
          have e1 := bBY.frozen 1
          go_upto_region 22 with fail
          generalize hZ : Y.setCell ⟨nb, 1, none⟩ (.pointer (some ⟨w8.heap.size, 0, none⟩)) = Z
          have kZ : Kept (fun k => k = nb) Y Z := by rw [← hZ]; exact Kept.set (p := ⟨nb, 1, none⟩) (Kept.refl (fun k => k = nb) _) (fun _ => rfl) _
          have bBZ : Blk Z nb (bks true (.slice (some ⟨gN, 0, none⟩) 1 cN) (some ⟨w8.heap.size, 0, none⟩)) 81 := by
            have := bBY.set 1 (.pointer (some ⟨w8.heap.size, 0, none⟩))
            rw [bks_set1, hZ] at this; exact this
          have bTZ := kZ.blk bTY (Ne.symm hnt)
          have bRZ := kZ.blk bRY hrb
          have bCZ := kZ.blk bCY (bCY.ne bBY (by decide))
          have ownZ := kZ.own ownY (fun q hq hh => own_ne ownY bBY (by decide) (by rw [hq, hh]))
          have kwZ : Kept (fun k => k = tb ∨ k = bb ∨ (Value.slice (some ⟨gI, 0, none⟩) 1 cap).ownBlock = some k) w Z := kwY.out.trans' kZ (fun q hq h => absurd h (by omega))
          have gZ : Gl Z z4 z6 := g.kept (kwZ.mono (T := fun k => base ≤ k) (fun q _ h => hSb.out q h)) ⟨by omega, by omega, by omega, by omega, by omega⟩
          replace kwZ := hide kwZ
          clear hZ kZ bTY bBY bRY bCY ownY kwY d1 e1
          have cb0 : Z.cell? ⟨nb, 0, none⟩ = some (.slice (some ⟨gN, 0, none⟩) 1 cN) := (bBZ.cell 0).trans (bks_at0 ..)
          obtain ⟨cur2, bG2, hcsz2, hncap2, _, htk2, hext2⟩ := own_blk ownZ
          have hcut2 : cur2.extract 0 (0 + 41) = ent x.a x.b x.ip x.p := hext2 0 x rfl
          clear hext2 htk2
          go_wp2_with (first | (refine wpList_load_blk rfl 90 _ rfl gN 0 41 rfl bG2 (ent x.a x.b x.ip x.p) hcut2 (by kernel_rfl) (by kernel_rfl) ?_; simp only [Act.put, List.setIfInBounds_toArray, List.set_cons_zero, List.set_cons_succ]))
          refine (contact_any x.a x.b x.ip x.p hxo.2.2.1.1 hxo.2.2.1.2 hxo.2.2.2.1 hxo.2.2.2.2 _ gZ).mono ?_
          rintro e wa ⟨rfl, ka⟩
          have bTa := ka.blk bTZ id
          have bBa := ka.blk bBZ id
          have bRa := ka.blk bRZ id
          have bCa := ka.blk bCZ id
          have owna := ka.own ownZ (fun _ _ h => h)
          have kwa := hide (kwZ.out.trans (ka.mono (by simp)))
          clear ka bTZ bBZ bRZ bCZ ownZ kwZ gZ cb0 bG2 hcut2 hcsz2 hncap2
          go_wp2_with (first | (refine wpList_store_blk rfl 50 _ _ rfl (w.heap.size + 1) 0 (con (some z4) x.a x.b x.ip x.p) rfl rfl bRa (by kernel_rfl) (by kernel_rfl) (by kernel_rfl) ?_; simp only [Act.put]))
          have kz : Kept (fun k => k = w.heap.size + 1) wa (wa.setCells (w.heap.size + 1) 0 (con (some z4) x.a x.b x.ip x.p).toList) := Kept.setCells _ _ (Kept.refl _ _) (fun _ => rfl)
          refine leaves_cons (f := 12) (args := #[.pointer (some ⟨tb, 31, none⟩)]) (by simp) (by simp [go_sem]) ?_
          refine (unlock_tab tb _ _ _ _ _ _ _ _ .returning _ (kz.blk bTa (by omega))).mono ?_
          rintro e u' w9 ⟨rfl, rfl, bT9, k9⟩
          refine ⟨_, res7 _ (w.heap.size + 1) (con (some z4) x.a x.b x.ip x.p) 50 (.bool true) (.bool false) _ (k9.blk (bRa.setAll _ rfl) (by omega)) (by kernel_rfl) rfl rfl rfl, nb, .slice (some ⟨gN, 0, none⟩) 1 cN, s7, some ⟨w8.heap.size, 0, none⟩, .inr ⟨hm.out, rfl, rfl⟩, ?_, ?_⟩
          · exact ⟨bT9, k9.blk (kz.blk bBa (Ne.symm hrb)) hnt, k9.blk (kz.blk bCa (by have := bC.lt; omega)) (bC.ne bT (by decide)), k9.own (kz.own owna (fun q hq hh => hgr (by rw [hq, hh]))) (fun q hq hh => hgt (by rw [hq, hh])), sk7, ok, ⟨ge.1, by omega, ge.2.2⟩⟩
          · refine (kwa.out.trans' kz ?_).trans' k9 ?_
            · intro q hq h; exact absurd h (by omega)
            · intro q _ h; exact .inl h
end Go.Proofs.YbulkdbdsGreatDoor
