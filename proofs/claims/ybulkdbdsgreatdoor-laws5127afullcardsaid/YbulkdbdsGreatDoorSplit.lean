import Derived.Test.YbulkdbdsGreatDoorGood
import Derived.Test.YbulkdbdsGreatDoorNewTab
import Derived.Laws.MakeOwn
namespace Go.Proofs.YbulkdbdsGreatDoor
open Go.RowKit Go.HeadTail
attribute [local go_sem] yields yUpon

theorem bks_true (cv : Value) (wt : Option Addr) : bks true cv wt = bkt cv wt ++ bkt (.slice none 0 0) none := rfl

theorem made81 : madeCells (Value.agg zb).cells (Int.toNat 2 * 5) = zb ++ zb := by kernel_rfl
theorem lay5 (cv : Value) : lays (zb ++ zb) 0 (bkt cv none).toList = bkt cv none ++ zb := by kernel_rfl
theorem lay55 (cv : Value) : lays (bkt cv none ++ zb) 5 (bkt (.slice none 0 0) none).toList = bks true cv none := by kernel_rfl
theorem bkt_set0s (cv v : Value) (wt : Option Addr) : (bkt cv wt).setIfInBounds 0 v = bkt v wt := by kernel_rfl
theorem run_make81 (w : World) : (Instr.makeSlice 70 (.int .i64 2) (.int .i64 2)).run Ybaz.prog w = .ok (.slice (some ⟨w.heap.size, 0, none⟩) 2 2) (w.alloc (.cells (zb ++ zb) 81)) := by
  obtain ⟨i, h1, h2, h3, h4⟩ := info_parts info81
  rw [run_makeSlice w 70 81 i _ Ybaz.underlying70 h1 h2 .i64 .i64 2 2 (by omega) (by omega) (by rw [h3]; decide) (by rw [h4]; decide) (by omega), h3, made81]
  rfl
theorem wpList_make81 {ops : Array Oper} {Q : Exit → Act → World → Prop} {rest : List Oper} {o : Oper} {A : Act} {w : World} (hg : o.guard = none) (x y : Operand) (ho : o.op = .makeSlice 70 x y) (hx : A.eval x = .int .i64 2) (hy : A.eval y = .int .i64 2)
    (h : wpList Ybaz.prog ops Q rest (A.put o.dst (.slice (some ⟨w.heap.size, 0, none⟩) 2 2)) (w.alloc (.cells (zb ++ zb) 81))) : wpList Ybaz.prog ops Q (o :: rest) A w :=
  wpList_plain hg fun _ hK => by
    unfold Oper.wp execOp
    simp only [ho, hx, hy, Sem.run_bind, run_make81, Result.andThen_ok]
    exact hK _ _ h

set_option maxRecDepth 100000 in
set_option maxHeartbeats 6400000 in
theorem split_one (base tb bb : Nat) (x : E) (gI cap bc : Nat) (sa sb k : Int) (cv : Value) (least most mu : Int) (s : Nat → Int) (hs : (0 ≤ sa ∧ sa < 256) ∧ (0 ≤ sb ∧ sb < 256)) (hx : x.ok) (hxor : 128 ≤ sa.toNat ^^^ x.a.toNat)
    (w : World) (bT : Blk w tb (tabv sa sb k cv least most mu (.slice (some ⟨bb, 0, none⟩) 1 bc) s) 74) (bB : Blk w bb (bkt (.slice (some ⟨gI, 0, none⟩) 1 cap) none) 81)
    (ho : w.ownsRow base 90 41 (.slice (some ⟨gI, 0, none⟩) 1 cap) 1 (flat [x])) (hb : base ≤ w.heap.size) :
    Calls Ybaz.prog 24 #[.pointer (some ⟨tb, 0, none⟩)] w fun e w' => e = .returned (.tuple #[]) ∧ ∃ nb gN cN, Blk w' tb (tabv sa sb k cv least most mu (.slice (some ⟨nb, 0, none⟩) 2 2) s) 74 ∧ Blk w' nb (bks true (.slice (some ⟨gN, 0, none⟩) 1 cN) none) 81 ∧
      w'.ownsRow base 90 41 (.slice (some ⟨gN, 0, none⟩) 1 cN) 1 (flat [x]) ∧ w.heap.size ≤ nb ∧ Kept (fun q => q = tb ∨ q = bb ∨ q = gI) w w' := by
  have c33 := (bT.cell 33).trans (tab_bs ..)
  have b0 : w.cell? ⟨bb, 0, none⟩ = some (.slice (some ⟨gI, 0, none⟩) 1 cap) := bB.cell 0
  obtain ⟨cur, bG, hcsz, hcap, _, htk, hext⟩ := own_blk ho
  have hcut := hext 0 x rfl
  go_enter Ybaz.func24, Ybaz.ntmps24
  go_wp2_with fail
  have hol : ∀ wr : World, Kept (fun q => q = gI) w wr → Blk wr tb (tabv sa sb k cv least most mu (.slice (some ⟨bb, 0, none⟩) 1 bc) s) 74 ∧ Blk wr bb (bkt (.slice (some ⟨gI, 0, none⟩) 1 cap) none) 81 := fun _ h =>
    ⟨h.blk bT (fun e => own_ne ho bT (by decide) (by rw [e]; rfl)), h.blk bB (fun e => own_ne ho bB (by decide) (by rw [e]; rfl))⟩
  replace hol := hide hol
  go_loopw [31, 4, 5] (fun iv sv gv wr => gv = .slice none 0 0 ∧ ((iv = .int .i64 0 ∧ sv = .slice (some ⟨gI, 0, none⟩) 0 cap ∧ wr = w) ∨ (iv = .int .i64 1 ∧ ∃ gN cN, sv = .slice (some ⟨gN, 0, none⟩) 1 cN ∧ wr.ownsRow base 90 41 (.slice (some ⟨gN, 0, none⟩) 1 cN) 1 (flat [x]) ∧ Kept (fun q => q = gI) w wr))) (fun iv _ _ _ => 1 - (intOf iv).toNat)
  case atStart => exact ⟨rfl, .inl ⟨rfl, rfl, rfl⟩⟩
  case round =>
    rcases hrel with ⟨rfl, ⟨rfl, rfl, rfl⟩ | ⟨rfl, gN, cN, rfl, oN, kr⟩⟩
    · have hcut0 : cur.extract 0 (0 + 41) = x.v := hcut
      have ho0 : wr.ownsRow base 90 41 (.slice (some ⟨gI, 0, none⟩) 0 cap) 0 [] := by
        rcases ho.2 with ⟨h, _⟩ | ⟨g2, c2, cu, h, hbs, hB, hle, hmx, hsz, _⟩
        · cases h
        · cases h; exact ⟨rfl, .inr ⟨gI, cap, cu, rfl, hbs, hB, Nat.zero_le _, hmx, hsz, by simp⟩⟩
      clear hext hcut htk
      go_wp2_with (first | (refine wpList_load_blk rfl 90 _ rfl gI 0 41 rfl bG x.v hcut0 (by kernel_rfl) (by kernel_rfl) ?_; simp only [Act.put, List.setIfInBounds_toArray, List.set_cons_zero, List.set_cons_succ]) | (refine wpList_store_new rfl 90 _ _ rfl (x.v) rfl rfl (by kernel_rfl) (by kernel_rfl) (by kernel_rfl) ?_; simp only [Act.put]))
      generalize hY : wr.alloc (.cells x.v 90) = Y
      have kY : Kept (fun _ => False) wr Y := by rw [← hY]; exact (Kept.refl _ _).alloc _
      have bX : Blk Y wr.heap.size (ent x.a x.b x.ip x.p) 90 := by rw [← hY]; exact Blk.new _ _ _
      have bTY := kY.blk bT id
      clear hY
      obtain ⟨X, f, hne, hf, hto⟩ := cls (Kept (fun _ => False) Y) (World.drew Y) (Kept.refl _ _).drew
      have HC := hide (hto _ (Kept.refl _ Y).drew)
      have Hto := hide hto
      clear hto
      refine wp_region_seq (fun w' => ∃ x, w' = f x) [(true, 0), (true, 1), (true, 2), (true, 3), (true, 4), (true, 5), (true, 7), (false, 6), (true, 8)] (by kernel_rfl) (by kernel_rfl) (fun _ _ _ _ _ h => h) ?_
      simp only [pickS, List.getElem?_cons_zero, List.getElem?_cons_succ]
      iterate 3
        refine wpSeq_quiet HC.out (fun K hK => ?_)
        go_simp
        refine hK _ ?_
        clear hK K
      refine wpSeq_load_blk HC.out rfl 24 _ rfl (tb) 0 20 rfl (fun w' hw' => by obtain ⟨x, rfl⟩ := hw'; exact (hf x).blk bTY id) (idv sa sb) (by kernel_rfl) (by kernel_rfl) (by kernel_rfl) ?_
      iterate 1
        refine wpSeq_quiet HC.out (fun K hK => ?_)
        go_simp
        refine hK _ ?_
        clear hK K
      refine wpSeq_load_blk HC.out rfl 24 _ rfl (wr.heap.size) 0 20 rfl (fun w' hw' => by obtain ⟨x, rfl⟩ := hw'; exact (hf x).blk bX id) (idv x.a x.b) (by kernel_rfl) (by kernel_rfl) (by kernel_rfl) ?_
      iterate 1
        refine wpSeq_quiet HC.out (fun K hK => ?_)
        go_simp
        refine hK _ ?_
        clear hK K
      refine wpSeq_forced (fun K hK => ?_)
      go_simp
      refine (prefix_any sa sb x.a x.b hs.1.1 hs.1.2 hs.2.1 hs.2.2 hx.1.1 hx.1.2 hx.2.1.1 hx.2.1.2 _).mono ?_
      rintro e w1 ⟨r, rfl, k1, r0, r1, r2⟩
      obtain rfl : r = 0 := r2 hxor
      refine hK _ _ (Hto.out _ k1.ofDrew) ?_
      clear hK K
      clear HC
      have HC := hide (Hto.out _ k1.ofDrew)
      iterate 1
        refine wpSeq_quiet HC.out (fun K hK => ?_)
        go_simp
        refine hK _ ?_
        clear hK K
      refine wpSeq_nil ?_
      clear  Hto HC hf hne f X
      have kY1 : Kept (fun _ => False) wr w1 := kY.trans k1.ofDrew
      have bX1 := k1.blk bX.drew id
      have ho1 := kY1.own ho0 (fun _ _ h => h)
      obtain ⟨i90, hi90, hz0, hz1, hz2⟩ := info_parts info90
      have ho2 : Hid ((w1.alloc (.cells (ent x.a x.b x.ip x.p) 90)).ownsRow base 90 41 (.slice (some ⟨gI, 0, none⟩) 0 cap) 0 []) := hide (((Kept.refl (fun _ => False) w1).alloc _).own ho1 (fun _ _ h => h))
      have hnw : Hid (∀ (j : Nat) (u : Value), (ent x.a x.b x.ip x.p).toList[j]? = some u → (w1.alloc (.cells (ent x.a x.b x.ip x.p) 90)).cell? ((⟨w1.heap.size, 0, none⟩ : Addr).add j) = some u) := hide (fun j u hu => by rw [Addr.add_mid, Nat.zero_add, (Blk.new w1 (ent x.a x.b x.ip x.p) 90).cell, ← Array.getElem?_toList]; exact hu)
      have hb1 : 0 + 1 ≤ maxLen := by unfold maxLen; omega
      have hb3 : base ≤ (w1.alloc (.cells (ent x.a x.b x.ip x.p) 90)).heap.size := by have := kY1.size; simp; omega
      go_wp2_with (first | (refine wpList_load_blk rfl 90 _ rfl (wr.heap.size) 0 41 rfl bX1 (ent x.a x.b x.ip x.p) (by kernel_rfl) (by kernel_rfl) (by kernel_rfl) ?_; simp only [Act.put, List.setIfInBounds_toArray, List.set_cons_zero, List.set_cons_succ]) | (refine wpList_slice90 rfl _ rfl x.a x.b x.ip x.p rfl ?_; simp only [Act.put, List.setIfInBounds_toArray, List.set_cons_zero, List.set_cons_succ]) | (at_builtin; refine wpList_append_lies _ rfl _ _ 77 rfl base 90 i90 _ 41 48 Ybaz.underlying77 hi90 hz0 hz1 hz2 (by kernel_rfl) (by decide) _ 0 _ rfl ho2.out ⟨w1.heap.size, 0, none⟩ 1 1 (ent x.a x.b x.ip x.p).toList rfl (by kernel_rfl) hnw.out (ent_one _ _ _ _) (by decide) hb1 (by decide) hb3 _ rfl ?_))
      intro gN cN w5 own5 grow5 hat5 hlt5
      have k5 : Kept (fun q => q = gI) w1 w5 := ((Kept.refl _ _).alloc _).grown grow5 (fun q _ e => by cases e; rfl)
      have k15 := hide ((kY1.mono (T := fun q => q = gI) (by simp)).trans k5)
      have hfl : flat [x] = (ent x.a x.b x.ip x.p).toList := by simp [flat, E.v]
      have own6 : w5.ownsRow base 90 41 (.slice (some ⟨gN, 0, none⟩) 1 cN) 1 (flat [x]) := by rw [hfl]; exact own5
      clear k5 grow5 hat5 hlt5 hnw ho2 own5 hfl
      go_wp2
      go_roundw
      case rel => exact ⟨rfl, .inr ⟨by go_num, gN, cN, rfl, own6, k15.out⟩⟩
      case measure => simp [intOf]
    · obtain ⟨bTr, bBr⟩ := hol.out wr kr
      have r0 : wr.cell? ⟨bb, 0, none⟩ = some (.slice (some ⟨gI, 0, none⟩) 1 cap) := bBr.cell 0
      have f0 := bBr.frozen 0
      have hbt : bb ≠ tb := bBr.ne bTr (by decide)
      have c33r := (bTr.cell 33).trans (tab_bs ..)
      clear c33 b0 hext hcut
      go_upto_region 11 with fail
      generalize hU : wr.setCell ⟨bb, 0, none⟩ (.slice (some ⟨gN, 0, none⟩) 1 cN) = U
      have kU : Kept (fun q => q = bb) wr U := by rw [← hU]; exact Kept.set (p := ⟨bb, 0, none⟩) (Kept.refl (fun k => k = bb) _) (fun _ => rfl) _
      have bBU : Blk U bb (bkt (.slice (some ⟨gN, 0, none⟩) 1 cN) none) 81 := by
        have := bBr.set 0 (.slice (some ⟨gN, 0, none⟩) 1 cN)
        rw [bkt_set0s, hU] at this; exact this
      have hob : (Value.slice (some ⟨gN, 0, none⟩) 1 cN).ownBlock ≠ some bb := own_ne oN bBr (by decide)
      have hot : (Value.slice (some ⟨gN, 0, none⟩) 1 cN).ownBlock ≠ some tb := own_ne oN bTr (by decide)
      have oU := kU.own oN (fun q hq hh => hob (by rw [hq, hh]))
      have bTU := kU.blk bTr (Ne.symm hbt)
      have kwU := hide ((kr.mono (T := fun q => q = tb ∨ q = bb ∨ q = gI) (fun q _ h => .inr (.inr h))).trans (kU.mono (fun q _ h => .inr (.inl h))))
      clear hU kU r0 f0 c33r bBr bTr oN kr
      have c33U := (bTU.cell 33).trans (tab_bs ..)
      go_upto_region 12 with (refine wpList_make81 rfl _ _ rfl rfl rfl ?_; simp only [Act.put, List.setIfInBounds_toArray, List.set_cons_zero, List.set_cons_succ])
      generalize hnb : U.heap.size = nb
      have bN0 : Blk (U.alloc (.cells (zb ++ zb) 81)) nb (zb ++ zb) 81 := by rw [← hnb]; exact Blk.new _ _ _
      have kV0 : Kept (fun _ => False) U (U.alloc (.cells (zb ++ zb) 81)) := (Kept.refl _ _).alloc _
      generalize U.alloc (.cells (zb ++ zb) 81) = V at bN0 kV0 ⊢
      have bTV := kV0.blk bTU id
      have bBV := kV0.blk bBU id
      have oV := kV0.own oU (fun _ _ h => h)
      have hbU := bBU.lt
      have htU := bTU.lt
      have hon : (Value.slice (some ⟨gN, 0, none⟩) 1 cN).ownBlock ≠ some nb := own_ne oV bN0 (by decide)
      have hge : w.heap.size ≤ nb := by rw [← hnb]; exact kwU.out.size
      have kwV := hide (kwU.out.trans (kV0.mono (by simp)))
      clear kV0 bTU bBU oU kwU c33U
      have c33V := (bTV.cell 33).trans (tab_bs ..)
      have hcp : (Builtin.copy_ #[70, 70] 3 #[.slice (some ⟨nb, 0, none⟩) 2 2, .slice (some ⟨bb, 0, none⟩) 1 bc]).run Ybaz.prog V = .ok (goInt 1) (V.setCells nb 0 (bkt (.slice (some ⟨gN, 0, none⟩) 1 cN) none).toList) := by
        refine run_copy_big (P := Ybaz.prog) V 70 70 3 81 5 nb 0 2 2 ⟨bb, 0, none⟩ 1 bc (bkt (.slice (some ⟨gN, 0, none⟩) 1 cN) none).toList (by kernel_rfl) (by kernel_rfl) rfl ?_ ?_ ?_ ?_
        · intro i v hv; rw [Addr.add_mid, Nat.zero_add, bBV.cell, ← Array.getElem?_toList]; exact hv
        · intro j hj
          rw [Nat.zero_add, bN0.cell, Array.getElem?_eq_getElem (Nat.lt_of_lt_of_le (show j < 5 from hj) (by decide))]; rfl
        · intro j hj; exact bN0.frozen _
        · simp [bkt, Value.oneCell']
      replace hcp := hide hcp
      go_upto_region 13 with fail
      rw [hcp.out]
      go_upto_region 13 with fail
      clear hcp c33V
      generalize hZ : V.setCells nb 0 (bkt (.slice (some ⟨gN, 0, none⟩) 1 cN) none).toList = Z
      have kZ : Kept (fun q => q = nb) V Z := by rw [← hZ]; exact Kept.setCells _ _ (Kept.refl _ _) (fun _ => rfl)
      have bNZ : Blk Z nb (bkt (.slice (some ⟨gN, 0, none⟩) 1 cN) none ++ zb) 81 := by
        have := bN0.setCells (bkt (.slice (some ⟨gN, 0, none⟩) 1 cN) none).toList 0
        rw [hZ, lay5] at this; exact this
      have bTZ := kZ.blk bTV (by omega)
      have bBZ := kZ.blk bBV (by omega)
      have oZ := kZ.own oV (fun q hq hh => hon (by rw [hq, hh]))
      have kwZ := hide (kwV.out.trans' kZ (fun q hq h => absurd h (by omega)))
      clear hZ kZ bN0 bTV bBV oV kwV
      obtain ⟨X, f, hne, hf, hto⟩ := cls (Kept (fun q => q = nb) Z) (World.drew Z) (Kept.refl _ _).drew
      have HC := hide (hto _ (Kept.refl _ Z).drew)
      have Hto := hide hto
      clear hto
      have l2 : ∀ x, (f x).cell? ⟨bb, 2, none⟩ = some (.int .i64 (-9223372036854775808)) := fun x => ((hf x).blk bBZ (by omega)).cell 2
      have l3 : ∀ x, (f x).cell? ⟨bb, 3, none⟩ = some (.int .i64 0) := fun x => ((hf x).blk bBZ (by omega)).cell 3
      have hw1 : IntKind.i64.wrap 1 = 1 := by decide
      refine wp_region_seq (fun w' => ∃ x, w' = f x) [(true, 0), (true, 1), (true, 2), (true, 3), (true, 4), (true, 5), (true, 6), (true, 7), (true, 8), (true, 9), (true, 10), (true, 11), (true, 12), (true, 13), (false, 14)] (by kernel_rfl) (by kernel_rfl) (fun _ _ _ _ _ h => h) ?_
      simp only [pickS, List.getElem?_cons_zero, List.getElem?_cons_succ]
      iterate 12
        refine wpSeq_quiet HC.out (fun K hK => ?_)
        go_simp
        refine hK _ ?_
        clear hK K
      refine wpSeq_built HC.out rfl 81 _ rfl (bkt (.slice none 0 0) none) (by kernel_rfl) ?_
      iterate 1
        refine wpSeq_quiet HC.out (fun K hK => ?_)
        go_simp
        refine hK _ ?_
        clear hK K
      have kS : Kept (fun q => q = nb) Z (Z.drew.setCells nb 5 (bkt (.slice none 0 0) none).toList) := Kept.setCells _ _ (Kept.refl _ _).drew (fun _ => rfl)
      refine wpSeq_store_blk rfl 81 _ _ rfl (nb) 5 (bkt (.slice none 0 0) none) rfl rfl bNZ.drew (by kernel_rfl) (by kernel_rfl) (by kernel_rfl) (Hto.out _ kS) ?_
      refine wpSeq_nil ?_
      clear l2 l3 Hto HC hf hne f X
      have bNS := bNZ.drew.setCells (bkt (.slice none 0 0) none).toList 5
      rw [lay55] at bNS
      generalize Z.drew.setCells nb 5 (bkt (.slice none 0 0) none).toList = S at kS bNS ⊢
      have bTS := kS.blk bTZ (by omega)
      have oS := kS.own oZ (fun q hq hh => hon (by rw [hq, hh]))
      have kwS := hide (kwZ.out.trans' kS (fun q hq h => absurd h (by omega)))
      clear kS bNZ bTZ bBZ oZ kwZ
      have c33S := (bTS.cell 33).trans (tab_bs ..)
      have f33 := bTS.frozen 33
      go_wp2
      go_end0
      have hT := bTS.set 33 (.slice (some ⟨nb, 0, none⟩) 2 2)
      rw [tab_setbs] at hT
      have kT : Kept (fun q => q = tb) S (S.setCell ⟨tb, 33, none⟩ (.slice (some ⟨nb, 0, none⟩) 2 2)) := Kept.set (p := ⟨tb, 33, none⟩) (Kept.refl (fun k => k = tb) _) (fun _ => rfl) _
      refine ⟨rfl, nb, gN, cN, hT, kT.blk bNS (by omega), kT.own oS (fun q hq hh => hot (by rw [hq, hh])), hge, kwS.out.trans (kT.mono (fun q _ h => .inl h))⟩
end Go.Proofs.YbulkdbdsGreatDoor
