import Derived.Test.YbulkdbdsGreatDoorMod
import Derived.Deep.CutRange
namespace Go.Proofs.YbulkdbdsGreatDoor
open Go.RowKit Go.HeadTail
attribute [local go_sem] yields yUpon

theorem wpList_store_newAt {P : Program} {ops : Array Oper} {Q : Exit → Act → World → Prop} {rest : List Oper} {op : Oper} {a : Act} {w0 : World} {old : Array Value} {t : TypeId} (hgd : op.guard = none) (ty : TypeId) (x y : Operand) (ho : op.op = .store ty x y)
    (vs : Array Value) (b : Nat) (hb : w0.heap.size = b) (hx : a.eval x = .pointer (some ⟨b, 0, none⟩)) (hy : a.eval y = .agg vs)
    (hs : decide (old.size = vs.size) = true) (hi : (P.info? ty).map (·.size) = some vs.size) (h1 : vs.all (·.oneCell') = true)
    (h : wpList P ops Q rest (a.put op.dst undef) (w0.alloc (.cells vs t))) : wpList P ops Q (op :: rest) a (w0.alloc (.cells old t)) := by
  subst hb
  exact wpList_store_new hgd ty x y ho vs hx hy hs hi h1 h
theorem wpList_neqV {P : Program} {ops : Array Oper} {Q : Exit → Act → World → Prop} {rest : List Oper} {o : Oper} {a : Act} {w : World} (hgd : o.guard = none) (ty u : TypeId) (x y : Operand) (ho : o.op = .binOp .neq ty x y u) (xs ys : Array Value) (hx : a.eval x = .agg xs) (hy : a.eval y = .agg ys)
    (hm : P.eqGuardType P.depth ty = false) (r : Bool) (he : (Op.equalIn 10000 ty (.agg xs) (.agg ys)).run P w = .ok (!r) w) (h : wpList P ops Q rest (a.put o.dst (.bool r)) w) : wpList P ops Q (o :: rest) a w := by
  have := wpList_neq (P := P) (ops := ops) (Q := Q) (rest := rest) hgd ty u x y ho xs ys hx hy hm (!r) he
  rw [Bool.not_not] at this
  exact this h
theorem own_own_ne {w : World} {base base' e e' size size' n n' : Nat} {v v' : Value} {xs xs' : List Value} (h : w.ownsRow base e size v n xs) (h' : w.ownsRow base' e' size' v' n' xs') (he : e ≠ e') {q : Nat} (hq : v.ownBlock = some q) : v'.ownBlock ≠ some q := fun hq' => by
  obtain ⟨_, cs, h1⟩ := own_ty h hq
  obtain ⟨_, cs', h2⟩ := own_ty h' hq'
  have := h1.symm.trans h2
  simp at this
  exact he this.2
theorem Kept.cell0 {w w' : World} (h : Kept (fun _ => False) w w') {a : Addr} {v : Value} (hc : w.cell? a = some v) : w'.cell? a = some v := by
  have hb := h.block a.block (block_lt_of_cell hc) id
  unfold World.cell? at hc ⊢
  rw [hb]; exact hc
theorem info54 : (Ybaz.prog.info? 54).map (fun i => (i.zero, i.size, i.bytes)) = some (some (.agg #[.int .u8 0, .int .u8 0, .int .u16 0]), 3, 4) := by kernel_rfl
theorem cflat_at (z4 : Addr) : ∀ (L : List E) (j : Nat) (e : E), L[j]? = some e → ((cflat z4 L).drop (j * 24)).take 24 = (e.c z4).toList
  | [], _, _, h => by simp at h
  | x :: r, 0, e, h => by
    simp at h; subst h
    have hs : (x.c z4).toList.length = 24 := by rw [Array.length_toList, E.c, con_size]
    rw [cflat, Nat.zero_mul, List.drop_zero, List.take_append_of_le_length (by omega), List.take_of_length_le (by omega)]
  | x :: r, j + 1, e, h => by
    simp at h
    have hs : (x.c z4).toList.length = 24 := by rw [Array.length_toList, E.c, con_size]
    rw [cflat, List.drop_append, List.drop_eq_nil_of_le (by omega), List.nil_append, hs, show (j + 1) * 24 - 24 = j * 24 by omega]
    exact cflat_at z4 r j e h
theorem own_cblk {w : World} {base g n cap : Nat} {z4 : Addr} {L : List E} (hln : L.length = n) (h : w.ownsRow base 50 24 (.slice (some ⟨g, 0, none⟩) n cap) n (cflat z4 L)) :
    ∃ cur, Blk w g cur 50 ∧ ∀ j e, L[j]? = some e → cur.extract (j * 24) (j * 24 + 24) = e.c z4 := by
  rcases h.2 with ⟨hn, _⟩ | ⟨g', cap', cur, hv, _, hb, hle, _, hsz, htk⟩
  · cases hn
  · cases hv
    refine ⟨cur, hb, fun j e hj => ?_⟩
    have hjl : j < L.length := (List.getElem?_eq_some_iff.1 hj).1
    have h1 := cflat_at z4 L j e hj
    rw [← htk, List.drop_take, List.take_take, show min 24 (n * 24 - j * 24) = 24 by omega] at h1
    apply Array.toList_inj.1
    rw [← h1, Array.toList_extract, List.extract_eq_take_drop, show j * 24 + 24 - j * 24 = 24 by omega]
theorem wp_append_run {P : Program} {Q : Exit → Act → World → Prop} {o : Oper} {a : Act} {w : World} {K : Act → World → Prop} (s x : Operand) (t : TypeId) (ho : o.op = .call { callee := .builtin .append, args := #[s, x], argTypes := #[t, t] })
    (vs vx r : Value) (w' : World) (hs : a.eval s = vs) (hx : a.eval x = vx) (hr : (Builtin.append_ #[t, t] o.type #[vs, vx]).run P w = .ok r w') (h : K (a.put o.dst r) w') : o.wp P a w K Q := by
  unfold Oper.wp execOp
  simp only [ho, resolve, invoke, builtin, Sem.run_bind, Sem.run_pure, Result.andThen_ok, List.map_toArray, List.map_cons, List.map_nil, hs, hx, hr]
  exact h
/-- the law's contact of a step -/
def ce (q : Int × Int × Int) : E := ⟨q.1 % 8, 0, q.2.1 % 5, q.2.2 % 3⟩
/-- what the law's search for the ID has found -/
def At (L : List E) (a : Int) (j : Nat) (t : Int) : Prop := (t = -1 ∧ ∀ i e, i < j → L[i]? = some e → e.a ≠ a) ∨ (∃ (i : Nat) (e : E), t = i ∧ i < j ∧ L[i]? = some e ∧ e.a = a)
structure Lm (w : World) (base tb bb : Nat) (sf : Int) (k : Nat) (L : List E) (sv mv : Value) (s : Nat → Int) (wr : World) : Prop where
  fs : Fs base tb bb (base + 1) 1 sf L sv s wr
  own : wr.ownsRow base 54 3 mv L.length (mflat L)
  self : Blk wr base (idv sf 0) 24
  mok : MOk L
  le : L.length ≤ k
  kept : Kept (fun q => base ≤ q) w wr

set_option maxRecDepth 100000 in
set_option maxHeartbeats 12800000 in
theorem fill_main (sB : Int) (a : Option Addr) (len cap : Nat) (q : Nat → Int × Int × Int) (w : World) {z4 z6 : Addr} (g : Gl w z4 z6) (h0 : 0 ≤ sB ∧ sB < 256)
    (hq : ∀ i, i < len → ∃ b o, a = some ⟨b, o, none⟩ ∧ b < w.heap.size ∧ w.cell? ⟨b, o + i * 3, none⟩ = some (.int .u8 (q i).1) ∧ w.cell? ⟨b, o + i * 3 + 1, none⟩ = some (.int .u8 (q i).2.1) ∧ w.cell? ⟨b, o + i * 3 + 2, none⟩ = some (.int .u16 (q i).2.2) ∧
      (0 ≤ (q i).1 ∧ (q i).1 < 256) ∧ (0 ≤ (q i).2.1 ∧ (q i).2.1 < 256) ∧ (0 ≤ (q i).2.2 ∧ (q i).2.2 < 65536)) :
    Calls Ybaz.prog 3 #[.int .u8 sB, .slice a len cap] w fun e w' => e = .returned (.bool true) ∧ Below w.heap.size w w' := by
  by_cases hlen : 256 < len
  · have hli : (256 : Int) < len := by omega
    go_enter Ybaz.func3, Ybaz.ntmps3
    go_wp2
    go_ret
    exact ⟨rfl, Below.refl _ _⟩
  · have hli : ¬ (256 : Int) < len := by omega
    have htm : sB.tmod 8 = sB % 8 := Int.tmod_eq_emod_of_nonneg h0.1
    have hsf : 0 ≤ sB % 8 ∧ sB % 8 < 256 := by omega
    go_enter Ybaz.func3, Ybaz.ntmps3
    go_wp2_with (first | (refine wpList_built rfl 24 _ rfl (idv (sB % 8) 0) (by kernel_rfl) ?_; simp only [Act.put, List.setIfInBounds_toArray, List.set_cons_zero, List.set_cons_succ]) | (refine wpList_store_new rfl 24 _ _ rfl (idv (sB % 8) 0) rfl rfl (by kernel_rfl) (by kernel_rfl) (by kernel_rfl) ?_; simp only [Act.put]) | (refine wpList_built rfl 31 _ rfl (T0) (by kernel_rfl) ?_; simp only [Act.put, List.setIfInBounds_toArray, List.set_cons_zero, List.set_cons_succ]) | (refine wpList_load_blk rfl 24 _ rfl (w.heap.size) 0 20 rfl ((Blk.new w (idv (sB % 8) 0) 24).alloc _) (idv (sB % 8) 0) (by kernel_rfl) (by kernel_rfl) (by kernel_rfl) ?_; simp only [Act.put, List.setIfInBounds_toArray, List.set_cons_zero, List.set_cons_succ]))
    generalize sB % 8 = sf at *
    refine (newTable_any (w.heap.size + 1) sf 0 257 60000000000 3600000000000 _ (Blk.new' _ _ (by simp))).mono ?_
    rintro e w1 ⟨tb, bb, rfl, bT, bB, htb, hbb, kN⟩
    have bC : Blk w1 (w.heap.size + 1) T0 31 := kN.blk (Blk.new' _ _ (by simp)) id
    have bS : Blk w1 w.heap.size (idv sf 0) 24 := kN.blk ((Blk.new _ _ _).alloc _) id
    have htb2 : w.heap.size + 2 ≤ tb := by simpa using htb
    have hbb2 : w.heap.size + 2 ≤ bb := by simpa using hbb
    have kw1 : Kept (fun _ => False) w w1 := (((Kept.refl _ w).alloc _).alloc _).trans kN
    have lm1 : Lm w w.heap.size tb bb sf 0 [] (.slice none 0 0) (.slice none 0 0) (fun _ => 0) w1 :=
      ⟨⟨bT, bB, bC, World.ownsRow_nil _ _ _ _, SkOk.zero, by simp, by omega⟩, World.ownsRow_nil _ _ _ _, bS, ⟨List.Pairwise.nil, by simp⟩, Nat.le_refl _, kw1.mono (by simp)⟩
    clear bT bB bC bS kN kw1 htb hbb htm
    go_wp2_with fail
    go_loopw [40, 8] (fun iv mv wr => ∃ (k : Nat) (L : List E) (sv : Value) (s : Nat → Int), iv = .int .i64 k ∧ k ≤ len ∧ Lm w w.heap.size tb bb sf k L sv mv s wr) (fun iv _ _ => len - (intOf iv).toNat)
    case atStart => exact ⟨0, [], _, _, rfl, Nat.zero_le _, lm1⟩
    case round =>
      clear lm1
      obtain ⟨k, L, sv, s, rfl, hk, lm⟩ := hrel
      obtain ⟨ma, mc, rfl, hma⟩ := own_form lm.own
      by_cases hlt : k < len
      · have hki : (k : Int) < len := by omega
        obtain ⟨b, o, rfl, hb, c1, c2, c3, r1, r2, r3⟩ := hq k hlt
        have hcell : ∀ x : Addr, x.block < w.heap.size → wr.cell? x = w.cell? x := fun x hx => by
          unfold World.cell?
          rw [lm.kept.block x.block hx (by omega)]
        have d1 := (hcell ⟨b, o + k * 3, none⟩ hb).trans c1
        have d2 := (hcell ⟨b, o + k * 3 + 1, none⟩ hb).trans c2
        have d3 := (hcell ⟨b, o + k * 3 + 2, none⟩ hb).trans c3
        clear hcell c1 c2 c3
        have m1 : (q k).1.tmod 8 = (q k).1 % 8 := Int.tmod_eq_emod_of_nonneg r1.1
        have m2 : (q k).2.1.tmod 5 = (q k).2.1 % 5 := Int.tmod_eq_emod_of_nonneg r2.1
        have m3 : (q k).2.2.tmod 3 = (q k).2.2 % 3 := Int.tmod_eq_emod_of_nonneg r3.1
        obtain ⟨c, hcE⟩ : ∃ c : E, c = ce (q k) := ⟨_, rfl⟩
        have ea : (q k).1 % 8 = c.a := by rw [hcE]; rfl
        have eip : (q k).2.1 % 5 = c.ip := by rw [hcE]; rfl
        have ep : (q k).2.2 % 3 = c.p := by rw [hcE]; rfl
        have hcb : c.b = 0 := by rw [hcE]; rfl
        have hco : c.ok := by unfold E.ok; rw [← ea, ← eip, ← ep, hcb]; omega
        rw [ea] at m1
        rw [eip] at m2
        rw [ep] at m3
        generalize (q k).1 = q1 at *
        generalize (q k).2.1 = q2 at *
        generalize (q k).2.2 = q3 at *
        replace hcb := hide hcb
        clear hcE ea eip ep r1 r2 r3
        go_wp2_with (first | (refine wpList_built rfl 24 _ rfl (idv c.a 0) (by kernel_rfl) ?_; simp only [Act.put, List.setIfInBounds_toArray, List.set_cons_zero, List.set_cons_succ]) | (refine wpList_store_newAt rfl 24 _ _ rfl (idv c.a 0) (wr.heap.size + 1) (by simp) rfl rfl (by kernel_rfl) (by kernel_rfl) (by kernel_rfl) ?_; simp only [Act.put]))
        generalize hW : (wr.alloc (.cells #[.int .u8 q1, .int .u8 q2, .int .u16 q3] 38)).alloc (.cells (idv c.a 0) 24) = W
        have kW : Kept (fun _ => False) wr W := by rw [← hW]; exact ((Kept.refl _ _).alloc _).alloc _
        have bD : Blk W (wr.heap.size + 1) (idv c.a 0) 24 := by rw [← hW]; exact Blk.new' _ _ (by simp)
        have hWs : W.heap.size = wr.heap.size + 2 := by rw [← hW]; simp
        clear hW d1 d2 d3 m1 m2 m3
        have gr : Gl wr z4 z6 := g.kept lm.kept ⟨by have := g.lt; omega, by have := g.lt; omega, by have := g.lt; omega, by have := g.lt; omega, by have := g.lt; omega⟩
        have gW := gr.mono kW
        replace hWs := hide hWs
        go_cut [14] from 54 to 58 (fun v w' => ∃ bN, v = .pointer (some ⟨bN, 0, none⟩) ∧ Blk w' bN (con (some z4) c.a 0 c.ip c.p) 50 ∧ W.heap.size ≤ bN ∧ Kept (fun _ => False) W w')
        case first =>
          obtain ⟨X, f, hne, hf, hto⟩ := cls (Kept (fun _ => False) W) (World.drew W) (Kept.refl _ _).drew
          have HC := hide (hto _ (Kept.refl _ W).drew)
          have Hto := hide hto
          clear hto
          refine wp_region_float (fun w' => ∃ x, w' = f x) 5 _ [(0, 0), (0, 1), (0, 2), (1, 3), (0, 4), (2, 5), (3, 6)] (by kernel_rfl) rfl rfl (by kernel_rfl) (fun _ _ _ _ _ h => h) ?_
          simp only [pickF, List.getElem?_cons_zero, List.getElem?_cons_succ]
          refine wpF_load_blk HC.out rfl 24 _ rfl (wr.heap.size + 1) 0 20 rfl (fun w' hw' => by obtain ⟨x, rfl⟩ := hw'; exact (hf x).blk bD id) (idv c.a 0) (by kernel_rfl) (by kernel_rfl) (by kernel_rfl) ?_
          iterate 2
            refine wpF_quiet HC.out (fun K hK => ?_)
            go_simp
            refine hK _ ?_
            clear hK K
          refine wpF_fork (fun K hK => ?_) (fun K hK => ?_)
          · go_simp
            refine (zaddr_any c.ip c.p hco.2.2.1.1 hco.2.2.1.2 (some z4) _ (gW.mono (Kept.refl _ _).drew).c0).mono ?_
            rintro e w2 ⟨rfl, k2⟩
            refine hK _ _ (Hto.out _ k2.ofDrew) ?_
            clear hK K
            clear HC
            have HC := hide (Hto.out _ k2.ofDrew)
            refine wpF_built HC.out rfl 50 _ rfl (con (some z4) c.a 0 c.ip c.p) (by kernel_rfl) ?_
            refine wpF_now (fun K hK => ?_)
            go_simp
            refine hK _ _ (Hto.out _ (k2.ofDrew.alloc _)) ?_
            clear hK K
            simp only [toSeq]
            refine gen_seq C0 (by kernel_rfl) (fun w3 k3 b3 _ => ?_)
            have k4 : Kept (fun _ => False) W (w3.setCells w2.heap.size 0 (con (some z4) c.a 0 c.ip c.p).toList) := Kept.setCells _ _ (k2.ofDrew.trans k3) (fun h => absurd k2.ofDrew.size (by omega))
            refine wpSeq_store_blk rfl 50 _ _ rfl (w2.heap.size) 0 (con (some z4) c.a 0 c.ip c.p) rfl rfl b3 (by kernel_rfl) (by kernel_rfl) (by kernel_rfl) (Hto.out _ k4) ?_
            refine wpSeq_nil ?_
            go_wp2_with fail
            go_meet
            case rel => exact ⟨_, rfl, b3.setAll _ (by kernel_rfl), k2.ofDrew.size, k4⟩
          · go_simp
            refine hK _ _ (Hto.out _ ((Kept.refl _ _).drew.alloc _)) ?_
            clear hK K
            simp only [toSeq]
            refine gen_seqD C0 (by kernel_rfl) (fun w3 k3 b3 _ => ?_)
            refine wpSeq_forced (fun K hK => ?_)
            go_simp
            refine (zaddr_any c.ip c.p hco.2.2.1.1 hco.2.2.1.2 (some z4) _ (gW.mono k3).c0).mono ?_
            rintro e w2 ⟨rfl, k2⟩
            have kq := k3.trans k2
            refine hK _ _ (Hto.out _ kq) ?_
            clear hK K
            clear HC
            have HC := hide (Hto.out _ kq)
            refine wpSeq_built HC.out rfl 50 _ rfl (con (some z4) c.a 0 c.ip c.p) (by kernel_rfl) ?_
            have b3 := k2.blk b3 id
            have k4 : Kept (fun _ => False) W (w2.setCells W.heap.size 0 (con (some z4) c.a 0 c.ip c.p).toList) := Kept.setCells _ _ kq (fun h => absurd h (by omega))
            refine wpSeq_store_blk rfl 50 _ _ rfl (W.heap.size) 0 (con (some z4) c.a 0 c.ip c.p) rfl rfl b3 (by kernel_rfl) (by kernel_rfl) (by kernel_rfl) (Hto.out _ k4) ?_
            refine wpSeq_nil ?_
            go_wp2_with fail
            go_meet
            case rel => exact ⟨_, rfl, b3.setAll _ (by kernel_rfl), Nat.le_refl _, k4⟩
        case rest =>
          obtain ⟨bN, rfl, bN1, hbN, kc⟩ := hcut
          have kwc : Kept (fun _ => False) wr wc := kW.trans kc
          have bDc := kc.blk bD id
          have fsc : Fs w.heap.size tb bb (w.heap.size + 1) 1 sf L sv s wc := ⟨kwc.blk lm.fs.bT id, kwc.blk lm.fs.bB id, kwc.blk lm.fs.bC id, kwc.own lm.fs.own (fun _ _ h => h), lm.fs.sk, lm.fs.ok, lm.fs.ge⟩
          have gc := gr.mono kwc
          have hszc : wr.heap.size + 2 ≤ wc.heap.size := by have := hWs.out; have := kc.size; omega
          have hwr : w.heap.size ≤ wr.heap.size := lm.kept.size
          clear bD gW gr kc kW hWs
          go_wp2_with (first | (refine wpList_load_blk rfl 50 _ rfl (bN) 0 24 rfl bN1 (con (some z4) c.a 0 c.ip c.p) (by kernel_rfl) (by kernel_rfl) (by kernel_rfl) ?_; simp only [Act.put, List.setIfInBounds_toArray, List.set_cons_zero, List.set_cons_succ]))
          have hLl : L.length ≤ 256 := by have := lm.le; omega
          have hseen := seen_fill w.heap.size tb bb (w.heap.size + 1) 1 sf L sv s c hco hsf hLl wc gc ⟨by have := g.lt; omega, by have := g.lt; omega, by have := g.lt; omega, by omega⟩ fsc
          rw [hcb.out] at hseen
          refine hseen.mono ?_
          rintro e w2 ⟨L', sv', s', ad, rfl, hstep, fs2, k2⟩
          have ownc := kwc.own lm.own (fun _ _ h => h)
          have hS7 : ∀ {bk : Nat} {cs : Array Value} {t : TypeId}, Blk wc bk cs t → t ≠ 74 → t ≠ 81 → t ≠ 90 → Blk w2 bk cs t := fun hb h1 h2 h3 => k2.blk hb (by
            rintro (h | h | h)
            · exact hb.ne fsc.bT h1 h
            · exact hb.ne fsc.bB h2 h
            · exact own_ne fsc.own hb h3 h)
          have bD2 := hS7 bDc (by decide) (by decide) (by decide)
          have bS2 := hS7 (kwc.blk lm.self id) (by decide) (by decide) (by decide)
          have own2 : w2.ownsRow w.heap.size 54 3 (.slice ma L.length mc) L.length (mflat L) := k2.own ownc (fun qq hqq hh => by
            rcases hh with h | h | h
            · exact own_ne ownc fsc.bT (by decide) (by rw [hqq, h])
            · exact own_ne ownc fsc.bB (by decide) (by rw [hqq, h])
            · exact own_own_ne ownc fsc.own (by decide) hqq h)
          have kw2 : Kept (fun qq => w.heap.size ≤ qq) w w2 := (lm.kept.trans (kwc.mono (by simp))).trans (k2.mono (by
            rintro qq _ (h | h | h)
            · omega
            · omega
            · exact (own_ty fsc.own h).1))
          have hsz2 : wr.heap.size + 2 ≤ w2.heap.size := Nat.le_trans hszc k2.size
          have mok := lm.mok
          have hle := lm.le
          clear hS7 ownc k2 fsc gc bN1 bDc kwc hseen lm
          have fsK : ∀ wz, Kept (fun qq => (Value.slice ma L.length mc).ownBlock = some qq) w2 wz → Fs w.heap.size tb bb (w.heap.size + 1) 1 sf L' sv' s' wz := fun wz h =>
            ⟨h.blk fs2.bT (own_ne own2 fs2.bT (by decide)), h.blk fs2.bB (own_ne own2 fs2.bB (by decide)), h.blk fs2.bC (own_ne own2 fs2.bC (by decide)), h.own fs2.own (fun qq hqq hh => own_own_ne fs2.own own2 (by decide) hqq hh), fs2.sk, fs2.ok, fs2.ge⟩
          have kwK : ∀ wz, Kept (fun qq => (Value.slice ma L.length mc).ownBlock = some qq) w2 wz → Kept (fun qq => w.heap.size ≤ qq) w wz := fun wz h => kw2.trans (h.mono (fun qq _ hh => (own_ty own2 hh).1))
          have bSK : ∀ wz, Kept (fun qq => (Value.slice ma L.length mc).ownBlock = some qq) w2 wz → Blk wz w.heap.size (idv sf 0) 24 := fun wz h => h.blk bS2 (own_ne own2 bS2 (by decide))
          replace fsK := hide fsK
          replace kwK := hide kwK
          replace bSK := hide bSK
          clear kw2 fs2
          have he50 : ∀ w', (Op.equalIn 10000 50 (.agg C0) (.agg C0)).run Ybaz.prog w' = .ok (!false) w' := fun w' => eq50 0 0 0 0 0 0 0 0 none w'
          have he24 : ∀ w', (Op.equalIn 10000 24 (.agg (idv c.a 0)) (.agg (idv sf 0))).run Ybaz.prog w' = .ok (c.hit sf 0) w' := fun w' => (eq24 9998 c.a 0 sf 0 w').trans (by simp [E.hit, hcb.out])
          have lmN : ∀ wz mv', Kept (fun qq => (Value.slice ma L.length mc).ownBlock = some qq) w2 wz → wz.ownsRow w.heap.size 54 3 mv' L'.length (mflat L') → MOk L' → L'.length ≤ k + 1 → Lm w w.heap.size tb bb sf (k + 1) L' sv' mv' s' wz :=
            fun wz mv' h o m l => ⟨fsK.out wz h, o, bSK.out wz h, m, l, kwK.out wz h⟩
          replace lmN := hide lmN
          clear fsK kwK bSK
          cases hself : c.hit sf 0 with
          | true =>
            rw [hself] at he24
            obtain ⟨rfl, rfl⟩ : L' = L ∧ ad = false := by
              rcases hstep with ⟨_, h1, h2⟩ | ⟨h, _⟩ | ⟨h, _⟩
              · exact ⟨h1, h2⟩
              · rw [hself] at h; cases h
              · rw [hself] at h; cases h
            go_wp2_with (first | (refine wpList_store_new rfl 50 _ _ rfl (C0) rfl rfl (by kernel_rfl) (by kernel_rfl) (by kernel_rfl) ?_; simp only [Act.put]) | (refine wpList_load_blk rfl 50 _ rfl (w2.heap.size) 0 24 rfl (Blk.new w2 C0 50) (C0) (by kernel_rfl) (by kernel_rfl) (by kernel_rfl) ?_; simp only [Act.put, List.setIfInBounds_toArray, List.set_cons_zero, List.set_cons_succ]) | (refine wpList_built rfl 50 _ rfl (C0) (by kernel_rfl) ?_; simp only [Act.put, List.setIfInBounds_toArray, List.set_cons_zero, List.set_cons_succ]) | (refine wpList_neqV rfl 50 _ _ _ rfl (C0) (C0) rfl rfl (by kernel_rfl) false (he50 _) ?_; simp only [Act.put, List.setIfInBounds_toArray, List.set_cons_zero, List.set_cons_succ]) | (refine wpList_load_blk rfl 24 _ rfl (wr.heap.size + 1) 0 20 rfl (bD2.alloc _) (idv c.a 0) (by kernel_rfl) (by kernel_rfl) (by kernel_rfl) ?_; simp only [Act.put, List.setIfInBounds_toArray, List.set_cons_zero, List.set_cons_succ]) | (refine wpList_load_blk rfl 24 _ rfl (w.heap.size) 0 20 rfl (bS2.alloc _) (idv sf 0) (by kernel_rfl) (by kernel_rfl) (by kernel_rfl) ?_; simp only [Act.put, List.setIfInBounds_toArray, List.set_cons_zero, List.set_cons_succ]) | (refine wpList_neqV rfl 24 _ _ _ rfl (idv c.a 0) (idv sf 0) rfl rfl (by kernel_rfl) false (he24 _) ?_; simp only [Act.put, List.setIfInBounds_toArray, List.set_cons_zero, List.set_cons_succ]))
            go_roundw
            case rel => exact ⟨k + 1, L', sv', s', by go_num, by omega, lmN.out _ _ ((Kept.refl _ _).alloc _) (((Kept.refl (fun _ => False) w2).alloc _).own own2 (fun _ _ h => h)) mok (by omega)⟩
            case measure => simp [intOf]; omega
          | false =>
            rw [hself] at he24
            go_wp2_with (first | (refine wpList_store_new rfl 50 _ _ rfl (C0) rfl rfl (by kernel_rfl) (by kernel_rfl) (by kernel_rfl) ?_; simp only [Act.put]) | (refine wpList_load_blk rfl 50 _ rfl (w2.heap.size) 0 24 rfl (Blk.new w2 C0 50) (C0) (by kernel_rfl) (by kernel_rfl) (by kernel_rfl) ?_; simp only [Act.put, List.setIfInBounds_toArray, List.set_cons_zero, List.set_cons_succ]) | (refine wpList_built rfl 50 _ rfl (C0) (by kernel_rfl) ?_; simp only [Act.put, List.setIfInBounds_toArray, List.set_cons_zero, List.set_cons_succ]) | (refine wpList_neqV rfl 50 _ _ _ rfl (C0) (C0) rfl rfl (by kernel_rfl) false (he50 _) ?_; simp only [Act.put, List.setIfInBounds_toArray, List.set_cons_zero, List.set_cons_succ]) | (refine wpList_load_blk rfl 24 _ rfl (wr.heap.size + 1) 0 20 rfl (bD2.alloc _) (idv c.a 0) (by kernel_rfl) (by kernel_rfl) (by kernel_rfl) ?_; simp only [Act.put, List.setIfInBounds_toArray, List.set_cons_zero, List.set_cons_succ]) | (refine wpList_load_blk rfl 24 _ rfl (w.heap.size) 0 20 rfl (bS2.alloc _) (idv sf 0) (by kernel_rfl) (by kernel_rfl) (by kernel_rfl) ?_; simp only [Act.put, List.setIfInBounds_toArray, List.set_cons_zero, List.set_cons_succ]) | (refine wpList_neqV rfl 24 _ _ _ rfl (idv c.a 0) (idv sf 0) rfl rfl (by kernel_rfl) true (he24 _) ?_; simp only [Act.put, List.setIfInBounds_toArray, List.set_cons_zero, List.set_cons_succ]))
            clear he24 he50
            generalize hX : w2.alloc (.cells C0 50) = X
            have kX : Kept (fun _ => False) w2 X := by rw [← hX]; exact (Kept.refl _ _).alloc _
            have bDX := kX.blk bD2 id
            have ownX := kX.own own2 (fun _ _ h => h)
            clear hX bD2 bS2
            replace kX := hide kX
            go_loopw [77, 19] (fun jv av wr => ∃ (j : Nat) (t : Int), jv = .int .i64 j ∧ av = .int .i64 t ∧ j ≤ L.length ∧ At L c.a j t ∧ Kept (fun _ => False) X wr) (fun jv _ _ => L.length - (intOf jv).toNat)
            case atStart => exact ⟨0, -1, rfl, rfl, Nat.zero_le _, .inl ⟨rfl, fun i e h => absurd h (by omega)⟩, Kept.refl _ _⟩
            case round =>
              obtain ⟨j, t, rfl, rfl, hj, hAt, kr⟩ := hrel
              by_cases hjl : j < L.length
              · have hji : (j : Int) < L.length := by omega
                obtain ⟨gM, rfl⟩ := hma (by omega)
                obtain ⟨x, hx⟩ : ∃ x, L[j]? = some x := ⟨L[j]'hjl, List.getElem?_eq_getElem hjl⟩
                have hcm := own_cell (kr.own ownX (fun _ _ h => h)) (mflat_at L j x hx).1
                have bDr := kr.blk bDX id
                have hcd : wr.cell? ⟨_, 0, none⟩ = some (.int .u8 c.a) := bDr.cell 0
                clear bDr
                go_wp2_with fail
                obtain ⟨X, f, hne, hf, hto⟩ := cls (Kept (fun _ => False) wr) (World.drew wr) (Kept.refl _ _).drew
                have HC := hide (hto _ (Kept.refl _ wr).drew)
                have Hto := hide hto
                clear hto
                have l1 : ∀ x', (f x').cell? ⟨gM, j * 3, none⟩ = some (.int .u8 x.a) := fun x' => (hf x').cell0 hcm
                have l2 : ∀ x', (f x').cell? ⟨_, 0, none⟩ = some (.int .u8 c.a) := fun x' => (hf x').cell0 hcd
                by_cases hxa : x.a = c.a
                · have hxb : (x.a == c.a) = true := by simp [hxa]
                  refine wp_region_seq (fun w' => ∃ x, w' = f x) [(true, 0), (true, 1), (true, 2), (true, 3), (true, 4), (true, 5), (true, 6), (true, 7)] (by kernel_rfl) (by kernel_rfl) (fun _ _ _ _ _ h => h) ?_
                  simp only [pickS, List.getElem?_cons_zero, List.getElem?_cons_succ]
                  iterate 8
                    refine wpSeq_quiet HC.out (fun K hK => ?_)
                    go_simp
                    refine hK _ ?_
                    clear hK K
                  refine wpSeq_nil ?_
                  clear l1 l2 Hto HC hf hne f X
                  go_wp2
                  go_roundw
                  case rel => exact ⟨j + 1, j, by go_num, rfl, by omega, .inr ⟨j, x, rfl, by omega, hx, hxa⟩, kr.drew⟩
                  case measure => simp [intOf]; omega
                · have hxb : (x.a == c.a) = false := by simp [hxa]
                  refine wp_region_seq (fun w' => ∃ x, w' = f x) [(true, 0), (true, 1), (true, 2), (true, 3), (true, 4), (true, 5), (true, 6), (true, 7)] (by kernel_rfl) (by kernel_rfl) (fun _ _ _ _ _ h => h) ?_
                  simp only [pickS, List.getElem?_cons_zero, List.getElem?_cons_succ]
                  iterate 8
                    refine wpSeq_quiet HC.out (fun K hK => ?_)
                    go_simp
                    refine hK _ ?_
                    clear hK K
                  refine wpSeq_nil ?_
                  clear l1 l2 Hto HC hf hne f X
                  go_wp2
                  go_roundw
                  case rel =>
                    refine ⟨j + 1, t, by go_num, rfl, by omega, ?_, kr.drew⟩
                    rcases hAt with ⟨h1, h2⟩ | ⟨i, e, h1, h2, h3, h4⟩
                    · refine .inl ⟨h1, fun i e hi he => ?_⟩
                      rcases Nat.lt_or_ge i j with h | h
                      · exact h2 i e h he
                      · have : i = j := by omega
                        subst this
                        rw [hx] at he; cases he; exact hxa
                    · exact .inr ⟨i, e, h1, by omega, h3, h4⟩
                  case measure => simp [intOf]; omega
              · have hjn : j = L.length := by omega
                have kXr := hide (kX.out.trans kr)
                have ownr := kr.own ownX (fun _ _ h => h)
                have bDr := kr.blk bDX id
                have hnl : ¬ ((j : Int) < L.length) := by omega
                clear ownX bDX kX kr
                rcases hAt with ⟨rfl, hno⟩ | ⟨i, e, rfl, hi, hx, hea⟩
                · have hnone : ∀ e ∈ L, e.hit c.a c.b = false ∧ e.a ≠ c.a := by
                    intro e he
                    obtain ⟨i, hi, rfl⟩ := List.getElem_of_mem he
                    have := hno i _ (by omega) (List.getElem?_eq_getElem hi)
                    exact ⟨by simp [E.hit, this], this⟩
                  have hst2 : (L.any fun x => x.ip == c.ip) = true ∧ L' = L ∧ ad = false ∨ (L.any fun x => x.ip == c.ip) = false ∧ L' = L ++ [c] ∧ ad = true := by
                    rcases hstep with ⟨h, _⟩ | ⟨_, _, j', x', hx', hh', _, _⟩ | ⟨_, _, h⟩
                    · rw [hself] at h; cases h
                    · have := (hnone x' (List.mem_of_getElem? hx')).1
                      rw [hh'] at this; cases this
                    · exact h
                  clear hno hstep
                  replace hjn := hide hjn
                  go_wp2_with fail
                  go_loopw [126, 22] (fun jv hv w3 => ∃ (j : Nat) (hd : Bool), jv = .int .i64 j ∧ hv = .bool hd ∧ j ≤ L.length ∧ Hid (hd = (L.take j).any (fun x => x.ip == c.ip)) ∧ Kept (fun _ => False) wr w3) (fun jv _ _ => L.length - (intOf jv).toNat)
                  case atStart => exact ⟨0, false, rfl, rfl, Nat.zero_le _, rfl, Kept.refl _ _⟩
                  case round =>
                    obtain ⟨j3, hd, rfl, rfl, hj3, hhd, k3⟩ := hrel
                    by_cases hjl3 : j3 < L.length
                    · have hji3 : (j3 : Int) < L.length := by omega
                      obtain ⟨gM, rfl⟩ := hma (by omega)
                      obtain ⟨x, hx⟩ : ∃ x, L[j3]? = some x := ⟨L[j3]'hjl3, List.getElem?_eq_getElem hjl3⟩
                      have hcm := k3.cell0 (own_cell ownr (mflat_at L j3 x hx).2.1)
                      have htk : (L.take (j3 + 1)).any (fun x => x.ip == c.ip) = ((L.take j3).any (fun x => x.ip == c.ip) || x.ip == c.ip) := by
                        rw [List.take_add_one, hx]; simp [List.any_append]
                      replace htk := hide htk
                      cases hxb : (x.ip == c.ip) with
                      | true =>
                        go_wp2
                        go_roundw
                        case rel => exact ⟨j3 + 1, true, by go_num, rfl, by omega, (by show true = _; rw [htk.out, hxb]; simp), k3⟩
                        case measure => simp [intOf]; omega
                      | false =>
                        go_wp2
                        go_roundw
                        case rel => exact ⟨j3 + 1, hd, by go_num, rfl, by omega, (by show hd = _; rw [htk.out, hxb, ← hhd.out]; simp), k3⟩
                        case measure => simp [intOf]; omega
                    · have hj3n : j3 = L.length := by omega
                      have hnl3 : ¬ ((j3 : Int) < L.length) := by omega
                      have hhd2 : hd = L.any (fun x => x.ip == c.ip) := by have := hhd.out; rw [hj3n, List.take_length] at this; exact this
                      have kX3 := hide (kXr.out.trans k3)
                      have own3 := k3.own ownr (fun _ _ h => h)
                      have bD3 := k3.blk bDr id
                      clear hj3n hhd kXr ownr bDr k3
                      rcases hst2 with ⟨hany, rfl, rfl⟩ | ⟨hany, rfl, rfl⟩
                      · rw [hany] at hhd2
                        subst hhd2
                        go_wp2
                        go_roundw
                        case rel => exact ⟨k + 1, L', sv', s', by go_num, by omega, lmN.out _ _ (kX3.out.mono (by simp)) own3 mok (by omega)⟩
                        case measure => simp [intOf]; omega
                      · rw [hany] at hhd2
                        subst hhd2
                        have hd0 : wr.cell? ⟨_, 0, none⟩ = some (.int .u8 c.a) := bD3.cell 0
                        obtain ⟨i54, hi54, hz0, hz1, hz2⟩ := info_parts info54
                        have own4 : Hid ((wr.alloc (.cells #[.int .u8 c.a, .int .u8 c.ip, .int .u16 c.p] 54)).ownsRow w.heap.size 54 3 (.slice ma L.length mc) L.length (mflat L)) := hide (((Kept.refl (fun _ => False) wr).alloc _).own own3 (fun _ _ h => h))
                        have hnw : Hid (∀ (j : Nat) (u : Value), [Value.int .u8 c.a, .int .u8 c.ip, .int .u16 c.p][j]? = some u → (wr.alloc (.cells #[.int .u8 c.a, .int .u8 c.ip, .int .u16 c.p] 54)).cell? ((⟨wr.heap.size, 0, none⟩ : Addr).add j) = some u) := hide (fun j u hu => by rw [Addr.add_mid, Nat.zero_add, (Blk.new wr #[.int .u8 c.a, .int .u8 c.ip, .int .u16 c.p] 54).cell]; simpa using hu)
                        have hb1 : L.length + 1 ≤ maxLen := by unfold maxLen; omega
                        have hb2 : (L.length + 1) * 4 ≤ 140737488355328 := by omega
                        have hb3 : w.heap.size ≤ (wr.alloc (.cells #[.int .u8 c.a, .int .u8 c.ip, .int .u16 c.p] 54)).heap.size := by have := kX3.out.size; simp; omega
                        go_wp2_with (first | (at_builtin; refine wpList_append_lies _ rfl _ _ 35 rfl w.heap.size 54 i54 _ 3 4 Ybaz.underlying35 hi54 hz0 hz1 hz2 rfl (by decide) _ L.length _ rfl own4.out ⟨wr.heap.size, 0, none⟩ 1 1 [.int .u8 c.a, .int .u8 c.ip, .int .u16 c.p] rfl rfl hnw.out (by simp [Value.oneCell']) (by decide) hb1 hb2 hb3 _ rfl ?_))
                        intro gN cN w5 own5 grow5 hat5 hlt5
                        have k5 : Kept (fun qq => (Value.slice ma L.length mc).ownBlock = some qq) wr w5 := ((Kept.refl _ _).alloc _).grown grow5 (fun _ _ e => e)
                        have k25 := hide ((kX3.out.mono (T := fun qq => (Value.slice ma L.length mc).ownBlock = some qq) (by simp)).trans k5)
                        have hmf : mflat (L ++ [c]) = mflat L ++ [.int .u8 c.a, .int .u8 c.ip, .int .u16 c.p] := by rw [mflat_append]; rfl
                        clear k5 grow5 hat5 hlt5 own4 hnw
                        go_wp2
                        go_roundw
                        case rel =>
                          refine ⟨k + 1, L ++ [c], sv', s', by go_num, by omega, lmN.out _ _ k25.out ?_ (mok.snoc hcb.out (fun e he => (hnone e he).1)) (by simp; omega)⟩
                          rw [hmf, List.length_append]
                          exact own5
                        case measure => simp [intOf]; omega
                · have hil : i < L.length := by omega
                  have hii : (i : Int) < L.length := by omega
                  obtain ⟨gM, rfl⟩ := hma (by omega)
                  have hcm := mflat_at L i e hx
                  have m1 := own_cell ownr hcm.2.1
                  have m2 := own_cell ownr hcm.2.2
                  have m0 := own_cell ownr hcm.1
                  have hst2 : ad = false ∧ ((e.ip == c.ip && e.p == c.p) = true ∧ L' = L.take i ++ L.drop (i + 1) ++ [e] ∨ (e.ip == c.ip && e.p == c.p) = false ∧ L' = L) := by
                    rcases hstep with ⟨h, _⟩ | ⟨_, h2, j', x', hx', hh', _, h5⟩ | ⟨_, h, _⟩
                    · rw [hself] at h; cases h
                    · have hxa' : x'.a = e.a := by simp [E.hit] at hh'; omega
                      have hij := mok.uniq hx' hx hxa'
                      subst hij
                      rw [hx] at hx'; cases hx'
                      exact ⟨h2, h5⟩
                    · have := h e (List.mem_of_getElem? hx)
                      simp [E.hit, hea, mok.flat0 e (List.mem_of_getElem? hx), hcb.out] at this
                  obtain ⟨rfl, hst3⟩ := hst2
                  replace hea := hide hea
                  rcases hst3 with ⟨hab, rfl⟩ | ⟨hab, rfl⟩
                  · have hab1 : (e.ip == c.ip) = true := by simp at hab; simp [hab.1]
                    have hab2 : (e.p == c.p) = true := by simp at hab; simp [hab.2]
                    go_wp2_with fail
                    generalize hY : wr.alloc (.cells #[.int .u8 e.a, .int .u8 e.ip, .int .u16 e.p] 54) = Y
                    have kY : Kept (fun _ => False) wr Y := by rw [← hY]; exact (Kept.refl _ _).alloc _
                    have bE : Blk Y wr.heap.size #[.int .u8 e.a, .int .u8 e.ip, .int .u16 e.p] 54 := by rw [← hY]; exact Blk.new _ _ _
                    have ownY := kY.own ownr (fun _ _ h => h)
                    have kXY := hide (kXr.out.trans kY)
                    have hgw : gM < wr.heap.size := by
                      rcases ownr.2 with ⟨h, _⟩ | ⟨g2, c2, cu, h, _, hb, _⟩
                      · cases h
                      · cases h; exact (Array.getElem?_eq_some_iff.1 hb).1
                    obtain ⟨cur, bG, hcsz, hncap, htk⟩ := own_mblk ownY
                    clear hY kY ownr kXr m0 m1 m2 hcm bDr
                    have hic : (i : Int) ≤ mc := by omega
                    have hj3 : (i : Int) + 1 ≤ L.length := by omega
                    have hj4 : 0 ≤ (i : Int) + 1 := by omega
                    have hwr1 : IntKind.i64.wrap ((i : Int) + 1) = ((i + 1 : Nat) : Int) := by
                      simp [IntKind.wrap, IntKind.bits, IntKind.signed]; omega
                    obtain ⟨A, hA, hA2⟩ : ∃ A : Addr, (if mc = i + 1 then some (⟨gM, 0, none⟩ : Addr) else some ⟨gM, (i + 1) * 3, none⟩) = some A ∧ (i + 1 < L.length → A = ⟨gM, (i + 1) * 3, none⟩) := by
                      by_cases hce : mc = i + 1
                      · exact ⟨_, if_pos hce, fun h => absurd h (by omega)⟩
                      · exact ⟨_, if_neg hce, fun _ => rfl⟩
                    have hdl : (mflat (L.drop (i + 1))).length = (L.length - (i + 1)) * 3 := by rw [mflat_length, List.length_drop]
                    have hcs : L.length * 3 ≤ cur.size := by rw [hcsz]; exact Nat.mul_le_mul_right _ hncap
                    have hap : (Builtin.append_ #[35, 35] 35 #[.slice (some ⟨gM, 0, none⟩) i mc, .slice (some A) (L.length - (i + 1)) (mc - (i + 1))]).run Ybaz.prog Y.drew = .ok (.slice (some ⟨gM, 0, none⟩) (L.length - 1) mc) (Y.drew.setCells gM (i * 3) (mflat (L.drop (i + 1)))) := by
                      rw [show L.length - 1 = i + (L.length - (i + 1)) by omega]
                      refine run_append_place (P := Ybaz.prog) Y.drew 35 35 54 3 gM i mc A (L.length - (i + 1)) (mc - (i + 1)) (mflat (L.drop (i + 1))) (by kernel_rfl) (by kernel_rfl) (by omega) hdl ?_ ?_ ?_ (mflat_one _)
                      · intro j' v hv
                        have hil' : j' < (mflat (L.drop (i + 1))).length := (List.getElem?_eq_some_iff.1 hv).1
                        rw [hA2 (by omega), Addr.add_mid, bG.drew.cell, ← Array.getElem?_toList]
                        have h1 : mflat L = mflat (L.take (i + 1)) ++ mflat (L.drop (i + 1)) := by rw [← mflat_append, List.take_append_drop]
                        have h2 : (mflat (L.take (i + 1))).length = (i + 1) * 3 := by rw [mflat_length, List.length_take]; congr 1; omega
                        have h3 : (mflat L)[(i + 1) * 3 + j']? = some v := by rw [h1, List.getElem?_append_right (by omega), h2, Nat.add_sub_cancel_left]; exact hv
                        rw [← htk, List.getElem?_take] at h3
                        split at h3
                        · exact h3
                        · cases h3
                      · intro j' hj'
                        rw [bG.drew.cell, Array.getElem?_eq_getElem (by omega)]; rfl
                      · intro j' hj'; exact bG.drew.frozen _
                    obtain ⟨X, f, hne, hf, hto⟩ := cls (Kept (fun qq => qq = gM) Y) (World.drew Y) (Kept.refl _ _).drew
                    have HC := hide (hto _ (Kept.refl _ Y).drew)
                    have Hto := hide hto
                    clear hto
                    refine wp_region_seq (fun w' => ∃ x, w' = f x) [(true, 0), (true, 1), (true, 2), (true, 3), (true, 4), (true, 5), (true, 6), (false, 7), (true, 8)] (by kernel_rfl) (by kernel_rfl) (fun _ _ _ _ _ h => h) ?_
                    simp only [pickS, List.getElem?_cons_zero, List.getElem?_cons_succ]
                    iterate 7
                      refine wpSeq_quiet HC.out (fun K hK => ?_)
                      go_simp
                      refine hK _ ?_
                      clear hK K
                    refine wpSeq_op rfl (fun K hK => ?_)
                    refine wp_append_run _ _ 35 rfl _ _ _ _ rfl rfl hap ?_
                    have kc : Kept (fun qq => qq = gM) Y (Y.drew.setCells gM (i * 3) (mflat (L.drop (i + 1)))) := Kept.setCells _ _ (Kept.refl _ _).drew (fun _ => rfl)
                    refine hK _ _ (Hto.out _ kc) ?_
                    clear hK K
                    clear HC
                    have HC := hide (Hto.out _ kc)
                    iterate 1
                      refine wpSeq_quiet HC.out (fun K hK => ?_)
                      go_simp
                      refine hK _ ?_
                      clear hK K
                    refine wpSeq_nil ?_
                    clear  Hto HC hf hne f X
                    generalize hU : Y.drew.setCells gM (i * 3) (mflat (L.drop (i + 1))) = U
                    rw [hU] at kc
                    have ownU := own_cut (w1 := U) ownY hx (fun cu h => by rw [← hU]; exact h.drew.setCells _ _)
                    have bEU := kc.blk bE (by omega)
                    have kXU : Hid (Kept (fun qq => (Value.slice (some ⟨gM, 0, none⟩) L.length mc).ownBlock = some qq) w2 U) := hide ((kXY.out.mono (by simp)).trans (kc.mono (fun qq _ h => by rw [h]; rfl)))
                    have e0 : U.cell? ⟨wr.heap.size, 0, none⟩ = some (.int .u8 e.a) := bEU.cell 0
                    have e1 : U.cell? ⟨wr.heap.size, 1, none⟩ = some (.int .u8 e.ip) := bEU.cell 1
                    have e2 : U.cell? ⟨wr.heap.size, 2, none⟩ = some (.int .u16 e.p) := bEU.cell 2
                    clear hU kc hap hA hA2 bG ownY bE kXY htk
                    obtain ⟨i54, hi54, hz0, hz1, hz2⟩ := info_parts info54
                    have own4 : Hid ((U.alloc (.cells #[.int .u8 e.a, .int .u8 e.ip, .int .u16 e.p] 54)).ownsRow w.heap.size 54 3 (.slice (some ⟨gM, 0, none⟩) (L.length - 1) mc) (L.length - 1) (mflat (L.take i ++ L.drop (i + 1)))) := hide (((Kept.refl (fun _ => False) U).alloc _).own ownU (fun _ _ h => h))
                    have hnw : Hid (∀ (j : Nat) (u : Value), [Value.int .u8 e.a, .int .u8 e.ip, .int .u16 e.p][j]? = some u → (U.alloc (.cells #[.int .u8 e.a, .int .u8 e.ip, .int .u16 e.p] 54)).cell? ((⟨U.heap.size, 0, none⟩ : Addr).add j) = some u) := hide (fun j u hu => by rw [Addr.add_mid, Nat.zero_add, (Blk.new U #[.int .u8 e.a, .int .u8 e.ip, .int .u16 e.p] 54).cell]; simpa using hu)
                    have hb1 : L.length - 1 + 1 ≤ maxLen := by unfold maxLen; omega
                    have hb2 : (L.length - 1 + 1) * 4 ≤ 140737488355328 := by omega
                    have hb3 : w.heap.size ≤ (U.alloc (.cells #[.int .u8 e.a, .int .u8 e.ip, .int .u16 e.p] 54)).heap.size := by have := kXU.out.size; simp; omega
                    go_wp2_with (first | (at_builtin; refine wpList_append_lies _ rfl _ _ 35 rfl w.heap.size 54 i54 _ 3 4 Ybaz.underlying35 hi54 hz0 hz1 hz2 rfl (by decide) _ (L.length - 1) _ rfl own4.out ⟨U.heap.size, 0, none⟩ 1 1 [.int .u8 e.a, .int .u8 e.ip, .int .u16 e.p] rfl rfl hnw.out (by simp [Value.oneCell']) (by decide) hb1 hb2 hb3 _ rfl ?_))
                    intro gN cN w5 own5 grow5 hat5 hlt5
                    have k5 : Kept (fun qq => (Value.slice (some ⟨gM, 0, none⟩) L.length mc).ownBlock = some qq) U w5 := ((Kept.refl _ _).alloc _).grown grow5 (fun _ _ e => e)
                    have k25 := hide (kXU.out.trans k5)
                    have hmf : mflat (L.take i ++ L.drop (i + 1) ++ [e]) = mflat (L.take i ++ L.drop (i + 1)) ++ [.int .u8 e.a, .int .u8 e.ip, .int .u16 e.p] := by rw [mflat_append]; rfl
                    have hll : (L.take i ++ L.drop (i + 1) ++ [e]).length = L.length - 1 + 1 := by simp; omega
                    clear k5 grow5 hat5 hlt5 own4 hnw
                    go_wp2
                    go_roundw
                    case rel =>
                      refine ⟨k + 1, _, sv', s', by go_num, by omega, lmN.out _ _ k25.out ?_ (mok.moved hx) (by omega)⟩
                      rw [hmf, hll]
                      exact own5
                    case measure => simp [intOf]; omega
                  · cases hip : (e.ip == c.ip) with
                    | false =>
                      go_wp2
                      go_roundw
                      case rel => exact ⟨k + 1, L', sv', s', by go_num, by omega, lmN.out _ _ (kXr.out.mono (by simp)) ownr mok (by omega)⟩
                      case measure => simp [intOf]; omega
                    | true =>
                      have hpp : (e.p == c.p) = false := by rw [hip] at hab; simpa using hab
                      go_wp2
                      go_roundw
                      case rel => exact ⟨k + 1, L', sv', s', by go_num, by omega, lmN.out _ _ (kXr.out.mono (by simp)) ownr mok (by omega)⟩
                      case measure => simp [intOf]; omega
      · have hkn : k = len := by omega
        have hnl : ¬ ((k : Int) < len) := by omega
        have hgl := g.lt
        have gr : Gl wr z4 z6 := g.kept lm.kept ⟨by omega, by omega, by omega, by omega, by omega⟩
        obtain ⟨sa, scap, rfl, _⟩ := own_form lm.fs.own
        have hLl : L.length ≤ 256 := by have := lm.le; omega
        go_wp2_with fail
        refine (contacts_any w.heap.size tb bb L false sa L.length scap 1 none sf 0 257 _ _ _ s wr gr ⟨by omega, by omega, by omega, by omega, by omega⟩ (by omega) lm.fs.ok lm.fs.bT lm.fs.bB lm.fs.own).mono ?_
        rintro e w2 ⟨v, rfl, oC, k2⟩
        obtain ⟨va, vc, rfl, hva⟩ := own_form oC
        have own2 := k2.own lm.own (fun qq hqq hh => own_ne lm.own lm.fs.bT (by decide) (by rw [hqq, hh]))
        have g2 : Gl w2 z4 z6 := gr.kept k2 ⟨by omega, by omega, by omega, by omega, by omega⟩
        have kw2 := hide (lm.kept.trans (k2.mono (fun qq _ h => by omega)))
        have hb0 := lm.mok.flat0
        have hoks := lm.fs.ok
        clear lm gr k2 hkn
        go_wp2_with fail
        go_loopw [160] (fun jv w3 => ∃ (j : Nat), jv = .int .i64 j ∧ j ≤ L.length ∧ Kept (fun _ => False) w2 w3) (fun jv _ => L.length - (intOf jv).toNat)
        case atStart => exact ⟨0, rfl, Nat.zero_le _, Kept.refl _ _⟩
        case round =>
          obtain ⟨j, rfl, hj, k3⟩ := hrel
          by_cases hjl : j < L.length
          · have hji : (j : Int) < L.length := by omega
            obtain ⟨gV, rfl⟩ := hva (by omega)
            obtain ⟨gM, rfl⟩ := hma (by omega)
            obtain ⟨x, hx⟩ : ∃ x, L[j]? = some x := ⟨L[j]'hjl, List.getElem?_eq_getElem hjl⟩
            obtain ⟨cur, bV, hext⟩ := own_cblk rfl (k3.own oC (fun _ _ h => h))
            have hcut := hext j x hx
            have hcm := mflat_at L j x hx
            have m0 := k3.cell0 (own_cell own2 hcm.1)
            have m1 := k3.cell0 (own_cell own2 hcm.2.1)
            have m2 := k3.cell0 (own_cell own2 hcm.2.2)
            have hxo := hoks x (List.mem_of_getElem? hx)
            have hxb := hide (hb0 x (List.mem_of_getElem? hx))
            have g3 := g2.mono k3
            clear hext hcm
            go_wp2_with fail
            have he : ∀ w', (Op.equalIn 10000 50 (.agg (x.c z4)) (.agg (con (some z4) x.a 0 x.ip x.p))).run Ybaz.prog w' = .ok true w' := fun w' => by
              rw [E.c, hxb.out, con_eq, eq50]; simp
            obtain ⟨X, f, hne, hf, hto⟩ := cls (Kept (fun _ => False) wr) (World.drew wr) (Kept.refl _ _).drew
            have HC := hide (hto _ (Kept.refl _ wr).drew)
            have Hto := hide hto
            clear hto
            have l0 : ∀ x', (f x').cell? ⟨gM, j * 3, none⟩ = some (.int .u8 x.a) := fun x' => (hf x').cell0 m0
            have l1 : ∀ x', (f x').cell? ⟨gM, j * 3 + 1, none⟩ = some (.int .u8 x.ip) := fun x' => (hf x').cell0 m1
            have l2 : ∀ x', (f x').cell? ⟨gM, j * 3 + 2, none⟩ = some (.int .u16 x.p) := fun x' => (hf x').cell0 m2
            refine wp_region_seq (fun w' => ∃ x, w' = f x) [(true, 0), (true, 1), (true, 2), (true, 3), (true, 4), (true, 5), (true, 6), (true, 7), (true, 8), (true, 9), (true, 10), (true, 11), (true, 12), (true, 13), (true, 14), (true, 15), (true, 16), (true, 17), (true, 18), (true, 19), (false, 20), (true, 21), (true, 22)] (by kernel_rfl) (by kernel_rfl) (fun _ _ _ _ _ h => h) ?_
            simp only [pickS, List.getElem?_cons_zero, List.getElem?_cons_succ]
            iterate 3
              refine wpSeq_quiet HC.out (fun K hK => ?_)
              go_simp
              refine hK _ ?_
              clear hK K
            refine wpSeq_load_blk HC.out rfl 50 _ rfl gV (j * 24) 24 rfl (fun w' hw' => by obtain ⟨x', rfl⟩ := hw'; exact (hf x').blk bV id) (x.c z4) hcut (by kernel_rfl) (by kernel_rfl) ?_
            iterate 5
              refine wpSeq_quiet HC.out (fun K hK => ?_)
              go_simp
              refine hK _ ?_
              clear hK K
            refine wpSeq_built HC.out rfl 24 _ rfl (idv x.a 0) (by kernel_rfl) ?_
            iterate 10
              refine wpSeq_quiet HC.out (fun K hK => ?_)
              go_simp
              refine hK _ ?_
              clear hK K
            refine wpSeq_forced (fun K hK => ?_)
            go_simp
            refine (zaddr_any x.ip x.p hxo.2.2.1.1 hxo.2.2.1.2 (some z4) _ (g3.mono (Kept.refl _ _).drew).c0).mono ?_
            rintro e w4 ⟨rfl, k4⟩
            refine hK _ _ (Hto.out _ k4.ofDrew) ?_
            clear hK K
            clear HC
            have HC := hide (Hto.out _ k4.ofDrew)
            refine wpSeq_built HC.out rfl 50 _ rfl (con (some z4) x.a 0 x.ip x.p) (by kernel_rfl) ?_
            refine wpSeq_neq HC.out rfl 50 _ _ _ rfl (x.c z4) (con (some z4) x.a 0 x.ip x.p) rfl rfl (by kernel_rfl) true he ?_
            refine wpSeq_nil ?_
            clear l0 l1 l2 Hto HC hf hne f X
            simp only [Bool.not_true]
            have k34 := hide (k3.trans k4.ofDrew)
            clear k3 k4 bV m0 m1 m2 g3 hcut he
            go_wp2
            go_roundw
            case rel => exact ⟨j + 1, by go_num, by omega, k34.out⟩
            case measure => simp [intOf]; omega
          · have hjn : ¬ ((j : Int) < L.length) := by omega
            have hjn2 : j = L.length := by omega
            have kfin := hide (kw2.out.trans (k3.mono (T := fun qq => w.heap.size ≤ qq) (by simp)))
            clear k3 kw2 hjn2
            go_wp2
            go_ret
            exact ⟨rfl, kfin.out.below (Nat.le_refl _) (fun qq hqq hh => by omega)⟩
end Go.Proofs.YbulkdbdsGreatDoor
