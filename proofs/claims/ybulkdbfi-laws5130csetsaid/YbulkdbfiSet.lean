import Derived.Test.YbulkdbfiKeys
namespace Go.Proofs.Ybulkdbfi
open Go.RowKit Go.HeadTail

attribute [local go_sem] yields yUpon

def jar (jv : Value) (mb : Nat) : Array Value := #[.string ⟨#[]⟩, .pointer none, .nilFunc, .int .i32 0, .int .u32 0, jv, .map (some mb), .bool false]

theorem map_ne {w : World} {mb n : Nat} {D : DataW Unit} (h : w.ownsMap Yba.prog 43 (RBP Yba.prog) mb n D) {b : Nat} {cs : Array Value} {t : TypeId} (hb : Blk w b cs t) : b ≠ mb := by
  rintro rfl
  obtain ⟨es, clock, h1, _⟩ := h
  have := h1.symm.trans hb
  simp at this
theorem map_ne_own {w : World} {mb n : Nat} {D : DataW Unit} (h : w.ownsMap Yba.prog 43 (RBP Yba.prog) mb n D) {base : Nat} {e : TypeId} {size : Nat} {v : Value} {m : Nat} {xs : List Value} (ho : w.ownsRow base e size v m xs) : v.ownBlock ≠ some mb := fun hv => by
  obtain ⟨_, cs, hcs⟩ := own_ty ho hv
  exact map_ne h hcs rfl
theorem Kept.map {S : Nat → Prop} {w w' : World} (k : Kept S w w') {mb n : Nat} {D : DataW Unit} (h : w.ownsMap Yba.prog 43 (RBP Yba.prog) mb n D) (hs : ¬ S mb) : w'.ownsMap Yba.prog 43 (RBP Yba.prog) mb n D := by
  have hlt := h.lt
  obtain ⟨es, clock, h1, r⟩ := h
  exact ⟨es, clock, (k.block mb hlt hs).trans h1, r⟩

/-- What set leaves of the jar's row. -/
def After (ks : List Ck) (es : List Nat) (c : Ck) (cb : Nat) (x : Bool) (es' : List Nat) : Prop :=
  ((∀ j, j < ks.length → same (kAt ks j) c = false) ∧ es' = if x then es else es ++ [cb]) ∨ ∃ i, i < ks.length ∧ same (kAt ks i) c = true ∧ es' = if x then es.eraseIdx i else es.set i cb

structure SInv (w : World) (ks : List Ck) (es : List Nat) (c : Ck) (m : Int) (jb mb cb base n : Nat) (jv : Value) (D : DataW Unit) (W : World) : Prop where
  hj : Blk W jb (jar jv mb) 39
  hm : W.ownsMap Yba.prog 43 (RBP Yba.prog) mb n D
  ho : W.ownsRow base 40 1 jv ks.length (ptrs es)
  hk : Cks W es ks
  hc : Blk W cb (ckCells c) 58
  bX : Blk W w.heap.size #[.pointer (some ⟨cb, 0, none⟩)] 40
  bT : Blk W (w.heap.size + 1) #[.int .u64 (tN m), .int .i64 (tX m), .pointer none] 48
  kw : Kept (fun k => k = jb ∨ k = mb ∨ jv.ownBlock = some k) w W
theorem SInv.kept {w : World} {ks : List Ck} {es : List Nat} {c : Ck} {m : Int} {jb mb cb base n : Nat} {jv : Value} {D : DataW Unit} {W W' : World} (h : SInv w ks es c m jb mb cb base n jv D W) (k : Kept (fun _ => False) W W') :
    SInv w ks es c m jb mb cb base n jv D W' :=
  ⟨k.blk h.hj id, k.map h.hm id, k.own h.ho (fun _ _ h => h), h.hk.kept k (fun _ _ h => h), k.blk h.hc id, k.blk h.bX id, k.blk h.bT id, h.kw.trans (k.mono fun _ _ h => h.elim)⟩

theorem own_setAt {w : World} {base n cap g i : Nat} {xs : List Value} {u : Value} (h : w.ownsRow base 40 1 (.slice (some ⟨g, 0, none⟩) n cap) n xs) (_ : i < n) : (w.setCell ⟨g, i, none⟩ u).ownsRow base 40 1 (.slice (some ⟨g, 0, none⟩) n cap) n (xs.set i u) := by
  rcases h with ⟨hl, ⟨h1, _⟩ | ⟨g', cap', cur, hv, hbase, hg, hnc, hcm, hsz, htk⟩⟩
  · cases h1
  simp at hv
  obtain ⟨rfl, rfl⟩ := hv
  refine ⟨by simpa using hl, .inr ⟨g, cap, cur.setIfInBounds i u, rfl, hbase, (Blk.set (w := w) (t := 40) hg i u), hnc, hcm, by simpa using hsz, ?_⟩⟩
  rw [← htk, Array.toList_setIfInBounds, List.take_set]

set_option maxHeartbeats 6400000 in
set_option maxRecDepth 100000 in
theorem set_any (ks : List Ck) (es : List Nat) (c : Ck) (hc : c.ok) (m : Int) (jb mb cb base n : Nat) (jv : Value) (D : DataW Unit) (w : World) (g0 : -9223372036854775808 ≤ m) (g1 : m ≤ 9223372036854775807)
    (hj : Blk w jb (jar jv mb) 39) (hm : w.ownsMap Yba.prog 43 (RBP Yba.prog) mb n D) (ho : w.ownsRow base 40 1 jv ks.length (ptrs es)) (hk : Cks w es ks) (hcb : Blk w cb (ckCells c) 58) (hn : ks.length ≤ 1024) (hnm : n ≤ 4096) (hbase : base ≤ w.heap.size) :
    Calls Yba.prog 9 #[.pointer (some ⟨jb, 0, none⟩), .pointer (some ⟨cb, 0, none⟩), .agg #[.int .u64 (tN m), .int .i64 (tX m), .pointer none]] w fun e w' => e = .returned (.tuple #[]) ∧
      ∃ jv' es', Blk w' jb (jar jv' mb) 39 ∧ w'.ownsRow base 40 1 jv' es'.length (ptrs es') ∧ w'.ownsMap Yba.prog 43 (RBP Yba.prog) mb (n + 1) (D.put ((klP Yba.prog) c) (lb true)) ∧ After ks es c cb (exps c m) es' ∧
        (jv'.ownBlock = jv.ownBlock ∨ ∃ g, jv'.ownBlock = some g ∧ w.heap.size < g) ∧ Kept (fun k => k = jb ∨ k = mb ∨ jv.ownBlock = some k) w w' := by
  obtain ⟨i0, hi0, hz0, hz1, hz2⟩ := info_parts info40
  have hjm := map_ne hm hj
  have hcm := map_ne hm hcb
  have hvm := map_ne_own hm ho
  have hvj : jv.ownBlock ≠ some jb := own_ne ho hj (by decide)
  have hvx : jv.ownBlock ≠ some w.heap.size := fun e => by have := ho.lt _ e; omega
  have hjlt := hj.lt
  have hclt := hcb.lt
  have hmlt := hm.lt
  have hkm : ∀ i, i < ks.length → pAt es i ≠ mb := fun i hi => map_ne hm (hk.blk i hi)
  go_enter Yba.func9, Yba.ntmps9
  go_wp2_with fail
  generalize hW : (w.alloc (.cells #[.pointer (some ⟨cb, 0, none⟩)] 40)).alloc (.cells #[.int .u64 (tN m), .int .i64 (tX m), .pointer none] 48) = W
  have bX : Blk W w.heap.size #[.pointer (some ⟨cb, 0, none⟩)] 40 := by rw [← hW]; exact (Blk.new _ _ _).alloc _
  have bT : Blk W (w.heap.size + 1) #[.int .u64 (tN m), .int .i64 (tX m), .pointer none] 48 := by rw [← hW]; exact Blk.new' _ _ (by simp)
  have kW : Kept (fun _ => False) w W := by rw [← hW]; exact ((Kept.refl _ _).alloc _).alloc _
  have hsz : W.heap.size = w.heap.size + 1 + 1 := by rw [← hW]; simp
  have hjW := kW.blk hj id
  have hcW := kW.blk hcb id
  have hmW := kW.map hm id
  have hoW := kW.own ho (fun _ _ h => h)
  have hkW := hk.kept kW (fun _ _ h => h)
  clear hW hj hcb hm ho hk
  obtain ⟨X, f, hne, hf, hto⟩ := cls (Kept (fun k => k = mb) W) W.drew (Kept.refl _ _).drew
  have Hto := hide hto
  have r6 : ∀ x, (f x).cell? ⟨jb, 6, none⟩ = some (.map (some mb)) := fun x => ((hf x).blk hjW hjm).cell 6
  have s0 : ∀ x, (f x).cell? ⟨w.heap.size, 0, none⟩ = some (.pointer (some ⟨cb, 0, none⟩)) := fun x => ((hf x).blk bX (by omega)).cell 0
  have HC := hide (Hto.out _ (Kept.refl (fun k => k = mb) W).drew)
  clear hto hf
  refine wp_region_seq (fun w' => ∃ x, w' = f x) [(true, 0), (true, 1), (true, 2), (true, 3), (true, 4), (false, 5), (false, 6)] (by kernel_rfl) (by kernel_rfl) (fun _ _ _ _ _ h => h) ?_
  simp only [pickS, List.getElem?_cons_zero, List.getElem?_cons_succ]
  iterate 5
    refine wpSeq_quiet HC.out (fun K hK => ?_)
    go_simp
    refine hK _ ?_
    clear hK K
  refine wpSeq_forced (fun K hK => ?_)
  go_simp
  refine (id_any c cb _ hcW.drew).mono ?_
  rintro e W1 ⟨rfl, k1⟩
  have kW1 : Kept (fun _ => False) W W1 := (Kept.refl _ _).drew.trans k1
  refine hK _ _ (Hto.out _ (kW1.mono fun _ _ h => h.elim)) ?_
  clear hK K k1
  obtain ⟨W2, hrun, hm2, hg2⟩ := (kW1.map hmW id).update law43 Yba.underlying27 (by unfold maxLen; omega) (kl_is c) (RB_mk true)
  have kW2 : Kept (fun k => k = mb) W W2 := (kW1.mono fun _ _ h => h.elim).grown hg2 (fun k _ e => by simpa using e.symm)
  clear hg2 kW1 hmW
  refine wpSeq_forced (fun K hK => ?_)
  go_simp
  refine hK _ _ (Hto.out _ kW2) ?_
  clear hK K hrun
  refine wpSeq_nil ?_
  clear HC Hto r6 s0 hne X f
  have hj2 := kW2.blk hjW hjm
  have hc2 := kW2.blk hcW hcm
  have ho2 := kW2.own hoW (fun k e h => hvm (h ▸ e))
  have hk2 := hkW.kept kW2 hkm
  have bX2 := kW2.blk bX (by omega)
  have bT2 := kW2.blk bT (by omega)
  have kw2 : Kept (fun k => k = jb ∨ k = mb ∨ jv.ownBlock = some k) w W2 := (kW.mono fun _ _ h => h.elim).trans (kW2.mono fun _ _ h => .inr (.inl h))
  have hsz2 : w.heap.size + 1 < W2.heap.size := by have := kW2.size; omega
  clear hjW hcW hoW hkW bX bT kW kW2 hsz
  have inv2 : SInv w ks es c m jb mb cb base (n + 1) jv (D.put ((klP Yba.prog) c) (lb true)) W2 := ⟨hj2, hm2, ho2, hk2, hc2, bX2, bT2, kw2⟩
  clear hj2 hm2 ho2 hk2 hc2 bX2 bT2 kw2
  have j5 := inv2.hj.cell 5
  simp only [jar] at j5
  go_wp2_with fail
  refine (index_any ks es c hc cb w.heap.size base jv W2 inv2.ho inv2.hk inv2.hc inv2.bX hn).mono ?_
  rintro e W3 ⟨z, rfl, hz, k3⟩
  have inv3 := inv2.kept k3
  have hsz3 : w.heap.size + 1 < W3.heap.size := by have := k3.size; omega
  clear inv2 k3 j5 hsz2
  have x0 := inv3.bX.cell 0
  have t0 := inv3.bT.cell 0
  have t1 := inv3.bT.cell 1
  have t2 := inv3.bT.cell 2
  rcases hz with ⟨rfl, hno⟩ | ⟨i, hi, rfl, hs⟩
  · go_wp2_with fail
    refine (expired_any c hc m cb _ inv3.hc g0 g1).mono ?_
    rintro e W4 ⟨rfl, k4⟩
    have inv4 := inv3.kept k4
    have hsz4 : w.heap.size + 1 < W4.heap.size := by have := k4.size; omega
    clear inv3 k4 x0 t0 t1 t2 hsz3
    cases hx : exps c m with
    | true =>
      have HX := hide hx
      clear hx
      go_wp2
      go_end0
      exact ⟨rfl, jv, es, inv4.hj, by rw [inv4.hk.len]; exact inv4.ho, inv4.hm, .inl ⟨hno, by simp [HX.out]⟩, .inl rfl, inv4.kw⟩
    | false =>
      have HX := hide hx
      clear hx
      go_wp2_with fail
      obtain ⟨X, f, hne, hf, hto⟩ := cls (Kept (fun k => jv.ownBlock = some k) W4) W4.drew (Kept.refl _ _).drew
      have Hto := hide hto
      have r5 : ∀ x, (f x).cell? ⟨jb, 5, none⟩ = some jv := fun x => ((hf x).blk inv4.hj hvj).cell 5
      have s0 : ∀ x, (f x).cell? ⟨w.heap.size, 0, none⟩ = some (.pointer (some ⟨cb, 0, none⟩)) := fun x => ((hf x).blk inv4.bX hvx).cell 0
      have HC := hide (Hto.out _ (Kept.refl (fun k => jv.ownBlock = some k) W4).drew)
      clear hto hf
      refine wp_region_headTail (fun w' => ∃ x, w' = f x) [0, 1, 2, 3, 4, 5] [6, 7, 8, 9, 10] 8 (by kernel_rfl) (by kernel_rfl) (fun _ _ _ _ _ h => h) HC.out ?_
      simp only [pick, List.getElem?_cons_zero, List.getElem?_cons_succ, List.map_cons, List.map_nil]
      iterate 6
        refine wpHead_step (fun K hK => ?_)
        go_simp
        refine hK _ ?_
        clear hK K
      clear r5 s0
      refine wpHead_nil ?_
      refine wpTail_plain rfl (fun K hK => ?_)
      go_simp
      refine hK _ _ (fun _ => Hto.out _ ((Kept.refl _ _).alloc _).drew) ?_
      clear hK K
      refine wpTail_plain rfl (fun K hK => ?_)
      refine wp_append_lies _ (.tmp 39) (.tmp 41) 37 rfl base 40 i0 (.pointer none) 1 8 Yba.underlying37 hi0 hz0 hz1 hz2 rfl (by decide) jv ks.length _ rfl (inv4.ho.alloc _) ⟨W4.heap.size, 0, none⟩ 1 1 _ rfl rfl (World.news_of_block (heap_alloc_new W4 _)) ?_ (by decide) (by unfold maxLen; omega) (by omega) ?_ _ rfl ?_
      · intro u hu
        simp at hu
        subst hu; rfl
      · simp; omega
      intro g cap W5 hown hgrow hat hlt
      have kC : Kept (fun k => jv.ownBlock = some k) W4 W5 := ((((Kept.refl _ _).alloc _).drew).grown hgrow (fun k _ e => e))
      refine hK _ _ (fun _ => Hto.out _ kC) ?_
      clear hK K
      have hj5 := kC.blk inv4.hj hvj
      have hm5 := kC.map inv4.hm hvm
      have kw5 := inv4.kw.trans (kC.mono fun _ _ h => .inr (.inr h))
      refine wpTail_late _ _ _ (by simp) ?_
      simp only [List.map_cons, List.map_nil]
      have j5 := hj5.cell 5
      have f5 := hj5.frozen 5
      simp only [jar] at j5
      have hgw : (Value.slice (some ⟨g, 0, none⟩) (ks.length + 1) cap).ownBlock = jv.ownBlock ∨ ∃ g', (Value.slice (some ⟨g, 0, none⟩) (ks.length + 1) cap).ownBlock = some g' ∧ w.heap.size < g' := by
        rcases hat with h | h
        · exact .inl h.symm
        · have h' : g = W4.heap.size + 1 := by simpa using h
          exact .inr ⟨g, rfl, by omega⟩
      have hgj : g ≠ jb := by
        rcases hat with h | h
        · intro e; rw [e] at h; exact hvj h
        · have h' : g = W4.heap.size + 1 := by simpa using h
          omega
      have hes : es.length = ks.length := inv4.hk.len
      have Hgw := hide hgw
      clear hat hgrow kC Hto HC hgw inv4
      go_wp2
      go_end0
      refine ⟨rfl, _, ?_, es ++ [cb], ?_, ?_, .inl ⟨hno, by simp [HX.out]⟩, Hgw.out, ?_⟩
      · have := hj5.set 5 (.slice (some ⟨g, 0, none⟩) (ks.length + 1) cap)
        simpa [jar] using this
      · rw [List.length_append, hes]
        have := own_set hown ⟨jb, 5, none⟩ (.slice (some ⟨g, 0, none⟩) (ks.length + 1) cap) (by simpa [Value.ownBlock] using hgj)
        simpa [ptrs] using this
      · exact hm5.setCell (Ne.symm hjm) _
      · exact kw5.set (fun _ => .inl rfl) _
  · have hil : ¬ (i : Int) < 0 := by omega
    go_wp2_with fail
    refine (expired_any c hc m cb _ inv3.hc g0 g1).mono ?_
    rintro e W4 ⟨rfl, k4⟩
    have inv4 := inv3.kept k4
    have hsz4 : w.heap.size + 1 < W4.heap.size := by have := k4.size; omega
    clear inv3 k4 x0 t0 t1 t2 hsz3
    cases hx : exps c m with
    | true =>
      have HX := hide hx
      clear hx
      have j5 := inv4.hj.cell 5
      simp only [jar] at j5
      have hwr : IntKind.i64.wrap ((i : Int) + 1) = (i : Int) + 1 := by rw [IntKind.wrap_i64]; omega
      go_wp2_with fail
      refine (delete_any es i ks.length base inv4.hk.len hi (by omega) jv _ inv4.ho).mono ?_
      rintro e W5 ⟨jv', rfl, hvb, ho5, k5⟩
      have hj5 := k5.blk inv4.hj hvj
      have hm5 := k5.map inv4.hm hvm
      have kw5 := inv4.kw.trans (k5.mono fun _ _ h => .inr (.inr h))
      clear j5
      have j5 := hj5.cell 5
      have f5 := hj5.frozen 5
      simp only [jar] at j5
      obtain ⟨av, capv, rfl, _⟩ := own_form ho5
      go_wp2
      go_end0
      refine ⟨rfl, _, es.eraseIdx i, ?_, ?_, ?_, .inr ⟨i, hi, hs, by simp [HX.out]⟩, .inl hvb, ?_⟩
      · have := hj5.set 5 (.slice av (ks.length - 1) capv)
        simpa [jar] using this
      · rw [List.length_eraseIdx, inv4.hk.len, if_pos hi]
        exact own_set ho5 _ _ (by rw [hvb]; exact hvj)
      · exact hm5.setCell (Ne.symm hjm) _
      · exact kw5.set (fun _ => .inl rfl) _
    | false =>
      have HX := hide hx
      clear hx
      go_wp2_with fail
      obtain ⟨av, capv, rfl, hav⟩ := own_form inv4.ho
      obtain ⟨g, rfl⟩ := hav (by omega)
      have hgj : g ≠ jb := fun e => hvj (by simp [Value.ownBlock, e])
      have hgx : g ≠ w.heap.size := fun e => hvx (by simp [Value.ownBlock, e])
      have hgm : g ≠ mb := fun e => hvm (by simp [Value.ownBlock, e])
      obtain ⟨X, f, hne, hf, hto⟩ := cls (Kept (fun k => k = g) W4) W4.drew (Kept.refl _ _).drew
      have Hto := hide hto
      have r5 : ∀ x, (f x).cell? ⟨jb, 5, none⟩ = some (.slice (some ⟨g, 0, none⟩) ks.length capv) := fun x => ((hf x).blk inv4.hj (Ne.symm hgj)).cell 5
      have s0 : ∀ x, (f x).cell? ⟨w.heap.size, 0, none⟩ = some (.pointer (some ⟨cb, 0, none⟩)) := fun x => ((hf x).blk inv4.bX (Ne.symm hgx)).cell 0
      have HC := hide (Hto.out _ (Kept.refl (fun k => k = g) W4).drew)
      have hilt : (i : Int) < ks.length := by omega
      clear hto hf
      refine wp_region_seq (fun w' => ∃ x, w' = f x) [(true, 0), (true, 1), (true, 2), (true, 3), (true, 4), (true, 5), (true, 6), (false, 7)] (by kernel_rfl) (by kernel_rfl) (fun _ _ _ _ _ h => h) ?_
      simp only [pickS, List.getElem?_cons_zero, List.getElem?_cons_succ]
      iterate 7
        refine wpSeq_quiet HC.out (fun K hK => ?_)
        go_simp
        refine hK _ ?_
        clear hK K
      clear r5 s0
      have cI : W4.cell? ⟨g, i, none⟩ = some (.pointer (some ⟨pAt es i, 0, none⟩)) := own_cell inv4.ho (ptr_at es i (by rw [inv4.hk.len]; omega))
      have fI := inv4.ho.frozenAt i
      refine wpSeq_forced (fun K hK => ?_)
      go_simp
      refine hK _ _ (Hto.out _ ?_) ?_
      · repeat (first | exact Kept.refl _ _ | refine Kept.drew ?_ | refine Kept.set ?_ (by intro _; rfl) _)
      clear hK K
      refine wpSeq_nil ?_
      clear Hto HC hne
      go_wp2
      go_end0
      refine ⟨rfl, _, es.set i cb, (inv4.hj.setOther ⟨g, i, none⟩ _ (Ne.symm hgj)).drew, ?_, (inv4.hm.setCell (Ne.symm hgm) _).drew, .inr ⟨i, hi, hs, by simp [HX.out]⟩, .inl rfl, ?_⟩
      · rw [List.length_set, inv4.hk.len]
        have := own_setAt (u := .pointer (some ⟨cb, 0, none⟩)) inv4.ho hi
        have e : ptrs (es.set i cb) = (ptrs es).set i (.pointer (some ⟨cb, 0, none⟩)) := by simp [ptrs, List.map_set]
        rw [e]
        exact own_drew this
      · exact (inv4.kw.set (p := ⟨g, i, none⟩) (fun _ => .inr (.inr rfl)) _).drew
end Go.Proofs.Ybulkdbfi
