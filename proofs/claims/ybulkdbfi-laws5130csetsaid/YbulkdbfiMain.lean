import Derived.Test.YbulkdbfiPlain
import Derived.Deep.DeepCutAuto
import Derived.LaidEql
namespace Go.Proofs.Ybulkdbfi
open Go.RowKit Go.HeadTail

attribute [local go_sem] yields yUpon

theorem info24 : (Yba.prog.info? 24).map (fun i => (i.zero, i.size, i.bytes)) = some (some (.agg #[.int .u8 0, .int .u8 0, .int .u8 0, .int .i64 0]), 4, 16) := by kernel_rfl

structure R1 (w : World) (nw : Ck) (kv : Value) (ks : List Ck) (wr : World) : Prop where
  box : Blk wr w.heap.size nw.cells 24
  row : wr.ownsRow (w.heap.size + 1) 24 4 kv ks.length (kcells ks)
  kept : Kept (fun _ => False) w wr
theorem R1.mono {w : World} {nw : Ck} {kv : Value} {ks : List Ck} {wr wr' : World} (h : R1 w nw kv ks wr) (k : Kept (fun _ => False) wr wr') : R1 w nw kv ks wr' :=
  ⟨k.blk h.box id, k.own h.row (fun _ _ h => h), h.kept.trans k⟩

/-- the input slice: cells in memory that was there -/
structure Old (w : World) (a : Option Addr) (os : List Ck) : Prop where
  at_ : ∀ i, i < os.length → ∃ b o, a = some ⟨b, o, none⟩ ∧ b < w.heap.size ∧ w.cell? ⟨b, o + i * 4, none⟩ = some (.int .u8 (kAt os i).n) ∧ w.cell? ⟨b, o + i * 4 + 1, none⟩ = some (.int .u8 (kAt os i).d) ∧ w.cell? ⟨b, o + i * 4 + 2, none⟩ = some (.int .u8 (kAt os i).p) ∧ w.cell? ⟨b, o + i * 4 + 3, none⟩ = some (.int .i64 (kAt os i).e)
  ok : ∀ i, i < os.length → (kAt os i).ok

theorem Kept.cell {w w' : World} (h : Kept (fun _ => False) w w') {a : Addr} (ha : a.block < w.heap.size) {v : Value} (hc : w.cell? a = some v) : w'.cell? a = some v :=
  ((h.below (Nat.le_refl _) (fun _ _ => id)).cell ha).trans hc

theorem own_base {w : World} {base : Nat} {e : TypeId} {size : Nat} {v : Value} {n : Nat} {xs : List Value} (h : w.ownsRow base e size v n xs) {k : Nat} (hk : v.ownBlock = some k) : base ≤ k := (own_ty h hk).1

theorem r1_push {w : World} {nw : Ck} {kv : Value} {ks : List Ck} {wr wr1 wr2 : World} {q : Ck} {g cp : Nat} (h : R1 w nw kv ks wr) (k : Kept (fun _ => False) wr wr1)
    (hown : wr2.ownsRow (w.heap.size + 1) 24 4 (.slice (some ⟨g, 0, none⟩) (ks.length + 1) cp) (ks.length + 1) (kcells ks ++ [.int .u8 q.n, .int .u8 q.d, .int .u8 q.p, .int .i64 q.e])) (hg : wr1.grownBy wr2 kv.ownBlock) :
    R1 w nw (.slice (some ⟨g, 0, none⟩) (ks.length + 1) cp) (ks ++ [q]) wr2 := by
  have hbx : ∀ k, kv.ownBlock = some k → w.heap.size + 1 ≤ k := fun k hk => own_base h.row hk
  refine ⟨?_, ?_, (h.kept.trans k).grown hg (fun k hk e => by have := hbx k e; omega)⟩
  · exact (((Kept.refl (fun k => w.heap.size + 1 ≤ k) wr1).grown hg (fun k _ e => hbx k e))).blk (k.blk h.box id) (by omega)
  · rw [kcells_snoc, List.length_append]; exact hown

structure J (w : World) (nw : Ck) (kv : Value) (ks : List Ck) (jb mb : Nat) (jv : Value) (n : Nat) (D : DataW Unit) (es : List Nat) (kk : List Ck) (wr : World) : Prop where
  r1 : R1 w nw kv ks wr
  jar : Blk wr jb (jar jv mb) 39
  map : wr.ownsMap Yba.prog 43 (RBP Yba.prog) mb n D
  cks : Cks wr es kk
  jlo : w.heap.size ≤ jb
  mlo : w.heap.size ≤ mb
theorem own_own {w : World} {base base' : Nat} {e e' : TypeId} {size size' : Nat} {v v' : Value} {n n' : Nat} {xs xs' : List Value} (h : w.ownsRow base e size v n xs) (h' : w.ownsRow base' e' size' v' n' xs') (ht : e ≠ e') {k : Nat} (hk : v.ownBlock = some k) : v'.ownBlock ≠ some k := fun hk' => by
  obtain ⟨_, cs, hb⟩ := own_ty h hk
  obtain ⟨_, cs', hb'⟩ := own_ty h' hk'
  exact hb.ne hb' ht rfl
theorem J.mono {w : World} {nw : Ck} {kv : Value} {ks : List Ck} {jb mb : Nat} {jv : Value} {n : Nat} {D : DataW Unit} {es : List Nat} {kk : List Ck} {wr wr' : World} (h : J w nw kv ks jb mb jv n D es kk wr) (k : Kept (fun _ => False) wr wr') : J w nw kv ks jb mb jv n D es kk wr' :=
  ⟨h.r1.mono k, k.blk h.jar id, k.map h.map id, h.cks.kept k (fun _ _ h => h), h.jlo, h.mlo⟩
/-- a row of pointers is written -/
theorem J.row {w : World} {nw : Ck} {kv : Value} {ks : List Ck} {jb mb : Nat} {jv : Value} {n : Nat} {D : DataW Unit} {es : List Nat} {kk : List Ck} {wr wr' : World} (h : J w nw kv ks jb mb jv n D es kk wr) {base : Nat} {v : Value} {m : Nat} {xs : List Value} (hb : w.heap.size + 1 ≤ base)
    (ho : wr.ownsRow base 40 1 v m xs) (k : Kept (fun x => v.ownBlock = some x) wr wr') : J w nw kv ks jb mb jv n D es kk wr' :=
  ⟨⟨k.blk h.r1.box (own_ne ho h.r1.box (by decide)), k.own h.r1.row (fun _ e e' => own_own h.r1.row ho (by decide) e e'), h.r1.kept.trans' k (fun x hx e => by have := own_base ho e; omega)⟩,
    k.blk h.jar (own_ne ho h.jar (by decide)), k.map h.map (map_ne_own h.map ho), h.cks.kept k (fun i hi => own_ne ho (h.cks.blk i hi) (by decide)), h.jlo, h.mlo⟩
/-- the map is written -/
theorem J.put {w : World} {nw : Ck} {kv : Value} {ks : List Ck} {jb mb : Nat} {jv : Value} {n : Nat} {D : DataW Unit} {es : List Nat} {kk : List Ck} {wr wr' : World} (h : J w nw kv ks jb mb jv n D es kk wr) {n' : Nat} {D' : DataW Unit} (hm : wr'.ownsMap Yba.prog 43 (RBP Yba.prog) mb n' D') (k : Kept (fun x => x = mb) wr wr') : J w nw kv ks jb mb jv n' D' es kk wr' :=
  ⟨⟨k.blk h.r1.box (map_ne h.map h.r1.box), k.own h.r1.row (fun _ e e' => map_ne_own h.map h.r1.row (e' ▸ e)), h.r1.kept.trans' k (fun x hx e => by have := h.mlo; omega)⟩,
    k.blk h.jar (map_ne h.map h.jar), hm, h.cks.kept k (fun i hi => map_ne h.map (h.cks.blk i hi)), h.jlo, h.mlo⟩
theorem J.cons {w : World} {nw : Ck} {kv : Value} {ks : List Ck} {jb mb : Nat} {jv : Value} {n : Nat} {D : DataW Unit} {es es' : List Nat} {kk kk' : List Ck} {wr : World} (h : J w nw kv ks jb mb jv n D es kk wr) (hc : Cks wr es' kk') : J w nw kv ks jb mb jv n D es' kk' wr := ⟨h.r1, h.jar, h.map, hc, h.jlo, h.mlo⟩

theorem J.setJar {w : World} {nw : Ck} {kv : Value} {ks : List Ck} {jb mb : Nat} {jv : Value} {n : Nat} {D : DataW Unit} {es : List Nat} {kk : List Ck} {wr : World} (h : J w nw kv ks jb mb jv n D es kk wr) (v : Value) : J w nw kv ks jb mb v n D es kk (wr.setCell ⟨jb, 5, none⟩ v) := by
  have k : Kept (fun x => x = jb) wr (wr.setCell ⟨jb, 5, none⟩ v) := (Kept.refl _ _).set (by intro _; rfl) _
  refine ⟨⟨k.blk h.r1.box (h.r1.box.ne h.jar (by decide)), k.own h.r1.row (fun _ e e' => own_ne h.r1.row h.jar (by decide) (e' ▸ e)), h.r1.kept.trans' k (fun x hx e => by have := h.jlo; omega)⟩, ?_, k.map h.map (Ne.symm (map_ne h.map h.jar)), h.cks.kept k (fun i hi => (h.cks.blk i hi).ne h.jar (by decide)), h.jlo, h.mlo⟩
  have := h.jar.set 5 v
  simpa [Ybulkdbfi.jar] using this

theorem J.after {w : World} {nw : Ck} {kv : Value} {ks : List Ck} {jb mb : Nat} {jv jv' : Value} {n n' : Nat} {D D' : DataW Unit} {es : List Nat} {kk : List Ck} {wr wr' : World} (h : J w nw kv ks jb mb jv n D es kk wr) {m : Nat} {xs : List Value}
    (ho : wr.ownsRow (w.heap.size + 1) 40 1 jv m xs) (k : Kept (fun x => x = jb ∨ x = mb ∨ jv.ownBlock = some x) wr wr') (hj : Blk wr' jb (Ybulkdbfi.jar jv' mb) 39) (hm : wr'.ownsMap Yba.prog 43 (RBP Yba.prog) mb n' D') : J w nw kv ks jb mb jv' n' D' es kk wr' := by
  refine ⟨⟨k.blk h.r1.box ?_, k.own h.r1.row ?_, h.r1.kept.trans' k ?_⟩, hj, hm, h.cks.kept k ?_, h.jlo, h.mlo⟩
  · rintro (e | e | e)
    · exact h.r1.box.ne h.jar (by decide) e
    · exact map_ne h.map h.r1.box e
    · exact own_ne ho h.r1.box (by decide) e
  · rintro x e (rfl | rfl | e')
    · exact own_ne h.r1.row h.jar (by decide) e
    · exact map_ne_own h.map h.r1.row e
    · exact own_own h.r1.row ho (by decide) e e'
  · rintro x hx (e | e | e)
    · have := h.jlo; omega
    · have := h.mlo; omega
    · have := own_base ho e; omega
  · rintro i hi (e | e | e)
    · exact (h.cks.blk i hi).ne h.jar (by decide) e
    · exact map_ne h.map (h.cks.blk i hi) e
    · exact own_ne ho (h.cks.blk i hi) (by decide) e

theorem want_len (c : Ck) (cb : Nat) (x : Bool) : ∀ (ks : List Ck) (es : List Nat), (wantL c cb x ks es).length ≤ ks.length
  | [], es => by simp [wantL]
  | k :: ks, [] => by simp [wantL]
  | k :: ks, e :: es => by
    have := want_len c cb x ks es
    have h : (piece c cb x k e).length ≤ 1 := by
      unfold piece
      split
      · split <;> simp
      · simp
    simp only [wantL, List.length_append, List.length_cons]
    omega
theorem ptrs_snoc (es : List Nat) (b : Nat) : ptrs es ++ [.pointer (some ⟨b, 0, none⟩)] = ptrs (es ++ [b]) := by simp [ptrs]
theorem piece_same {c : Ck} {cb : Nat} {k : Ck} {e : Nat} (h : same k c = true) (x : Bool) : piece c cb x k e = if x then [] else [cb] := by unfold piece; rw [h]; simp
theorem piece_other {c : Ck} {cb : Nat} {k : Ck} {e : Nat} (h : same k c = false) (x : Bool) : piece c cb x k e = [e] := by unfold piece; rw [h]; simp

theorem after_len {ks : List Ck} {es : List Nat} {c : Ck} {cb : Nat} {x : Bool} {es' : List Nat} (h : After ks es c cb x es') (hl : es.length = ks.length) : es'.length ≤ ks.length + 1 := by
  rcases h with ⟨_, rfl⟩ | ⟨i, hi, _, rfl⟩
  · split
    · omega
    · simp; omega
  · split
    · rw [List.length_eraseIdx]; split <;> omega
    · simp; omega
theorem some58 : (Yba.prog.info? 58).isSome = true := by kernel_rfl
theorem neq40 (a : Addr) (w : World) : (binOp .neq 40 (.pointer (some a)) (.pointer (some a))).run Yba.prog w = .ok (.bool false) w := by
  obtain ⟨j, hj⟩ := Option.isSome_iff_exists.1 some58
  have h : ∀ d : Nat, (Op.equalIn (d + 1) 40 (.pointer (some a)) (.pointer (some a))).run Yba.prog w = .ok true w := fun d => by
    simp [Op.equalIn, run_underlying Yba.underlying40, sizeOf, typeInfo, hj, run_sameAddr_same]
  simp only [binOp]
  simp [Op.equal, Op.maxDepth, h 9999]
theorem same_self (a : Ck) : same a a = true := by simp [same]
theorem D1_at (ks : List Ck) (nw q : Ck) (hn : nw.ok) (hq : q.ok) : (((D0P Yba.prog) ks).put ((klP Yba.prog) nw) (lb true)).atKey ((klP Yba.prog) q) (lb false) = lb (same q nw) := by
  cases hs : same q nw with
  | true => rw [(kl_eq hq hn).2 hs]; exact Maps.atKey_put_same (D0_tidy ks).isMap (kl_key nw) _ _
  | false =>
    rw [Maps.atKey_put_other (fun e => by rw [(kl_eq hq hn).1 e] at hs; cases hs)]
    exact D0_at ks _
theorem D1_has (ks : List Ck) (hk : ∀ k ∈ ks, k.ok) (nw q : Ck) (hn : nw.ok) (hq : q.ok) (h : same q nw = true ∨ q ∈ ks) : Maps.has (((D0P Yba.prog) ks).put ((klP Yba.prog) nw) (lb true)) ((klP Yba.prog) q) = true := by
  cases hs : same q nw with
  | true => rw [(kl_eq hq hn).2 hs]; exact Maps.has_put_same (D0_tidy ks).isMap (kl_key nw) _
  | false =>
    rw [Maps.has_put_other (fun e => by rw [(kl_eq hq hn).1 e] at hs; cases hs), D0_has ks hk q hq]
    rcases h with h | h
    · rw [hs] at h; cases h
    · exact List.any_eq_true.2 ⟨q, h, same_self q⟩
theorem D1_size (ks : List Ck) (hk : ∀ k ∈ ks, k.ok) (ha : Apart ks) (nw : Ck) (hn : nw.ok) : Maps.size (((D0P Yba.prog) ks).put ((klP Yba.prog) nw) (lb true)) = if ks.any (fun q => same q nw) then ks.length else ks.length + 1 := by
  rw [Maps.size_put (D0_tidy ks), D0_has ks hk nw hn, D0_size ks hk ha]

structure S4 (w : World) (nw : Ck) (kv : Value) (ks : List Ck) (jb mb : Nat) (jv : Value) (n : Nat) (D : DataW Unit) (es : List Nat) (pv : Value) (es' : List Nat) (cb B2 : Nat) (wr : World) : Prop where
  j : J w nw kv ks jb mb jv n D es ks wr
  po : wr.ownsRow (w.heap.size + 1) 40 1 pv ks.length (ptrs es)
  jo : wr.ownsRow (w.heap.size + 1) 40 1 jv es'.length (ptrs es')
  cb : Blk wr cb (ckCells nw) 58
  pl : ∀ k, pv.ownBlock = some k → k < B2
  jl : ∀ k, jv.ownBlock = some k → k < B2
  bl : w.heap.size + 1 ≤ B2
  bs : B2 ≤ wr.heap.size
theorem S4.mono {w : World} {nw : Ck} {kv : Value} {ks : List Ck} {jb mb : Nat} {jv : Value} {n : Nat} {D : DataW Unit} {es : List Nat} {pv : Value} {es' : List Nat} {cb B2 : Nat} {wr wr' : World} (h : S4 w nw kv ks jb mb jv n D es pv es' cb B2 wr) (k : Kept (fun _ => False) wr wr') : S4 w nw kv ks jb mb jv n D es pv es' cb B2 wr' :=
  ⟨h.j.mono k, k.own h.po (fun _ _ h => h), k.own h.jo (fun _ _ h => h), k.blk h.cb id, h.pl, h.jl, h.bl, Nat.le_trans h.bs k.size⟩
theorem S4.row {w : World} {nw : Ck} {kv : Value} {ks : List Ck} {jb mb : Nat} {jv : Value} {n : Nat} {D : DataW Unit} {es : List Nat} {pv : Value} {es' : List Nat} {cb B2 : Nat} {wr wr' : World} (h : S4 w nw kv ks jb mb jv n D es pv es' cb B2 wr) {v : Value} {m : Nat} {xs : List Value} (ho : wr.ownsRow B2 40 1 v m xs) (k : Kept (fun x => v.ownBlock = some x) wr wr') : S4 w nw kv ks jb mb jv n D es pv es' cb B2 wr' :=
  ⟨h.j.row h.bl ho k, k.own h.po (fun x e e' => by have := h.pl x e; have := own_base ho e'; omega), k.own h.jo (fun x e e' => by have := h.jl x e; have := own_base ho e'; omega), k.blk h.cb (own_ne ho h.cb (by decide)), h.pl, h.jl, h.bl, Nat.le_trans h.bs k.size⟩

set_option maxHeartbeats 12800000 in
set_option maxRecDepth 100000 in
theorem law_any (os : List Ck) (a : Option Addr) (cap : Nat) (nw : Ck) (hnw : nw.ok) (m : Int) (g0 : -9223372036854775808 ≤ m) (g1 : m ≤ 9223372036854775807) (w : World) (ho : Old w a os) (hlen : os.length ≤ 1024) :
    Calls Yba.prog 3 #[.slice a os.length cap, .agg nw.cells, .int .i64 m] w fun e w' => e = .returned (.bool true) ∧ Kept (fun _ => False) w w' := by
  obtain ⟨i24, hi24, hz24, hz241, hz242⟩ := info_parts info24
  obtain ⟨i40, hi40, hz40, hz401, hz402⟩ := info_parts info40
  generalize hL : os.length = len at *
  have hc1 : ¬ (1024 : Int) < len := by omega
  go_enter Yba.func3, Yba.ntmps3
  go_wp2_with fail
  go_loopw [38, 7] (fun iv kv wr => ∃ (k : Nat) (ks : List Ck), iv = .int .i64 k ∧ k ≤ len ∧ ks.length ≤ k ∧ (∀ x ∈ ks, x.ok) ∧ Apart ks ∧ R1 w nw kv ks wr) (fun iv _ _ => len - (intOf iv).toNat)
  case atStart =>
    refine ⟨0, [], rfl, Nat.zero_le _, Nat.le_refl _, by simp, List.Pairwise.nil, ⟨Blk.new _ _ _, World.ownsRow_nil _ _ _ _, (Kept.refl _ _).alloc _⟩⟩
  case round =>
    obtain ⟨k, ks, rfl, hk, hkl, hok, hap, inv⟩ := hrel
    by_cases hlt : k < len
    · obtain ⟨b, o, rfl, hb, h0, h1, h2, h3⟩ := ho.at_ k (by omega)
      have hko := ho.ok k (by omega)
      have c0 := inv.kept.cell hb h0
      have c1 := inv.kept.cell hb h1
      have c2 := inv.kept.cell hb h2
      have c3 := inv.kept.cell hb h3
      generalize kAt os k = q at *
      clear h0 h1 h2 h3
      have hlti : (k : Int) < len := by omega
      obtain ⟨ka, kcap, rfl, hka⟩ := own_form inv.row
      go_wp2_with fail
      generalize hW : wr.alloc (.cells #[.int .u8 q.n, .int .u8 q.d, .int .u8 q.p, .int .i64 q.e] 24) = W
      have kW : Kept (fun _ => False) wr W := by rw [← hW]; exact (Kept.refl _ _).alloc _
      have bW : Blk W wr.heap.size #[.int .u8 q.n, .int .u8 q.d, .int .u8 q.p, .int .i64 q.e] 24 := by rw [← hW]; exact Blk.new _ _ _
      clear hW c0 c1 c2 c3
      go_loopw [44, 10] (fun jv dv w2 => ∃ j : Nat, jv = .int .i64 j ∧ dv = .bool false ∧ j ≤ ks.length ∧ (∀ t, t < j → same q (kAt ks t) = false) ∧ Kept (fun _ => False) W w2) (fun jv _ _ => ks.length - (intOf jv).toNat)
      case atStart => exact ⟨0, rfl, rfl, Nat.zero_le _, fun t ht => absurd ht (by omega), Kept.refl _ _⟩
      case round =>
        obtain ⟨j, rfl, rfl, hj, hns, kr⟩ := hrel
        by_cases hjl : j < ks.length
        · obtain ⟨g, rfl⟩ := hka (by omega)
          have hrow := kr.own (kW.own inv.row (fun _ _ h => h)) (fun _ _ h => h)
          have hat := kcells_at ks j hjl
          have d0 := own_cell hrow hat.1
          have d1 := own_cell hrow hat.2.1
          have d2 := own_cell hrow hat.2.2.1
          have d3 := own_cell hrow hat.2.2.2
          have bW2 := kr.blk bW id
          have hqo := hok (kAt ks j) (kAt_mem ks j hjl)
          generalize hqq : kAt ks j = q2 at *
          have HQ := hide hqq
          clear hqq hat hrow
          have hjlt : (j : Int) < ks.length := by omega
          have e0 := (bW2.alloc (.cells #[.int .u8 q2.n, .int .u8 q2.d, .int .u8 q2.p, .int .i64 q2.e] 24)).cell 0
          have e1 := (bW2.alloc (.cells #[.int .u8 q2.n, .int .u8 q2.d, .int .u8 q2.p, .int .i64 q2.e] 24)).cell 1
          have e2 := (bW2.alloc (.cells #[.int .u8 q2.n, .int .u8 q2.d, .int .u8 q2.p, .int .i64 q2.e] 24)).cell 2
          have e3 := (bW2.alloc (.cells #[.int .u8 q2.n, .int .u8 q2.d, .int .u8 q2.p, .int .i64 q2.e] 24)).cell 3
          go_wp2_with fail
          refine (same_any q q2 hko hqo _).mono ?_
          rintro r w3 ⟨rfl, k3⟩
          have k3' := (kr.alloc (.cells #[.int .u8 q2.n, .int .u8 q2.d, .int .u8 q2.p, .int .i64 q2.e] 24)).trans k3
          clear d0 d1 d2 d3 e0 e1 e2 e3 bW2 k3
          cases hs : same q q2 with
          | true =>
            clear hs
            have invN := (inv.mono kW).mono k3'
            go_wp2
            go_roundw
            case rel => exact ⟨k + 1, ks, by go_num, by omega, by omega, hok, hap, invN⟩
            case measure => simp [intOf]; omega
          | false =>
            have HS := hide hs
            clear hs
            go_wp2
            go_roundw
            case rel =>
              refine ⟨j + 1, by go_num, rfl, by omega, fun t ht => ?_, k3'⟩
              rcases Nat.lt_succ_iff_lt_or_eq.1 ht with h | rfl
              · exact hns t h
              · rw [HQ.out]; exact HS.out
            case measure => simp [intOf]; omega
        · have hjn : j = ks.length := by omega
          subst hjn
          have bW2 := kr.blk bW id
          have e0 := bW2.cell 0
          have e1 := bW2.cell 1
          have e2 := bW2.cell 2
          have e3 := bW2.cell 3
          have hsz := (kW.trans kr).size
          have hsz0 := inv.kept.size
          have ownK := hide (kr.own (kW.own inv.row (fun _ _ h => h)) (fun _ _ h => h))
          go_wp2_with (at_builtin; refine wpList_append_lies _ rfl _ _ 22 rfl (w.heap.size + 1) 24 i24 (.agg #[.int .u8 0, .int .u8 0, .int .u8 0, .int .i64 0]) 4 16 Yba.underlying22 hi24 hz24 hz241 hz242 rfl (by decide) _ ks.length (kcells ks) rfl (ownK.out.alloc _) ⟨wr.heap.size, 0, none⟩ 1 1 [.int .u8 q.n, .int .u8 q.d, .int .u8 q.p, .int .i64 q.e] rfl rfl (World.news_of_block (heap_alloc_new wr _)) ?c1 (by decide) ?c2 ?c3 ?c4 _ rfl ?_)
          case c1 => intro u hu; simp at hu; rcases hu with rfl | rfl | rfl | rfl <;> rfl
          case c2 => unfold maxLen; omega
          case c3 => omega
          case c4 => simp; omega
          intro g cp w4 hown hgrow hat hlt4
          have invN := r1_push inv ((kW.trans kr).alloc _) hown hgrow
          clear hown hgrow hat e0 e1 e2 e3 bW2 ownK
          go_wp2
          go_roundw
          case rel =>
            refine ⟨k + 1, ks ++ [q], by go_num, by omega, by simp; omega, fun x hx => ?_, apart_snoc hap hns, invN⟩
            rcases List.mem_append.1 hx with h | h
            · exact hok x h
            · simp at h; subst h; exact hko
          case measure => simp [intOf]; omega
    · have hkn : k = len := by omega
      subst hkn
      obtain ⟨ka, kcap, rfl, hka⟩ := own_form inv.row
      have hmm := @run_makeMap Yba.prog
      go_wp2_with fail
      generalize hW : (wr.alloc (.map #[] 0)).alloc (.cells #[.string ⟨#[]⟩, .pointer none, .nilFunc, .int .i32 0, .int .u32 0, .slice none 0 0, .map (some wr.heap.size), .bool false] 39) = W
      have jW : J w nw (.slice ka ks.length kcap) ks (wr.heap.size + 1) wr.heap.size (.slice none 0 0) 0 ((D0P Yba.prog) []) [] [] W := by
        have hs := inv.kept.size
        rw [← hW]
        exact ⟨inv.mono (((Kept.refl _ _).alloc _).alloc _), Blk.new' _ _ (by simp), (World.ownsMap_made wr _ _ _).alloc _, ⟨rfl, fun i hi => absurd hi (by simp), fun i hi => absurd hi (by simp)⟩, by omega, by omega⟩
      clear hW inv
      generalize wr.heap.size + 1 = jb at jW
      generalize wr.heap.size = mb at jW
      go_loopw [64, 14] (fun iv pv wr => ∃ (k : Nat) (es : List Nat), iv = .int .i64 k ∧ k ≤ ks.length ∧ es.length = k ∧ J w nw (.slice ka ks.length kcap) ks jb mb (.slice none 0 0) k ((D0P Yba.prog) (ks.take k)) es (ks.take k) wr ∧ wr.ownsRow (w.heap.size + 1) 40 1 pv es.length (ptrs es)) (fun iv _ _ => ks.length - (intOf iv).toNat)
      case atStart => exact ⟨0, [], rfl, Nat.zero_le _, rfl, by simpa using jW, World.ownsRow_nil _ _ _ _⟩
      case round =>
        clear jW
        obtain ⟨k, es, rfl, hk3, rfl, jr, po⟩ := hrel
        by_cases hlt3 : es.length < ks.length
        · obtain ⟨g, rfl⟩ := hka (by omega)
          have hat := kcells_at ks es.length hlt3
          have d0 := own_cell jr.r1.row hat.1
          have d1 := own_cell jr.r1.row hat.2.1
          have d2 := own_cell jr.r1.row hat.2.2.1
          have d3 := own_cell jr.r1.row hat.2.2.2
          have hqo := hok (kAt ks es.length) (kAt_mem ks es.length hlt3)
          have htk := take_succ_k ks es.length hlt3
          generalize kAt ks es.length = q at *
          have hki : (es.length : Int) < ks.length := by omega
          obtain ⟨pa, pcap, rfl, _⟩ := own_form po
          go_wp2_with fail
          refine (mk_any q hqo _).mono ?_
          rintro r w2 ⟨b, rfl, hbge, hb2, k2⟩
          have k2' := ((Kept.refl (fun _ => False) wr).alloc _).trans k2
          have j2 := jr.mono k2'
          have po2 := hide (k2'.own po (fun _ _ h => h))
          have hs2 := (j2.r1.kept).size
          clear d0 d1 d2 d3 k2 hat jr po
          go_wp2_with (at_builtin; refine wpList_append_lies _ rfl _ _ 37 rfl (w.heap.size + 1) 40 i40 (.pointer none) 1 8 Yba.underlying37 hi40 hz40 hz401 hz402 rfl (by decide) _ es.length (ptrs es) rfl (po2.out.alloc _) ⟨w2.heap.size, 0, none⟩ 1 1 [.pointer (some ⟨b, 0, none⟩)] rfl rfl (World.news_of_block (heap_alloc_new w2 _)) ?c1 (by decide) ?c2 ?c3 ?c4 _ rfl ?_)
          case c1 => intro u hu; simp at hu; subst hu; rfl
          case c2 => unfold maxLen; omega
          case c3 => omega
          case c4 => simp; have := hb2.lt; have := k2'.size; have := hbge; omega
          intro g3 cp3 w3 own3 grow3 hat3 hlt33
          have kk3 : Kept (fun x => (Value.slice pa es.length pcap).ownBlock = some x) w2 w3 := ((Kept.refl _ _).alloc _).grown grow3 (fun _ _ e => e)
          have j3 := j2.row (Nat.le_refl _) po2.out kk3
          have hb3 := kk3.blk hb2 (own_ne po2.out hb2 (by decide))
          have j3' := j3.cons (cks_snoc j3.cks hb3 hqo)
          have po3 := hide own3
          clear own3 grow3 hat3 j3 kk3 hb2 j2 po2 k2'
          go_wp2_with fail
          obtain ⟨X, f, hne, hf, hto⟩ := cls (Kept (fun k => k = mb) w3) w3.drew (Kept.refl _ _).drew
          have Hto := hide hto
          have r6 : ∀ x, (f x).cell? ⟨jb, 6, none⟩ = some (.map (some mb)) := fun x => ((hf x).blk j3'.jar (map_ne j3'.map j3'.jar)).cell 6
          have HC := hide (Hto.out _ (Kept.refl (fun k => k = mb) w3).drew)
          clear hto hf
          refine wp_region_seq (fun w' => ∃ x, w' = f x) [(true, 0), (true, 1), (true, 2), (true, 3), (true, 4), (false, 5), (false, 6)] (by kernel_rfl) (by kernel_rfl) (fun _ _ _ _ _ h => h) ?_
          simp only [pickS, List.getElem?_cons_zero, List.getElem?_cons_succ]
          iterate 5
            refine wpSeq_quiet HC.out (fun K hK => ?_)
            go_simp
            refine hK _ ?_
            clear hK K
          clear r6
          refine wpSeq_forced (fun K hK => ?_)
          go_simp
          refine (id_any q b _ hb3.drew).mono ?_
          rintro r w5 ⟨rfl, k5⟩
          have k5' : Kept (fun _ => False) w3 w5 := (Kept.refl _ _).drew.trans k5
          refine hK _ _ (Hto.out _ (k5'.mono fun _ _ h => h.elim)) ?_
          clear hK K k5
          have j5 := j3'.mono k5'
          have po5 := hide (k5'.own po3.out (fun _ _ h => h))
          obtain ⟨w6, hrun, hm6, hg6⟩ := j5.map.update law43 Yba.underlying27 (by unfold maxLen; omega) (kl_is q) (RB_mk false)
          have k6 : Kept (fun k => k = mb) w5 w6 := (Kept.refl _ _).grown hg6 (fun k _ e => by simpa using e.symm)
          refine wpSeq_forced (fun K hK => ?_)
          go_simp
          refine hK _ _ (Hto.out _ ((k5'.mono fun _ _ h => h.elim).trans k6)) ?_
          clear hK K hrun
          have j6 := j5.put hm6 k6
          rw [← D0_snoc, ← htk] at j6
          have po6 := k6.own po5.out (fun k e h => map_ne_own j5.map po5.out (h ▸ e))
          refine wpSeq_nil ?_
          clear HC Hto hne hm6 hg6 k6 k5' po5 j5 po3 j3' hb3 hbge
          go_wp2
          go_roundw
          case rel => exact ⟨es.length + 1, es ++ [b], by go_num, by omega, by simp, j6, by simpa [ptrs] using po6⟩
          case measure => simp [intOf]; omega
        · have hel : es.length = ks.length := by omega
          have htk : ks.take es.length = ks := by rw [hel]; exact List.take_length
          rw [htk] at jr
          clear htk
          rw [hel] at jr po
          obtain ⟨pa, pcap, rfl, hpa⟩ := own_form po
          rw [hel]
          have Hel := hide hel
          clear hel hlt3 hk3
          have hsr := jr.r1.kept.size
          go_upto_region 26 with (fail)
          go_cut [83] from 81 to 85 (fun _ w' => ∃ jv, J w nw (.slice ka ks.length kcap) ks jb mb jv ks.length ((D0P Yba.prog) ks) es ks w' ∧ w'.ownsRow (w.heap.size + 1) 40 1 (.slice pa ks.length pcap) ks.length (ptrs es) ∧ w'.ownsRow (w.heap.size + 1) 40 1 jv ks.length (ptrs es) ∧ ∀ k, jv.ownBlock = some k → (Value.slice pa ks.length pcap).ownBlock ≠ some k)
          case first =>
            by_cases hk0 : ks.length = 0
            · have j5 := jr.jar.cell 5
              have f5 := jr.jar.frozen 5
              simp only [jar] at j5
              have jN := jr.setJar (.slice none 0 0)
              have poN := own_set po ⟨jb, 5, none⟩ (.slice none 0 0) (own_ne po jr.jar (by decide))
              clear jr po
              have ownN : (wr.setCell ⟨jb, 5, none⟩ (.slice none 0 0)).ownsRow (w.heap.size + 1) 40 1 (.slice none 0 0) ks.length (ptrs es) := by
                rw [hk0, List.length_eq_zero_iff.1 (Hel.out.trans hk0)]; exact World.ownsRow_nil _ _ _ _
              have OwnN := hide ownN
              clear ownN
              cases pa <;> go_wp2
              all_goals go_meet
              all_goals exact ⟨_, jN, poN, OwnN.out, fun k e => by cases e⟩
            · obtain ⟨gp, rfl⟩ := hpa (by omega)
              have hgp : gp < wr.heap.size := (po.lt gp rfl).2
              have poH := hide po
              go_wp2_with (at_builtin; refine wpList_append_lies _ rfl _ _ 37 rfl (w.heap.size + 1) 40 i40 (.pointer none) 1 8 Yba.underlying37 hi40 hz40 hz401 hz402 rfl (by decide) _ 0 [] rfl (World.ownsRow_nil _ _ _ _) ⟨gp, 0, none⟩ ks.length pcap (ptrs es) rfl ?c0 ?cn ?c1 ?c2 ?c3 ?c4 ?c5 _ rfl ?_)
              case c0 => simp [ptrs, Hel.out]
              case cn => exact fun j u hu => poH.out.cells (g := gp) rfl j u hu
              case c1 => intro u hu; obtain ⟨x, _, rfl⟩ := List.mem_map.1 hu; rfl
              case c2 => omega
              case c3 => unfold maxLen; omega
              case c4 => omega
              case c5 => have := jr.r1.box.lt; omega
              intro g4 cp4 w4 own4 grow4 hat4 hlt4
              have k4 : Kept (fun _ => False) wr w4 := (Kept.refl _ _).grown grow4 (fun _ _ e => by cases e)
              have hg4 : g4 = wr.heap.size := by
                rcases hat4 with h | h
                · cases h
                · exact h
              have j4 := jr.mono k4
              have po4 := k4.own poH.out (fun _ _ h => h)
              have j5 := j4.jar.cell 5
              have f5 := j4.jar.frozen 5
              simp only [jar] at j5
              have own4 : w4.ownsRow (w.heap.size + 1) 40 1 (.slice (some ⟨g4, 0, none⟩) ks.length cp4) ks.length (ptrs es) := by simpa using own4
              have jN := j4.setJar (.slice (some ⟨g4, 0, none⟩) ks.length cp4)
              have poN := own_set po4 ⟨jb, 5, none⟩ (.slice (some ⟨g4, 0, none⟩) ks.length cp4) (own_ne po4 j4.jar (by decide))
              have ownN := own_set own4 ⟨jb, 5, none⟩ (.slice (some ⟨g4, 0, none⟩) ks.length cp4) (own_ne own4 j4.jar (by decide))
              have hgg : gp ≠ g4 := by omega
              clear own4 grow4 hat4 k4 j4 po4 poH jr po hg4 hpa
              go_wp2
              go_meet
              case rel => exact ⟨_, jN, poN, ownN, fun k e e' => by simp [Value.ownBlock] at e e'; omega⟩
          case rest =>
            clear jr po hpa hsr
            obtain ⟨jv, jr, po, jo, hpj⟩ := hcut
            have b0 := jr.r1.box.cell 0
            have b1 := jr.r1.box.cell 1
            have b2 := jr.r1.box.cell 2
            have b3 := jr.r1.box.cell 3
            simp only [Ck.cells] at b0 b1 b2 b3
            go_wp2_with fail
            rw [show (#[.int .u8 nw.n, .int .u8 nw.d, .int .u8 nw.p, .int .i64 nw.e] : Array Value) = nw.cells from rfl]
            refine (mk_any nw hnw _).mono ?_
            rintro r w1 ⟨cb, rfl, hcbge, hcb1, k1⟩
            have j1 := jr.mono k1
            have po1 := k1.own po (fun _ _ h => h)
            have jo1 := k1.own jo (fun _ _ h => h)
            have hcbg : wc.heap.size ≤ cb := hcbge
            clear b0 b1 b2 b3 jr po jo k1 hcbge
            go_wp2_with fail
            refine (zadd_any m _ g0 g1).mono ?_
            rintro r w2 ⟨rfl, k2⟩
            have j2 := j1.mono k2
            have po2 := k2.own po1 (fun _ _ h => h)
            have jo2 := k2.own jo1 (fun _ _ h => h)
            have hcb2 := k2.blk hcb1 id
            clear j1 po1 jo1 hcb1 k2
            have hb2 := j2.r1.box.alloc (.cells #[.int .u64 (tN m), .int .i64 (tX m), .pointer none] 48)
            have b0 := hb2.cell 0
            have b1 := hb2.cell 1
            have b2 := hb2.cell 2
            have b3 := hb2.cell 3
            simp only [Ck.cells] at b0 b1 b2 b3
            clear hb2
            go_wp2_with fail
            rw [show (#[.int .u8 nw.n, .int .u8 nw.d, .int .u8 nw.p, .int .i64 nw.e] : Array Value) = nw.cells from rfl]
            generalize hW2 : w2.alloc (.cells #[.int .u64 (tN m), .int .i64 (tX m), .pointer none] 48) = W2
            have k2 : Kept (fun _ => False) w2 W2 := by rw [← hW2]; exact (Kept.refl _ _).alloc _
            have bT : Blk W2 w2.heap.size #[.int .u64 (tN m), .int .i64 (tX m), .pointer none] 48 := by rw [← hW2]; exact Blk.new _ _ _
            clear hW2 b0 b1 b2 b3
            refine (cexp_any nw m _).mono ?_
            rintro r w3 ⟨rfl, k3⟩
            have k23 := k2.trans k3
            have j3 := j2.mono k23
            have po3 := k23.own po2 (fun _ _ h => h)
            have jo3 := k23.own jo2 (fun _ _ h => h)
            have hcb3 := k23.blk hcb2 id
            have bT3 := k3.blk bT id
            clear j2 po2 jo2 hcb2 bT k2 k3 k23
            have t0 := bT3.cell 0
            have t1 := bT3.cell 1
            have t2 := bT3.cell 2
            go_wp2_with fail
            refine (set_any ks es nw hnw m jb mb cb (w.heap.size + 1) ks.length jv ((D0P Yba.prog) ks) w3 g0 g1 j3.jar j3.map jo3 j3.cks hcb3 (by omega) (by omega) (by have := j3.r1.box.lt; omega)).mono ?_
            rintro r w4 ⟨rfl, jv', es', hj4, jo4, hm4, haf, _, k4⟩
            have j4 := j3.after jo3 k4 hj4 hm4
            have po4 : w4.ownsRow (w.heap.size + 1) 40 1 (.slice pa ks.length pcap) ks.length (ptrs es) := k4.own po3 (by
              rintro x e (rfl | rfl | e')
              · exact own_ne po3 j3.jar (by decide) e
              · exact map_ne_own j3.map po3 e
              · exact hpj x e' e)
            have hcb4 := k4.blk hcb3 (by
              rintro (e | e | e)
              · exact hcb3.ne j3.jar (by decide) e
              · exact map_ne j3.map hcb3 e
              · exact own_ne jo3 hcb3 (by decide) e)
            have s4 : S4 w nw (.slice ka ks.length kcap) ks jb mb jv' (ks.length + 1) (((D0P Yba.prog) ks).put ((klP Yba.prog) nw) (lb true)) es (.slice pa ks.length pcap) es' cb w4.heap.size w4 :=
              ⟨j4, po4, jo4, hcb4, fun k e => (po4.lt k e).2, fun k e => (jo4.lt k e).2, by have := j4.r1.box.lt; omega, Nat.le_refl _⟩
            clear j3 po3 jo3 hcb3 bT3 t0 t1 t2 j4 po4 hcb4 hj4 jo4 hm4 k4 hpj hcbg
            generalize hx : exps nw m = x at haf ⊢
            have HX := hide hx
            clear hx
            generalize w4.heap.size = B2 at s4
            go_wp2_with fail
            go_loopw [100, 21, 22] (fun iv wv fv wr => ∃ (k : Nat) (wl : List Nat) (fd : Bool), iv = .int .i64 k ∧ k ≤ ks.length ∧ fv = .bool fd ∧ Hid (wl = wantL nw cb x (ks.take k) (es.take k)) ∧ Hid (fd = (ks.take k).any (fun q => same q nw)) ∧ S4 w nw (.slice ka ks.length kcap) ks jb mb jv' (ks.length + 1) (((D0P Yba.prog) ks).put ((klP Yba.prog) nw) (lb true)) es (.slice pa ks.length pcap) es' cb B2 wr ∧ wr.ownsRow B2 40 1 wv wl.length (ptrs wl)) (fun iv _ _ _ => ks.length - (intOf iv).toNat)
            case atStart => exact ⟨0, [], false, rfl, Nat.zero_le _, rfl, rfl, rfl, s4, World.ownsRow_nil _ _ _ _⟩
            case round =>
              clear s4
              obtain ⟨k, wl, fd, rfl, hk4, rfl, hwl, hfd, s4, wo⟩ := hrel
              have hwll : wl.length ≤ 1024 := by
                have h1 := want_len nw cb x (ks.take k) (es.take k)
                have h2 := hwl.out
                have h3 : (ks.take k).length ≤ ks.length := by simp; omega
                rw [← h2] at h1
                omega
              by_cases hlt4 : k < ks.length
              · obtain ⟨g, rfl⟩ := hka (by omega)
                have hat := kcells_at ks k hlt4
                have d0 := own_cell s4.j.r1.row hat.1
                have d1 := own_cell s4.j.r1.row hat.2.1
                have d2 := own_cell s4.j.r1.row hat.2.2.1
                have d3 := own_cell s4.j.r1.row hat.2.2.2
                have hqo := hok (kAt ks k) (kAt_mem ks k hlt4)
                have hws := want_step nw cb x ks es k Hel.out hlt4
                have has := any_step ks nw k hlt4
                have hpo := s4.po
                generalize hqq : kAt ks k = q at *
                have HQ := hide hqq
                have HWS := hide hws
                have HAS := hide has
                clear hat hqq hws has
                obtain ⟨wa, wcap, rfl, _⟩ := own_form wo
                have hki : (k : Int) < ks.length := by omega
                have hb4 := s4.j.r1.box.alloc (.cells #[.int .u8 q.n, .int .u8 q.d, .int .u8 q.p, .int .i64 q.e] 24)
                have b0 := hb4.cell 0
                have b1 := hb4.cell 1
                have b2 := hb4.cell 2
                have b3 := hb4.cell 3
                simp only [Ck.cells] at b0 b1 b2 b3
                clear hb4
                go_wp2_with fail
                rw [show (#[.int .u8 nw.n, .int .u8 nw.d, .int .u8 nw.p, .int .i64 nw.e] : Array Value) = nw.cells from rfl, show (#[.int .u8 q.n, .int .u8 q.d, .int .u8 q.p, .int .i64 q.e] : Array Value) = q.cells from rfl]
                refine (same_any q nw hqo hnw _).mono ?_
                rintro r w5 ⟨rfl, k5⟩
                have k5' := ((Kept.refl (fun _ => False) wr).alloc (.cells q.cells 24)).trans k5
                have s5 := s4.mono k5'
                have wo5 := hide (k5'.own wo (fun _ _ h => h))
                have hs5 := s5.bs
                clear d0 d1 d2 d3 b0 b1 b2 b3 k5 s4 wo hpo k5'
                cases hs : same q nw with
                | true =>
                  rw [hs] at HAS
                  rw [piece_same hs] at HWS
                  clear hs
                  cases x with
                  | true =>
                    go_wp2
                    go_roundw
                    case rel => exact ⟨k + 1, wl, true, by go_num, by omega, rfl, hide (by have := HWS.out; rw [← hwl.out] at this; simpa using this.symm), hide (by have := HAS.out; rw [Bool.or_true] at this; exact this.symm), s5, wo5.out⟩
                    case measure => simp [intOf]; omega
                  | false =>
                    go_wp2_with (at_builtin; refine wpList_append_lies _ rfl _ _ 37 rfl B2 40 i40 (.pointer none) 1 8 Yba.underlying37 hi40 hz40 hz401 hz402 rfl (by decide) _ wl.length (ptrs wl) rfl (wo5.out.alloc _) ⟨w5.heap.size, 0, none⟩ 1 1 [.pointer (some ⟨cb, 0, none⟩)] rfl rfl (World.news_of_block (heap_alloc_new w5 _)) ?c1 (by decide) ?c2 ?c3 ?c4 _ rfl ?_)
                    case c1 => intro u hu; simp at hu; subst hu; rfl
                    case c2 => unfold maxLen; omega
                    case c3 => omega
                    case c4 => simp; omega
                    intro g6 cp6 w6 own6 grow6 hat6 hlt6
                    have s6 := s5.row wo5.out (((Kept.refl _ _).alloc _).grown grow6 (fun _ _ e => e))
                    rw [ptrs_snoc] at own6
                    have own6' : w6.ownsRow B2 40 1 (.slice (some ⟨g6, 0, none⟩) (wl.length + 1) cp6) (wl ++ [cb]).length (ptrs (wl ++ [cb])) := by rw [List.length_append]; exact own6
                    clear own6 grow6 hat6 s5 wo5
                    go_wp2
                    go_roundw
                    case rel => exact ⟨k + 1, wl ++ [cb], true, by go_num, by omega, rfl, hide (by have := HWS.out; rw [← hwl.out] at this; simpa using this.symm), hide (by have := HAS.out; rw [Bool.or_true] at this; exact this.symm), s6, own6'⟩
                    case measure => simp [intOf]; omega
                | false =>
                  rw [hs, Bool.or_false] at HAS
                  rw [piece_other hs] at HWS
                  clear hs
                  obtain ⟨gp, rfl⟩ : ∃ gp, pa = some ⟨gp, 0, none⟩ := by
                    obtain ⟨a', c', e, h⟩ := own_form s5.po
                    simp at e
                    obtain ⟨rfl, rfl⟩ := e
                    exact h (by omega)
                  have cP : w5.cell? ⟨gp, k, none⟩ = some (.pointer (some ⟨pAt es k, 0, none⟩)) := own_cell s5.po (ptr_at es k (by rw [Hel.out]; omega))
                  generalize pAt es k = pe at *
                  go_wp2_with (at_builtin; refine wpList_append_lies _ rfl _ _ 37 rfl B2 40 i40 (.pointer none) 1 8 Yba.underlying37 hi40 hz40 hz401 hz402 rfl (by decide) _ wl.length (ptrs wl) rfl (wo5.out.alloc _) ⟨w5.heap.size, 0, none⟩ 1 1 [.pointer (some ⟨pe, 0, none⟩)] rfl rfl (World.news_of_block (heap_alloc_new w5 _)) ?c1 (by decide) ?c2 ?c3 ?c4 _ rfl ?_)
                  case c1 => intro u hu; simp at hu; subst hu; rfl
                  case c2 => unfold maxLen; omega
                  case c3 => omega
                  case c4 => simp; omega
                  intro g6 cp6 w6 own6 grow6 hat6 hlt6
                  have s6 := s5.row wo5.out (((Kept.refl _ _).alloc _).grown grow6 (fun _ _ e => e))
                  rw [ptrs_snoc] at own6
                  have own6' : w6.ownsRow B2 40 1 (.slice (some ⟨g6, 0, none⟩) (wl.length + 1) cp6) (wl ++ [pe]).length (ptrs (wl ++ [pe])) := by rw [List.length_append]; exact own6
                  clear own6 grow6 hat6 s5 wo5 cP
                  go_wp2
                  go_roundw
                  case rel => exact ⟨k + 1, wl ++ [pe], fd, by go_num, by omega, rfl, by have := HWS.out; rw [← hwl.out] at this; exact this.symm, by have := HAS.out; rw [← hfd.out] at this; exact this.symm, s6, own6'⟩
                  case measure => simp [intOf]; omega
              · have hkn : k = ks.length := by omega
                subst hkn
                have e1 : ks.take ks.length = ks := List.take_length
                have e2 : es.take ks.length = es := by rw [← Hel.out]; exact List.take_length
                rw [e1, e2] at hwl
                rw [e1] at hfd
                have hall := want_all ks es nw cb x es' Hel.out hap (HX.out ▸ haf)
                rw [← hwl.out, ← hfd.out] at hall
                have HALL := hide hall
                clear e1 e2 hwl hall hlt4 hk4
                obtain ⟨wa, wcap, rfl, _⟩ := own_form wo
                go_upto_region 42 with (fail)
                go_cut [127] from 122 to 127 (fun v w' => v = .bool (!fd && !x) ∧ w' = wr)
                case first =>
                  cases fd <;> cases x <;> go_wp2 <;> go_meet
                  all_goals exact ⟨rfl, rfl⟩
                case rest =>
                  obtain ⟨rfl, rfl⟩ := hcut
                  go_upto_if 127 with (fail)
                  go_cut [21] from 122 to 131 (fun wv w' => S4 w nw (.slice ka ks.length kcap) ks jb mb jv' (ks.length + 1) (((D0P Yba.prog) ks).put ((klP Yba.prog) nw) (lb true)) es (.slice pa ks.length pcap) es' cb B2 w' ∧ w'.ownsRow B2 40 1 wv es'.length (ptrs es'))
                  case first =>
                    have woH := hide wo
                    have hs5 := s4.bs
                    cases hc : (!fd && !x) with
                    | true =>
                      rw [hc] at HALL
                      clear hc wo
                      go_wp2_with (at_builtin; refine wpList_append_lies _ rfl _ _ 37 rfl B2 40 i40 (.pointer none) 1 8 Yba.underlying37 hi40 hz40 hz401 hz402 rfl (by decide) _ wl.length (ptrs wl) rfl (woH.out.alloc _) ⟨wc.heap.size, 0, none⟩ 1 1 [.pointer (some ⟨cb, 0, none⟩)] rfl rfl (World.news_of_block (heap_alloc_new wc _)) ?c1 (by decide) ?c2 ?c3 ?c4 _ rfl ?_)
                      case c1 => first | rfl | (intro u hu; simp at hu; subst hu; rfl)
                      case c2 => unfold maxLen; omega
                      case c3 => omega
                      case c4 => first | omega | (simp; omega)
                      intro g6 cp6 w6 own6 grow6 hat6 hlt6
                      have s6 := s4.row woH.out (((Kept.refl _ _).alloc _).grown grow6 (fun _ _ e => e))
                      rw [ptrs_snoc] at own6
                      have own6' : w6.ownsRow B2 40 1 (.slice (some ⟨g6, 0, none⟩) (wl.length + 1) cp6) (wl ++ [cb]).length (ptrs (wl ++ [cb])) := by rw [List.length_append]; exact own6
                      clear own6 grow6 hat6 s4 woH
                      have := HALL.out
                      simp only [if_true] at this
                      rw [this] at own6'
                      clear this
                      go_wp2
                      go_meet
                      case rel => exact ⟨s6, own6'⟩
                    | false =>
                      rw [hc] at HALL
                      clear hc
                      have := HALL.out
                      simp at this
                      rw [this] at wo
                      rw [this]
                      clear this
                      go_wp2
                      go_meet
                      case rel => exact ⟨s4, wo⟩
                  case rest =>
                    clear s4 wo HALL
                    obtain ⟨s4, wo⟩ := hcut
                    obtain ⟨wa2, wcap2, rfl, hwa⟩ := own_form wo
                    obtain ⟨ja, jcap, rfl, hja⟩ := own_form s4.jo
                    have j5 := s4.j.jar.cell 5
                    simp only [jar] at j5
                    go_wp2_with fail
                    clear j5
                    have hel5 := after_len haf Hel.out
                    go_loopw [142] (fun iv wr => ∃ k : Nat, iv = .int .i64 k ∧ k ≤ es'.length ∧ Kept (fun _ => False) wc wr) (fun iv _ => es'.length - (intOf iv).toNat)
                    case atStart => exact ⟨0, rfl, Nat.zero_le _, Kept.refl _ _⟩
                    case round =>
                      obtain ⟨k5, rfl, hk5, kr⟩ := hrel
                      by_cases hlt5 : k5 < es'.length
                      · obtain ⟨gw, rfl⟩ := hwa (by omega)
                        obtain ⟨gj, rfl⟩ := hja (by omega)
                        have hki : (k5 : Int) < es'.length := by omega
                        go_wp2_with fail
                        obtain ⟨X, f, hne, hf, hto⟩ := cls (Kept (fun _ => False) wr) wr.drew (Kept.refl _ _).drew
                        have HC := hide (hto _ (Kept.refl (fun _ => False) wr).drew)
                        have r5 : ∀ x, (f x).cell? ⟨jb, 5, none⟩ = some (.slice (some ⟨gj, 0, none⟩) es'.length jcap) := fun x => ((hf x).blk (kr.blk s4.j.jar id) id).cell 5
                        have rj : ∀ x, (f x).cell? ⟨gj, k5, none⟩ = some (.pointer (some ⟨pAt es' k5, 0, none⟩)) := fun x => own_cell ((hf x).own (kr.own s4.jo (fun _ _ h => h)) (fun _ _ h => h)) (ptr_at es' k5 hlt5)
                        have rw' : ∀ x, (f x).cell? ⟨gw, k5, none⟩ = some (.pointer (some ⟨pAt es' k5, 0, none⟩)) := fun x => own_cell ((hf x).own (kr.own wo (fun _ _ h => h)) (fun _ _ h => h)) (ptr_at es' k5 hlt5)
                        have hq : ∀ x, (binOp .neq 40 (.pointer (some ⟨pAt es' k5, 0, none⟩)) (.pointer (some ⟨pAt es' k5, 0, none⟩))).run Yba.prog (f x) = .ok (.bool false) (f x) := fun x => neq40 _ _
                        clear hto hf
                        refine wp_region_seq (fun w' => ∃ x, w' = f x) [(true, 0), (true, 1), (true, 2), (true, 3), (true, 4), (true, 5), (true, 6), (true, 7), (true, 8), (true, 9), (true, 10), (true, 11)] (by kernel_rfl) (by kernel_rfl) (fun _ _ _ _ _ h => h) ?_
                        simp only [pickS, List.getElem?_cons_zero, List.getElem?_cons_succ]
                        iterate 12
                          refine wpSeq_quiet HC.out (fun K hK => ?_)
                          go_simp
                          refine hK _ ?_
                          clear hK K
                        clear r5 rj rw' hq HC hne
                        refine wpSeq_nil ?_
                        go_wp2
                        go_roundw
                        case rel => exact ⟨k5 + 1, by go_num, by omega, kr.drew⟩
                        case measure => simp [intOf]; omega
                      · have hkn : k5 = es'.length := by omega
                        subst hkn
                        have s5 := s4.mono kr
                        clear s4 wo kr hwa hja
                        go_upto_if 161 with (fail)
                        go_cut [26] from 158 to 163 (fun v w' => ∃ N : Nat, v = .int .i64 N ∧ Hid (N = if fd then ks.length else ks.length + 1) ∧ w' = wr)
                        case first =>
                          cases fd
                          · go_wp2
                            go_meet
                            case rel => exact ⟨ks.length + 1, by go_num, hide rfl, rfl⟩
                          · go_wp2
                            go_meet
                            case rel => exact ⟨ks.length, rfl, hide rfl, rfl⟩
                        case rest =>
                          obtain ⟨N, rfl, hN, rfl⟩ := hcut
                          have hsz := D1_size ks hok hap nw hnw
                          rw [← hfd.out, ← hN.out] at hsz
                          have hlenm : ∀ ty, (Builtin.len_ #[27] ty #[.map (some mb)]).run Yba.prog wc = .ok (.int .i64 (N : Int)) wc := fun ty => by
                            have := s5.j.map.len Yba.underlying27 ty
                            rw [hsz] at this
                            exact this
                          have j6 := s5.j.jar.cell 6
                          simp only [jar] at j6
                          clear hsz
                          go_wp2_with fail
                          clear hlenm j6
                          obtain ⟨X, f, hne, hf, hto⟩ := cls (Kept (fun _ => False) wc) wc.drew (Kept.refl _ _).drew
                          have Hto := hide hto
                          have HC := hide (Hto.out _ (Kept.refl (fun _ => False) wc).drew)
                          have r6 : ∀ x, (f x).cell? ⟨jb, 6, none⟩ = some (.map (some mb)) := fun x => ((hf x).blk s5.j.jar id).cell 6
                          have hlk : ∀ x, (Instr.lookup 27 (.map (some mb)) (keyV nw) true).run Yba.prog (f x) = .ok (.tuple #[.bool true, .bool true]) (f x) := fun x =>
                            look_bool nw ((hf x).map s5.j.map id) (by rw [D1_at ks nw nw hnw hnw, same_self]) (D1_has ks hok nw nw hnw hnw (.inl (same_self nw)))
                          clear hto hf
                          refine wp_region_seq (fun w' => ∃ x, w' = f x) [(true, 0), (true, 1), (true, 2), (true, 3), (true, 4), (false, 5), (true, 6), (true, 7), (true, 8), (true, 9), (true, 10), (true, 11)] (by kernel_rfl) (by kernel_rfl) (fun _ _ _ _ _ h => h) ?_
                          simp only [pickS, List.getElem?_cons_zero, List.getElem?_cons_succ]
                          iterate 5
                            refine wpSeq_quiet HC.out (fun K hK => ?_)
                            go_simp
                            refine hK _ ?_
                            clear hK K
                          refine wpSeq_forced (fun K hK => ?_)
                          go_simp
                          refine (id_any nw cb _ s5.cb.drew).mono ?_
                          rintro r w6 ⟨rfl, k6⟩
                          have k6' : Kept (fun _ => False) wc w6 := (Kept.refl _ _).drew.trans k6
                          refine hK _ _ (Hto.out _ k6') ?_
                          clear hK K k6
                          have HC1 := hide (Hto.out _ k6')
                          iterate 6
                            refine wpSeq_quiet HC1.out (fun K hK => ?_)
                            go_simp
                            refine hK _ ?_
                            clear hK K
                          refine wpSeq_nil ?_
                          have s6 := s5.mono k6'
                          clear HC HC1 Hto r6 hlk hne s5 k6'
                          go_wp2_with fail
                          go_loopw [189] (fun iv wr => ∃ k : Nat, iv = .int .i64 k ∧ k ≤ ks.length ∧ Kept (fun _ => False) w6 wr) (fun iv _ => ks.length - (intOf iv).toNat)
                          case atStart => exact ⟨0, rfl, Nat.zero_le _, Kept.refl _ _⟩
                          case round =>
                            obtain ⟨k6, rfl, hk6, kr⟩ := hrel
                            have s7 := s6.mono kr
                            by_cases hlt6 : k6 < ks.length
                            · obtain ⟨g, rfl⟩ := hka (by omega)
                              have hat := kcells_at ks k6 hlt6
                              have d0 := own_cell s7.j.r1.row hat.1
                              have d1 := own_cell s7.j.r1.row hat.2.1
                              have d2 := own_cell s7.j.r1.row hat.2.2.1
                              have d3 := own_cell s7.j.r1.row hat.2.2.2
                              have hqo := hok (kAt ks k6) (kAt_mem ks k6 hlt6)
                              have hD1 := D1_at ks nw (kAt ks k6) hnw hqo
                              have hD2 := D1_has ks hok nw (kAt ks k6) hnw hqo (.inr (kAt_mem ks k6 hlt6))
                              have hpb := s7.j.cks.blk k6 hlt6
                              generalize kAt ks k6 = q at *
                              obtain ⟨gp, rfl⟩ : ∃ gp, pa = some ⟨gp, 0, none⟩ := by
                                obtain ⟨a', c', e, h⟩ := own_form s7.po
                                simp at e
                                obtain ⟨rfl, rfl⟩ := e
                                exact h (by omega)
                              have hki : (k6 : Int) < ks.length := by omega
                              have HD1 := hide hD1
                              have HD2 := hide hD2
                              clear hat hD1 hD2
                              go_wp2_with fail
                              generalize hW : wr.alloc (.cells #[.int .u8 q.n, .int .u8 q.d, .int .u8 q.p, .int .i64 q.e] 24) = W
                              have kW : Kept (fun _ => False) wr W := by rw [← hW]; exact (Kept.refl _ _).alloc _
                              have bQ : Blk W wr.heap.size #[.int .u8 q.n, .int .u8 q.d, .int .u8 q.p, .int .i64 q.e] 24 := by rw [← hW]; exact Blk.new _ _ _
                              have s8 := s7.mono kW
                              have hpb8 := kW.blk hpb id
                              clear hW d0 d1 d2 d3 s7 hpb
                              obtain ⟨X, f, hne, hf, hto⟩ := cls (Kept (fun _ => False) W) W.drew (Kept.refl _ _).drew
                              have Hto := hide hto
                              have HC := hide (Hto.out _ (Kept.refl (fun _ => False) W).drew)
                              have r6 : ∀ x, (f x).cell? ⟨jb, 6, none⟩ = some (.map (some mb)) := fun x => ((hf x).blk s8.j.jar id).cell 6
                              have rp : ∀ x, (f x).cell? ⟨gp, k6, none⟩ = some (.pointer (some ⟨pAt es k6, 0, none⟩)) := fun x => own_cell ((hf x).own s8.po (fun _ _ h => h)) (ptr_at es k6 (by rw [Hel.out]; omega))
                              have hlk : ∀ x, (Instr.lookup 27 (.map (some mb)) (keyV q) true).run Yba.prog (f x) = .ok (.tuple #[.bool (same q nw), .bool true]) (f x) := fun x =>
                                look_bool q ((hf x).map s8.j.map id) HD1.out HD2.out
                              clear hto hf
                              refine wp_region_seq (fun w' => ∃ x, w' = f x) [(true, 0), (true, 1), (true, 2), (true, 3), (true, 4), (true, 5), (true, 6), (true, 7), (false, 8), (true, 9), (true, 10), (true, 11), (true, 12), (true, 13), (true, 14)] (by kernel_rfl) (by kernel_rfl) (fun _ _ _ _ _ h => h) ?_
                              simp only [pickS, List.getElem?_cons_zero, List.getElem?_cons_succ]
                              iterate 8
                                refine wpSeq_quiet HC.out (fun K hK => ?_)
                                go_simp
                                refine hK _ ?_
                                clear hK K
                              refine wpSeq_forced (fun K hK => ?_)
                              go_simp
                              refine (id_any q (pAt es k6) _ hpb8.drew).mono ?_
                              rintro r w9 ⟨rfl, k9⟩
                              have k9' : Kept (fun _ => False) W w9 := (Kept.refl _ _).drew.trans k9
                              refine hK _ _ (Hto.out _ k9') ?_
                              clear hK K k9
                              have HC1 := hide (Hto.out _ k9')
                              iterate 6
                                refine wpSeq_quiet HC1.out (fun K hK => ?_)
                                go_simp
                                refine hK _ ?_
                                clear hK K
                              refine wpSeq_nil ?_
                              have s9 := s8.mono k9'
                              have bQ9 := k9'.blk bQ id
                              have kr9 := kr.trans (kW.trans k9')
                              clear HC HC1 Hto r6 rp hlk hne s8 k9' bQ hpb8 kW HD1 HD2 kr
                              have q0 := bQ9.cell 0
                              have q1 := bQ9.cell 1
                              have q2 := bQ9.cell 2
                              have q3 := bQ9.cell 3
                              have b0 := s9.j.r1.box.cell 0
                              have b1 := s9.j.r1.box.cell 1
                              have b2 := s9.j.r1.box.cell 2
                              have b3 := s9.j.r1.box.cell 3
                              simp only [Ck.cells] at b0 b1 b2 b3
                              go_wp2_with fail
                              rw [show (#[.int .u8 nw.n, .int .u8 nw.d, .int .u8 nw.p, .int .i64 nw.e] : Array Value) = nw.cells from rfl, show (#[.int .u8 q.n, .int .u8 q.d, .int .u8 q.p, .int .i64 q.e] : Array Value) = q.cells from rfl]
                              refine (same_any q nw hqo hnw _).mono ?_
                              rintro r w10 ⟨rfl, k10⟩
                              have kr10 := kr9.trans k10
                              clear q0 q1 q2 q3 b0 b1 b2 b3 bQ9 s9 kr9 k10
                              cases same q nw <;> go_wp2 <;> go_roundw
                              case rel => exact ⟨k6 + 1, by go_num, by omega, kr10⟩
                              case measure => simp [intOf]; omega
                              case rel => exact ⟨k6 + 1, by go_num, by omega, kr10⟩
                              case measure => simp [intOf]; omega
                            · have hkn : k6 = ks.length := by omega
                              subst hkn
                              go_wp2
                              go_ret
                              exact ⟨rfl, s7.j.r1.kept⟩
end Go.Proofs.Ybulkdbfi
