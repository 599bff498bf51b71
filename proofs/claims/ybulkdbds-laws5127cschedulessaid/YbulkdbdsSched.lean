import Derived.Test.YbulkdbdsPush
namespace Go.Proofs.Ybulkdbds
open Go.RowKit Go.HeadTail

attribute [local go_sem] yields yUpon

set_option maxHeartbeats 3200000 in
set_option maxRecDepth 100000 in
theorem schedule_any (cb base n : Nat) (at_ : Nat → Int) (E σ : Nat → Nat) (e d : Int) (c0 c1 c2 c3 c4 c5 qv : Value) (w : World)
    (hb : Blk w cb #[c0, c1, c2, c3, c4, c5, .int .i64 e, qv, .int .u64 n, .int .i64 n] 40) (hq : w.ownsRow base 44 3 qv n (qcells at_ E σ n)) (hh : Heap at_ σ n) (hn : n < 100000) (hbase : base ≤ w.heap.size)
    (he0 : 0 ≤ e) (he1 : e ≤ 9223372036854775807) (hd0 : -9223372036854775808 ≤ d) (hd1 : d ≤ 9223372036854775807) (hat : at_ n = laterf e d) :
    Calls Yba.prog 13 #[.pointer (some ⟨cb, 0, none⟩), .int .i64 d, .iface 45 (.pointer (some ⟨E n, 0, none⟩))] w fun r w' => r = .returned (.tuple #[]) ∧
      ∃ g cap σ', Blk w' cb #[c0, c1, c2, c3, c4, c5, .int .i64 e, .slice (some ⟨g, 0, none⟩) (n + 1) cap, .int .u64 (n + 1 : Nat), .int .i64 (n + 1 : Nat)] 40 ∧ w'.ownsRow base 44 3 (.slice (some ⟨g, 0, none⟩) (n + 1) cap) (n + 1) (qcells at_ E σ' (n + 1)) ∧ Heap at_ σ' (n + 1) ∧
        Kept (fun k => k = cb ∨ qv.ownBlock = some k) w w' := by
  have Hat := hide hat
  clear hat
  have d6 : w.cell? ⟨cb, 6, none⟩ = some (.int .i64 e) := hb.cell 6
  have d8 : w.cell? ⟨cb, 8, none⟩ = some (.int .u64 n) := hb.cell 8
  go_enter Yba.func13, Yba.ntmps13
  obtain ⟨X, f, hne, hf, hto⟩ := cls (fun w' => w'.cell? ⟨cb, 6, none⟩ = some (.int .i64 e) ∧ w'.cell? ⟨cb, 8, none⟩ = some (.int .u64 n)) w.drew ⟨d6, d8⟩
  have Hto := hide hto
  have r0 := fun x => (hf x).1
  have r1 := fun x => (hf x).2
  clear hf hto
  go_wp2_with fail
  refine wp_region_headTail (fun w' => ∃ x, w' = f x) [0, 1, 2, 3, 4, 5, 6, 7, 9, 10, 11, 12, 13] [8, 14, 15] 16 (by kernel_rfl) (by kernel_rfl) (fun _ _ _ _ _ h => h) (Hto.out _ ⟨d6, d8⟩) ?_
  simp only [pick, List.getElem?_cons_zero, List.getElem?_cons_succ, List.map_cons, List.map_nil]
  iterate 13
    refine wpHead_step (fun K hK => ?_)
    go_simp
    refine hK _ ?_
    clear hK K
  clear r0 r1
  refine wpHead_nil ?_
  refine wpTail_plain rfl (fun K hK => ?_)
  go_simp
  refine (later_any e d _ he0 he1 hd0 hd1).mono ?_
  rintro r w' ⟨rfl, rfl⟩
  rw [← Hat.out]
  refine hK _ _ (fun _ => Hto.out _ ⟨d6, d8⟩) ?_
  clear hK K
  refine wpTail_plain rfl (fun K hK => ?_)
  go_simp
  refine hK _ _ (fun _ => Hto.out _ ⟨d6, d8⟩) ?_
  clear hK K
  refine wpTail_plain rfl (fun K hK => ?_)
  go_simp
  refine (push_any cb base n at_ E σ c0 c1 c2 c3 c4 c5 _ _ _ qv _ hb.drew (own_drew hq) hh hn hbase).mono ?_
  rintro r w2 ⟨rfl, g, cap, σ', hb2, hq2, hh2, hk2⟩
  refine hK _ _ (fun _ => Hto.out _ ⟨hb2.cell 6, hb2.cell 8⟩) ?_
  clear hK K
  refine wpTail_nil ?_
  have e8 : w2.cell? ⟨cb, 8, none⟩ = some (.int .u64 n) := hb2.cell 8
  have e9 : w2.cell? ⟨cb, 9, none⟩ = some (.int .i64 n) := hb2.cell 9
  have f8 : w2.frozen? ⟨cb, 8, none⟩ = false := hb2.frozen 8
  have f9 : w2.frozen? ⟨cb, 9, none⟩ = false := hb2.frozen 9
  have hgc : g ≠ cb := fun e => own_ne hq2 hb2 (by decide) (by simp [Value.ownBlock, e])
  have fin : Blk ((w2.setCell ⟨cb, 8, none⟩ (.int .u64 ((n : Int) + 1))).setCell ⟨cb, 9, none⟩ (.int .i64 ((n : Int) + 1))) cb #[c0, c1, c2, c3, c4, c5, .int .i64 e, .slice (some ⟨g, 0, none⟩) (n + 1) cap, .int .u64 (n + 1 : Nat), .int .i64 (n + 1 : Nat)] 40 :=
    (hb2.set 8 (.int .u64 ((n : Int) + 1))).set 9 (.int .i64 ((n : Int) + 1))
  have fin2 : Kept (fun k => k = cb ∨ qv.ownBlock = some k) w ((w2.setCell ⟨cb, 8, none⟩ (.int .u64 ((n : Int) + 1))).setCell ⟨cb, 9, none⟩ (.int .i64 ((n : Int) + 1))) :=
    ((((Kept.refl _ _).drew).trans hk2).set (fun _ => .inl rfl) _).set (fun _ => .inl rfl) _
  have fin3 : ((w2.setCell ⟨cb, 8, none⟩ (.int .u64 ((n : Int) + 1))).setCell ⟨cb, 9, none⟩ (.int .i64 ((n : Int) + 1))).ownsRow base 44 3 (.slice (some ⟨g, 0, none⟩) (n + 1) cap) (n + 1) (qcells at_ E σ' (n + 1)) :=
    own_set (own_set hq2 _ _ (by simpa [Value.ownBlock] using hgc)) _ _ (by simpa [Value.ownBlock] using hgc)
  clear hb hq hb2 hq2 hk2 d6 d8
  go_wp2
  go_end0
  exact ⟨rfl, g, cap, σ', fin, fin3, hh2, fin2⟩

set_option maxHeartbeats 3200000 in
theorem after_any (cb base n : Nat) (at_ : Nat → Int) (E σ : Nat → Nat) (e d : Int) (c0 c1 c2 c3 c4 c5 qv : Value) (fn : Fn) (fs cs : Array Value) (w : World)
    (hb : Blk w cb #[c0, c1, c2, c3, c4, c5, .int .i64 e, qv, .int .u64 n, .int .i64 n] 40) (hq : w.ownsRow base 44 3 qv n (qcells at_ E σ n)) (hh : Heap at_ σ n) (hn : n < 100000) (hbase : base ≤ w.heap.size)
    (he0 : 0 ≤ e) (he1 : e ≤ 9223372036854775807) (hd0 : -9223372036854775808 ≤ d) (hd1 : d ≤ 9223372036854775807) (hat : at_ n = laterf e d) (hE : E n = w.heap.size) :
    Calls Yba.prog 7 #[.pointer (some ⟨cb, 0, none⟩), .int .i64 d, .func fn fs cs] w fun r w' => r = .returned (.iface 45 (.pointer (some ⟨w.heap.size, 0, none⟩))) ∧
      ∃ g cap σ', Blk w' cb #[c0, c1, c2, c3, c4, c5, .int .i64 e, .slice (some ⟨g, 0, none⟩) (n + 1) cap, .int .u64 (n + 1 : Nat), .int .i64 (n + 1 : Nat)] 40 ∧ w'.ownsRow base 44 3 (.slice (some ⟨g, 0, none⟩) (n + 1) cap) (n + 1) (qcells at_ E σ' (n + 1)) ∧ Heap at_ σ' (n + 1) ∧
        Blk w' w.heap.size #[.pointer (some ⟨cb, 0, none⟩), .func fn fs cs] 48 ∧ Kept (fun k => k = cb ∨ qv.ownBlock = some k) w w' := by
  have HE := hide hE
  have hat' := hide hat
  clear hE hat
  go_enter Yba.func7, Yba.ntmps7
  go_wp2_with fail
  rw [← HE.out]
  refine (schedule_any cb base n at_ E σ e d c0 c1 c2 c3 c4 c5 qv _ (hb.alloc _) (hq.alloc _) hh hn (by simp; omega) he0 he1 hd0 hd1 hat'.out).mono ?_
  rintro r w2 ⟨rfl, g, cap, σ', hb2, hq2, hh2, hk2⟩
  have bE : Blk w2 w.heap.size #[.pointer (some ⟨cb, 0, none⟩), .func fn fs cs] 48 := hk2.blk (Blk.new _ _ _) (by
    rintro (h | h)
    · have := hb.lt; omega
    · have := hq.lt _ h; omega)
  have kk := ((Kept.refl (fun k => k = cb ∨ qv.ownBlock = some k) w).alloc _).trans hk2
  clear hb hq hk2
  go_wp2
  go_ret
  refine ⟨?_, g, cap, σ', hb2, hq2, hh2, bE, kk⟩
  rw [HE.out]; rfl
#print axioms after_any

theorem info3 : (Yba.prog.info? 3).map (fun i => (i.zero, i.size, i.bytes)) = some (some (.int .i64 0), 1, 8) := by kernel_rfl

set_option maxHeartbeats 1600000 in
theorem logf_any (lb kb base n : Nat) (k : Int) (v : Value) (xs : List Value) (w : World) (hl : Blk w lb #[v] 32) (hk : Blk w kb #[.int .i64 k] 3) (hown : w.ownsRow base 3 1 v n xs) (hn : n < 100000) (hbase : base ≤ w.heap.size) :
    Calls Yba.prog 8 #[.pointer (some ⟨lb, 0, none⟩), .pointer (some ⟨kb, 0, none⟩)] w fun r w' => r = .returned (.tuple #[]) ∧
      ∃ g cap, Blk w' lb #[.slice (some ⟨g, 0, none⟩) (n + 1) cap] 32 ∧ w'.ownsRow base 3 1 (.slice (some ⟨g, 0, none⟩) (n + 1) cap) (n + 1) (xs ++ [.int .i64 k]) ∧ Kept (fun x => x = lb ∨ v.ownBlock = some x) w w' := by
  obtain ⟨i0, hi0, hz0, hz1, hz2⟩ := info_parts info3
  have hlv : v.ownBlock ≠ some lb := own_ne hown hl (by decide)
  have hllt := hl.lt
  have c1 : w.cell? ⟨lb, 0, none⟩ = some v := hl.cell 0
  have c2 : w.cell? ⟨kb, 0, none⟩ = some (.int .i64 k) := hk.cell 0
  have own1 := hide hown
  have hl1 := hide hl
  clear hown hk hl
  go_enter Yba.func8, Yba.ntmps8
  go_wp2_with (at_builtin; refine wpList_append_lies _ rfl _ _ 32 rfl base 3 i0 (.int .i64 0) 1 8 Yba.underlying32 hi0 hz0 hz1 hz2 rfl (by decide) v n xs rfl (own1.out.alloc _) ⟨w.heap.size, 0, none⟩ 1 1 [.int .i64 k] rfl rfl (World.news_of_block (heap_alloc_new w _)) ?c1 (by decide) ?c2 ?c3 ?c4 _ rfl ?_)
  case c1 => intro u hu; simp at hu; subst hu; rfl
  case c2 => unfold maxLen; omega
  case c3 => omega
  case c4 => simp; omega
  intro g cap w2 hown2 hgrow hat hlt
  have k2 : Kept (fun x => v.ownBlock = some x) w w2 := ((Kept.refl _ _).alloc _).grown hgrow (fun k _ e => e)
  have hl2 := k2.blk hl1.out hlv
  have f6 : w2.frozen? ⟨lb, 0, none⟩ = false := hl2.frozen 0
  have c6' : w2.cell? ⟨lb, 0, none⟩ = some v := hl2.cell 0
  have hgl : g ≠ lb := by
    rcases hat with h | h
    · intro e; rw [e] at h; exact hlv h
    · have : g = w.heap.size + 1 := by simpa using h
      omega
  clear hgrow
  go_wp2
  go_end0
  exact ⟨rfl, g, cap, hl2.set 0 _, own_set hown2 _ _ (by simpa [Value.ownBlock] using hgl), (k2.mono (fun _ _ h => .inr h)).set (fun _ => .inl rfl) _⟩
end Go.Proofs.Ybulkdbds
