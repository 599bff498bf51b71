import Derived.Test.YbulkdbdsGreatDoorFork
import Derived.Deep.CutRange
namespace Go.Proofs.YbulkdbdsGreatDoor
open Go.RowKit Go.HeadTail
attribute [local go_sem] yields yUpon
section
variable {P : Program} {ops : Array Oper} {Q : Exit → Act → World → Prop} {C : World → Prop}
theorem wpF_load_blk {kf : Nat} {of : Oper} {rest : List (Nat × Nat × Oper)} {op : Oper} {k : Nat} {a : Act} {w : World} (hC : C w) (hgd : op.guard = none) (ty : TypeId) (x : Operand) (ho : op.op = .load ty x)
    (b o n : Nat) (hx : a.eval x = .pointer (some ⟨b, o, none⟩)) {cs : Array Value} {t : TypeId} (hb : ∀ w', C w' → Blk w' b cs t) (vs : Array Value) (hv : cs.extract o (o + n) = vs)
    (hd : ((P.underlying ty).map (·.isRow)).getD false = true) (hi : (P.info? ty).map (·.size) = some vs.size)
    (h : wpF P ops Q C kf of rest (a.put op.dst (.agg vs)) w) : wpF P ops Q C kf of ((0, k, op) :: rest) a w :=
  wpF_value hC hgd (.agg vs) (fun w' hw' => by
    unfold execOp
    simp only [ho, hx, Instr.loadAt, Instr.sureAddr, Sem.run_bind, Sem.run_pure, Result.andThen_ok, (hb w' hw').load o n ty vs hv hd hi]) h
theorem wpF_built {kf : Nat} {of : Oper} {rest : List (Nat × Nat × Oper)} {o : Oper} {k : Nat} {a : Act} {w : World} (hC : C w) (hg : o.guard = none) (t : TypeId) (parts : Array (Nat × Operand)) (ho : o.op = .build t parts) (cells : Array Value)
    (hf : P.built t (parts.map fun (i, x) => (i, a.eval x)).toList = some cells) (h : wpF P ops Q C kf of rest (a.put o.dst (.agg cells)) w) : wpF P ops Q C kf of ((0, k, o) :: rest) a w :=
  wpF_value hC hg (.agg cells) (fun w' _ => by
    unfold execOp
    simp only [ho, Sem.run_bind, run_build w' t _ cells hf, Result.andThen_ok, Sem.run_pure]) h
theorem gen_code {c : Code} {a : Act} {w : World} {cs : Array Value} {t : TypeId} (cs' : Array Value) (hcs : cs = cs')
    (h : ∀ W : World, Kept (fun _ => False) w W → Blk W w.heap.size cs' t → W.heap.size = w.heap.size + 1 → c.wp P Q a W) : c.wp P Q a (w.alloc (.cells cs t)) := by
  subst hcs; exact h _ ((Kept.refl _ _).alloc _) (Blk.new _ _ _) (by simp)
theorem gen_seq {l : List (Bool × Nat × Oper)} {a : Act} {w : World} {cs : Array Value} {t : TypeId} (cs' : Array Value) (hcs : cs = cs')
    (h : ∀ W : World, Kept (fun _ => False) w W → Blk W w.heap.size cs' t → W.heap.size = w.heap.size + 1 → wpSeq P ops Q C l a W) : wpSeq P ops Q C l a (w.alloc (.cells cs t)) := by
  subst hcs; exact h _ ((Kept.refl _ _).alloc _) (Blk.new _ _ _) (by simp)
theorem gen_seqD {l : List (Bool × Nat × Oper)} {a : Act} {w : World} {cs : Array Value} {t : TypeId} (cs' : Array Value) (hcs : cs = cs')
    (h : ∀ W : World, Kept (fun _ => False) w W → Blk W w.heap.size cs' t → W.heap.size = w.heap.size + 1 → wpSeq P ops Q C l a W) : wpSeq P ops Q C l a (w.alloc (.cells cs t)).drew := by
  subst hcs; exact h _ ((Kept.refl _ _).alloc _).drew (Blk.new _ _ _).drew (by simp)
end

def z18 : Array Value := #[.int .u8 0, .int .u8 0, .int .u8 0, .int .u8 0, .int .u8 0, .int .u8 0, .int .u8 0, .int .u8 0, .int .u8 0, .int .u8 0, .int .u8 0, .int .u8 0, .int .u8 0, .int .u8 0, .int .u8 0, .int .u8 0, .int .u8 0, .int .u8 0]
/-- an entry ahead of its address -/
def ent0 (a b : Int) : Array Value := idv a b ++ z18 ++ #[.int .u8 0, .int .u32 0, .int .u32 0]
theorem ent0_size (a b : Int) : (ent0 a b).size = 41 := by kernel_rfl
theorem ent_size (a b ip p : Int) : (ent a b ip p).size = 41 := by kernel_rfl
theorem ent_laid (a b ip p : Int) : ((lays (ent0 a b) 20 (a16 ip).toList).setIfInBounds 36 (.int .u8 (p / 256))).setIfInBounds 37 (.int .u8 (p % 256)) = ent a b ip p := by kernel_rfl

set_option maxRecDepth 100000 in
set_option maxHeartbeats 1600000 in
theorem newEntry_any (z : Option Addr) (a b ip p : Int) (h0 : 0 ≤ ip) (h1 : ip < 256) (hp0 : 0 ≤ p) (hp1 : p < 65536) (w : World) :
    Calls Ybaz.prog 21 #[.agg (con z a b ip p), .int .i64 0] w fun e w' => e = .returned (.agg (ent a b ip p)) ∧ Kept (fun _ => False) w w' := by
  go_enter Ybaz.func21, Ybaz.ntmps21
  go_wp2_with fail
  refine gen_code (ent0 0 0) (by kernel_rfl) (fun W kW0 bR hsz => ?_)
  have kW : Kept (fun _ => False) w W := ((Kept.refl _ _).alloc _).trans kW0
  have bA : Blk W w.heap.size (con z a b ip p) 50 := kW0.blk (Blk.new _ _ _) id
  replace hsz := hide (hsz.trans (by simp) : W.heap.size = w.heap.size + 2)
  replace bR : Blk W (w.heap.size + 1) (ent0 0 0) 90 := by simpa using bR
  clear kW0
  replace kW := hide kW
  go_cut [5] from 7 to 13 (fun v w' => ∃ bE, v = .pointer (some ⟨bE, 0, none⟩) ∧ Blk w' bE (ent0 a b) 90 ∧ W.heap.size ≤ bE ∧ Kept (fun _ => False) W w')
  case first =>
    obtain ⟨X, f, hne, hf, hto⟩ := cls (Kept (fun _ => False) W) (World.drew W) (Kept.refl _ _).drew
    have HC := hide (hto _ (Kept.refl _ W).drew)
    have Hto := hide hto
    clear hto
    refine wp_region_float (fun w' => ∃ x, w' = f x) 7 _ [(0, 0), (0, 1), (0, 2), (0, 4), (1, 3), (1, 5), (0, 6), (2, 7), (3, 8)] (by kernel_rfl) rfl rfl (by kernel_rfl) (fun _ _ _ _ _ h => h) ?_
    simp only [pickF, List.getElem?_cons_zero, List.getElem?_cons_succ]
    iterate 1
      refine wpF_quiet HC.out (fun K hK => ?_)
      go_simp
      refine hK _ ?_
      clear hK K
    refine wpF_load_blk HC.out rfl 24 _ rfl (w.heap.size) 0 20 rfl (fun w' hw' => by obtain ⟨x, rfl⟩ := hw'; exact (hf x).blk bA id) (idv a b) (by kernel_rfl) (by kernel_rfl) (by kernel_rfl) ?_
    iterate 2
      refine wpF_quiet HC.out (fun K hK => ?_)
      go_simp
      refine hK _ ?_
      clear hK K
    refine wpF_fork (fun K hK => ?_) (fun K hK => ?_)
    · go_simp
      refine (secs_any _).mono ?_
      rintro e w1 ⟨rfl, k1⟩
      refine hK _ _ (Hto.out _ k1.ofDrew) ?_
      clear hK K
      clear HC
      have HC := hide (Hto.out _ k1.ofDrew)
      refine wpF_fork (fun K hK => ?_) (fun K hK => ?_)
      · go_simp
        refine (secs_any _).mono ?_
        rintro e w2 ⟨rfl, k2⟩
        refine hK _ _ (Hto.out _ (k1.trans k2).ofDrew) ?_
        clear hK K
        clear HC
        have HC := hide (Hto.out _ (k1.trans k2).ofDrew)
        refine wpF_built HC.out rfl 90 _ rfl (ent0 a b) (by kernel_rfl) ?_
        refine wpF_now (fun K hK => ?_)
        go_simp
        refine hK _ _ (Hto.out _ ((k1.trans k2).ofDrew.alloc _)) ?_
        clear hK K
        simp only [toSeq]
        refine gen_seq (ent0 0 0) (by kernel_rfl) (fun w3 k3 b3 _ => ?_)
        have k4 : Kept (fun _ => False) W (w3.setCells w2.heap.size 0 (ent0 a b).toList) := Kept.setCells _ _ ((k1.trans k2).ofDrew.trans k3) (fun h => absurd ((k1.trans k2).ofDrew.size) (by omega))
        refine wpSeq_store_blk rfl 90 _ _ rfl (w2.heap.size) 0 (ent0 a b) rfl rfl b3 (by kernel_rfl) (by kernel_rfl) (by kernel_rfl) (Hto.out _ k4) ?_
        refine wpSeq_nil ?_
        go_wp2_with fail
        go_meet
        case rel => exact ⟨_, rfl, b3.setAll _ (by kernel_rfl), (k1.trans k2).ofDrew.size, k4⟩
      · go_simp
        refine hK _ _ (Hto.out _ (k1.ofDrew.alloc _)) ?_
        clear hK K
        simp only [toSeq]
        refine gen_seq (ent0 0 0) (by kernel_rfl) (fun w3 k3 b3 _ => ?_)
        refine wpSeq_forced (fun K hK => ?_)
        go_simp
        refine (secs_any _).mono ?_
        rintro e w2 ⟨rfl, k2⟩
        have kk := k1.ofDrew.trans (k3.trans k2)
        refine hK _ _ (Hto.out _ kk) ?_
        clear hK K
        clear HC
        have HC := hide (Hto.out _ kk)
        refine wpSeq_built HC.out rfl 90 _ rfl (ent0 a b) (by kernel_rfl) ?_
        have k4 : Kept (fun _ => False) W (w2.setCells w1.heap.size 0 (ent0 a b).toList) := Kept.setCells _ _ kk (fun h => absurd k1.ofDrew.size (by omega))
        have b3 := k2.blk b3 id
        refine wpSeq_store_blk rfl 90 _ _ rfl (w1.heap.size) 0 (ent0 a b) rfl rfl b3 (by kernel_rfl) (by kernel_rfl) (by kernel_rfl) (Hto.out _ k4) ?_
        refine wpSeq_nil ?_
        go_wp2_with fail
        go_meet
        case rel => exact ⟨_, rfl, b3.setAll _ (by kernel_rfl), k1.ofDrew.size, k4⟩
    · go_simp
      refine hK _ _ (Hto.out _ ((Kept.refl _ _).drew.alloc _)) ?_
      clear hK K
      simp only [toSeq]
      refine gen_seqD (ent0 0 0) (by kernel_rfl) (fun w3 k3 b3 _ => ?_)
      refine wpSeq_forced (fun K hK => ?_)
      go_simp
      refine (secs_any _).mono ?_
      rintro e w1 ⟨rfl, k1⟩
      refine hK _ _ (Hto.out _ (k3.trans k1)) ?_
      clear hK K
      clear HC
      have HC := hide (Hto.out _ (k3.trans k1))
      refine wpSeq_forced (fun K hK => ?_)
      go_simp
      refine (secs_any _).mono ?_
      rintro e w2 ⟨rfl, k2⟩
      have kk := (k3.trans (k1.trans k2))
      refine hK _ _ (Hto.out _ kk) ?_
      clear hK K
      clear HC
      have HC := hide (Hto.out _ kk)
      refine wpSeq_built HC.out rfl 90 _ rfl (ent0 a b) (by kernel_rfl) ?_
      have k4 : Kept (fun _ => False) W (w2.setCells W.heap.size 0 (ent0 a b).toList) := Kept.setCells _ _ kk (fun h => absurd h (by omega))
      have b3 := k2.blk (k1.blk b3 id) id
      refine wpSeq_store_blk rfl 90 _ _ rfl (W.heap.size) 0 (ent0 a b) rfl rfl b3 (by kernel_rfl) (by kernel_rfl) (by kernel_rfl) (Hto.out _ k4) ?_
      refine wpSeq_nil ?_
      go_wp2_with fail
      go_meet
      case rel => exact ⟨_, rfl, b3.setAll _ (by kernel_rfl), Nat.le_refl _, k4⟩
  case rest =>
    obtain ⟨bE, rfl, bE0, hbE, kE⟩ := hcut
    have bA1 := kE.blk bA id
    have bR1 := kE.blk bR id
    have kk1 : Kept (fun _ => False) w wc := kW.out.trans kE
    have hge : w.heap.size + 2 ≤ bE := by have := hsz.out; omega
    clear bA bR kE kW hsz hbE
    replace kk1 := hide kk1
    go_wp2_with (first | refine wpList_load_blk rfl 47 _ rfl (w.heap.size) 20 4 rfl bA1 (ap z ip p) (by kernel_rfl) (by kernel_rfl) (by kernel_rfl) ?_)
    refine (addr_any _ _ _ _ _).mono ?_
    rintro e w1 ⟨rfl, k1⟩
    go_wp2_with fail
    refine (as16_any ip h0 h1 _ _).mono ?_
    rintro e w2 ⟨rfl, k2⟩
    have k12 := k1.trans k2
    have bA2 := k12.blk bA1 id
    have bR2 := k12.blk bR1 id
    have bE2 := k12.blk bE0 id
    have kk2 := hide (kk1.out.trans k12)
    have hlt2 := bE2.lt
    have bI : Blk (w2.alloc (.cells #[.int .u8 0, .int .u8 0, .int .u8 0, .int .u8 0, .int .u8 0, .int .u8 0, .int .u8 0, .int .u8 0, .int .u8 0, .int .u8 0, .int .u8 0, .int .u8 0, .int .u8 0, .int .u8 0, .int .u8 0, .int .u8 0] 104)) w2.heap.size z16 104 := Blk.new _ _ _
    clear k1 k2 k12 bA1 bR1 bE0 kk1
    go_wp2_with (first | refine wpList_store_blk rfl 104 _ _ rfl (w2.heap.size) 0 (a16 ip) rfl rfl bI (by kernel_rfl) (by kernel_rfl) (by kernel_rfl) ?_)
    generalize hU : (w2.alloc (.cells #[.int .u8 0, .int .u8 0, .int .u8 0, .int .u8 0, .int .u8 0, .int .u8 0, .int .u8 0, .int .u8 0, .int .u8 0, .int .u8 0, .int .u8 0, .int .u8 0, .int .u8 0, .int .u8 0, .int .u8 0, .int .u8 0] 104)).setCells w2.heap.size 0 (a16 ip).toList = U
    have kU : Kept (fun _ => False) w2 U := by rw [← hU]; exact Kept.setCells _ _ ((Kept.refl _ _).alloc _) (fun h => absurd h (by omega))
    have bI2 : Blk U w2.heap.size (a16 ip) 104 := by rw [← hU]; exact bI.setAll _ rfl
    have bA3 := kU.blk bA2 id
    have bR3 := kU.blk bR2 id
    have bE3 := kU.blk bE2 id
    have kk3 := hide (kk2.out.trans kU)
    clear hU kU bA2 bR2 bE2 kk2 bI
    have hcp : (Builtin.copy_ #[102, 102] 3 #[.slice (some ⟨bE, 20, none⟩) 18 18, .slice (some ⟨w2.heap.size, 0, none⟩) 16 16]).run Ybaz.prog U.drew = .ok (goInt 16) (U.drew.setCells bE 20 (a16 ip).toList) := by
      refine run_copy_cells (P := Ybaz.prog) U.drew 102 102 3 5 bE 20 18 18 ⟨w2.heap.size, 0, none⟩ 16 16 (a16 ip).toList (by kernel_rfl) (by kernel_rfl) rfl ?_ ?_ ?_ ?_
      · intro j v hv
        rw [Addr.add_mid, bI2.drew.cell, Nat.zero_add, ← hv, Array.getElem?_toList]
      · intro j hj
        rw [bE3.drew.cell, Array.getElem?_eq_getElem (show 20 + j < (ent0 a b).size from by have : j < 16 := hj; rw [ent0_size]; omega)]; rfl
      · intro j hj; exact bE3.drew.frozen _
      · simp [a16, Value.oneCell']
    obtain ⟨X, f, hne, hf, hto⟩ := cls (Kept (fun k => k = bE) U) (World.drew U) (Kept.refl _ _).drew
    have HC := hide (hto _ (Kept.refl _ U).drew)
    have Hto := hide hto
    clear hto
    refine wp_region_seq (fun w' => ∃ x, w' = f x) [(true, 0), (true, 1), (true, 2), (false, 3)] (by kernel_rfl) (by kernel_rfl) (fun _ _ _ _ _ h => h) ?_
    simp only [pickS, List.getElem?_cons_zero, List.getElem?_cons_succ]
    iterate 3
      refine wpSeq_quiet HC.out (fun K hK => ?_)
      go_simp
      refine hK _ ?_
      clear hK K
    refine wpSeq_forced (fun K hK => ?_)
    go_simp
    have kc : Kept (fun k => k = bE) U (U.drew.setCells bE 20 (a16 ip).toList) := Kept.setCells _ _ (Kept.refl _ _).drew (fun _ => rfl)
    refine hK _ _ (Hto.out _ kc) ?_
    clear hK K
    clear HC
    have HC := hide (Hto.out _ kc)
    refine wpSeq_nil ?_
    clear  Hto HC hf hne f X
    generalize hV : U.drew.setCells bE 20 (a16 ip).toList = V
    rw [hV] at kc
    have bE4 : Blk V bE (lays (ent0 a b) 20 (a16 ip).toList) 90 := by rw [← hV]; exact bE3.drew.setCells _ 20
    have bA4 := kc.blk bA3 (by omega)
    have bR4 := kc.blk bR3 (by omega)
    have kk4 : Hid (Kept (fun _ => False) w V) := hide (kk3.out.trans' kc (by intro x hx hh; omega))
    clear hV kc hcp bE3 bA3 bR3 bI2 kk3 hlt2
    go_wp2_with fail
    obtain ⟨X, f, hne, hf, hto⟩ := cls (Kept (fun k => k = bE) V) (World.drew V) (Kept.refl _ _).drew
    have HC := hide (hto _ (Kept.refl _ V).drew)
    have Hto := hide hto
    clear hto
    refine wp_region_seq (fun w' => ∃ x, w' = f x) [(true, 0), (true, 1), (true, 2), (true, 3), (true, 4), (false, 5), (false, 6)] (by kernel_rfl) (by kernel_rfl) (fun _ _ _ _ _ h => h) ?_
    simp only [pickS, List.getElem?_cons_zero, List.getElem?_cons_succ]
    iterate 4
      refine wpSeq_quiet HC.out (fun K hK => ?_)
      go_simp
      refine hK _ ?_
      clear hK K
    refine wpSeq_load_blk HC.out rfl 47 _ rfl (w.heap.size) 20 4 rfl (fun w' hw' => by obtain ⟨x, rfl⟩ := hw'; exact (hf x).blk bA4 (by omega)) (ap z ip p) (by kernel_rfl) (by kernel_rfl) (by kernel_rfl) ?_
    refine wpSeq_forced (fun K hK => ?_)
    go_simp
    refine (port_any _ _ _ _ _).mono ?_
    rintro e w5 ⟨rfl, k5⟩
    have k5' : Kept (fun k => k = bE) V w5 := (k5.mono (by simp)).ofDrew
    refine hK _ _ (Hto.out _ k5') ?_
    clear hK K
    clear HC
    have HC := hide (Hto.out _ k5')
    refine wpSeq_forced (fun K hK => ?_)
    go_simp
    have bE5 := k5.blk bE4.drew id
    refine (put16_any bE 36 2 2 (by omega) p hp0 hp1 _ _ _ (.int .u8 0) (.int .u8 0) bE5 (by kernel_rfl) (by kernel_rfl)).mono ?_
    rintro e w6 ⟨rfl, hw6⟩
    have k6 : Kept (fun k => k = bE) V w6 := by
      rw [hw6]
      exact Kept.set (Kept.set (k5'.alloc _) (fun _ => rfl) _) (fun _ => rfl) _
    have bE6 : Blk w6 bE (ent a b ip p) 90 := by
      have := (((bE5.alloc (.cells #[] 107)).set 36 (.int .u8 (p / 256))).set 37 (.int .u8 (p % 256)))
      rw [ent_laid] at this
      rw [hw6]; exact this
    refine hK _ _ (Hto.out _ k6) ?_
    clear hK K
    clear HC
    have HC := hide (Hto.out _ k6)
    refine wpSeq_nil ?_
    clear  Hto HC hf hne f X
    have bR6 := k6.blk bR4 (by omega)
    have kk6 : Hid (Kept (fun _ => False) w w6) := hide (kk4.out.trans' k6 (by intro x hx hh; omega))
    clear hw6 k6 k5 k5' bE5 bE4 bA4 bR4 kk4
    go_wp2_with (first | refine wpList_load_blk rfl 90 _ rfl (bE) 0 41 rfl bE6 (ent a b ip p) (by kernel_rfl) (by kernel_rfl) (by kernel_rfl) ?_ | refine wpList_store_blk rfl 90 _ _ rfl (w.heap.size + 1) 0 (ent a b ip p) rfl rfl bR6 (by kernel_rfl) (by kernel_rfl) (by kernel_rfl) ?_)
    refine bodyPost_ret (v := .agg (ent a b ip p)) (results_blk rfl _ _ (w.heap.size + 1) 90 (ent a b ip p) rfl (bR6.setAll _ (by kernel_rfl)) (by kernel_rfl) (by kernel_rfl)) rfl ⟨rfl, ?_⟩
    exact Kept.setCells _ _ kk6.out (fun h => absurd h (by omega))
end Go.Proofs.YbulkdbdsGreatDoor
