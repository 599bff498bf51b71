import Derived.Test.YbulkdbdsGreatDoorAddr
import Derived.LaidEql
import Derived.Laws.StructEq
namespace Go.Proofs.YbulkdbdsGreatDoor
open Go.RowKit

theorem addr_any (h l p : Int) (z : Option Addr) (w : World) :
    Calls Ybaz.prog 32 #[.agg #[.int .u64 h, .int .u64 l, .pointer z, .int .u16 p]] w fun e w' => e = .returned (.agg #[.int .u64 h, .int .u64 l, .pointer z]) ∧ Kept (fun _ => False) w w' := by
  go_enter Ybaz.func32, Ybaz.ntmps32
  go_wp2
  refine bodyPost_ret (v := .agg #[.int .u64 h, .int .u64 l, .pointer z]) (by simp [results, Ybaz.results32, go_sem]) rfl ⟨rfl, ?_⟩
  repeat (first | exact Kept.refl _ _ | refine Kept.alloc ?_ _ | refine Kept.drew ?_ | refine Kept.set ?_ (fun h => absurd h (by simp)) _)

theorem port_any (h l p : Int) (z : Option Addr) (w : World) :
    Calls Ybaz.prog 35 #[.agg #[.int .u64 h, .int .u64 l, .pointer z, .int .u16 p]] w fun e w' => e = .returned (.int .u16 p) ∧ Kept (fun _ => False) w w' := by
  go_enter Ybaz.func35, Ybaz.ntmps35
  go_wp2
  go_ret
  exact ⟨rfl, (Kept.refl _ _).alloc _⟩

/-- the globals of netip that the roads read -/
structure Gl (w : World) (z4 z6 : Addr) : Prop where
  c0 : w.cell? ⟨0, 0, none⟩ = some (.pointer (some z4))
  c2 : w.cell? ⟨2, 0, none⟩ = some (.pointer none)
  c3 : w.cell? ⟨3, 0, none⟩ = some (.pointer (some z6))
  s4 : ∃ cs t, w.heap[z4.block]? = some (.cells cs t (0, 0))
  s6 : ∃ cs t, w.heap[z6.block]? = some (.cells cs t (0, 0))
  ne : z4 ≠ z6
  lt : 3 < w.heap.size ∧ z4.block < w.heap.size ∧ z6.block < w.heap.size
theorem Gl.kept {S : Nat → Prop} {w w' : World} {z4 z6 : Addr} (h : Gl w z4 z6) (k : Kept S w w') (hs : ¬ S 0 ∧ ¬ S 2 ∧ ¬ S 3 ∧ ¬ S z4.block ∧ ¬ S z6.block) : Gl w' z4 z6 := by
  have hc : ∀ a : Addr, a.block < w.heap.size → ¬ S a.block → w'.cell? a = w.cell? a := fun a ha hn => by
    have := k.block a.block ha hn
    unfold World.cell?
    rw [this]
  have hz := k.size
  obtain ⟨l1, l2, l3⟩ := h.lt
  obtain ⟨n0, n2, n3, n4, n6⟩ := hs
  exact ⟨(hc ⟨0, 0, none⟩ (by show 0 < _; omega) n0).trans h.c0, (hc ⟨2, 0, none⟩ (by show 2 < _; omega) n2).trans h.c2, (hc ⟨3, 0, none⟩ (by show 3 < _; omega) n3).trans h.c3, by rw [k.block _ l2 n4]; exact h.s4, by rw [k.block _ l3 n6]; exact h.s6, h.ne, by omega, by omega, by omega⟩
theorem Gl.mono {w w' : World} {z4 z6 : Addr} (h : Gl w z4 z6) (k : Kept (fun _ => False) w w') : Gl w' z4 z6 := h.kept k ⟨id, id, id, id, id⟩
theorem some_elem : ∃ te j, Ybaz.prog.underlying 41 = some (.pointer te) ∧ Ybaz.prog.info? te = some j ∧ j.size ≠ 0 := by
  have h1 : (match Ybaz.prog.underlying 41 with | some (.pointer te) => (match Ybaz.prog.info? te with | some j => decide (j.size ≠ 0) | none => false) | _ => false) = true := by kernel_rfl
  split at h1
  · rename_i te hu
    split at h1
    · rename_i j hj
      exact ⟨te, j, hu, hj, by simpa using h1⟩
    · cases h1
  · cases h1
theorem eq43 (d : Nat) (x y : Option Addr) (r : Bool) (w : World) (h : (Op.equalIn (d + 1) 41 (.pointer x) (.pointer y)).run Ybaz.prog w = .ok r w) : (Op.equalIn (d + 2) 43 (.agg #[.pointer x]) (.agg #[.pointer y])).run Ybaz.prog w = .ok r w := by
  rw [run_equalIn_struct w (d + 1) 43 _ _ (by kernel_rfl) (by kernel_rfl)]
  simp [Program.fieldsOf, Ybaz.underlying43, Op.eqFields, go_sem, h]
  cases r <;> simp
theorem eq41_same (d : Nat) (a : Addr) (w : World) : (Op.equalIn (d + 1) 41 (.pointer (some a)) (.pointer (some a))).run Ybaz.prog w = .ok true w := by
  obtain ⟨te, j, hu, hj, hs⟩ := some_elem
  simp [Op.equalIn, run_underlying hu, sizeOf, typeInfo, hj, run_sameAddr_same]
theorem eq41_nil (d : Nat) (a : Addr) (w : World) : (Op.equalIn (d + 1) 41 (.pointer (some a)) (.pointer none)).run Ybaz.prog w = .ok false w := by
  obtain ⟨te, j, hu, hj, hs⟩ := some_elem
  simp [Op.equalIn, run_underlying hu]
theorem eq41_64 (d : Nat) {z4 z6 : Addr} {w : World} (g : Gl w z4 z6) : (Op.equalIn (d + 1) 41 (.pointer (some z6)) (.pointer (some z4))).run Ybaz.prog w = .ok false w := by
  obtain ⟨te, j, hu, hj, hs⟩ := some_elem
  obtain ⟨c4, t4, h4⟩ := g.s4
  obtain ⟨c6, t6, h6⟩ := g.s6
  simp [Op.equalIn, run_underlying hu, sizeOf, typeInfo, hj, run_sameAddr_other w (Ne.symm g.ne) h6 h4, hs]

set_option maxRecDepth 100000 in
theorem is6_6 (h l : Int) {z4 z6 : Addr} (w : World) (g : Gl w z4 z6) :
    Calls Ybaz.prog 37 #[.agg #[.int .u64 h, .int .u64 l, .pointer (some z6)]] w fun e w' => e = .returned (.bool true) ∧ Kept (fun _ => False) w w' := by
  have gA : ∀ o, Gl (w.alloc o) z4 z6 := fun o => g.mono ((Kept.refl _ _).alloc o)
  have c0 := fun o => (gA o).c0
  have c2 := fun o => (gA o).c2
  have d1 : ∀ o, (Op.equalIn 9999 41 (.pointer (some z6)) (.pointer none)).run Ybaz.prog (w.alloc o) = .ok false (w.alloc o) := fun o => eq41_nil 9998 _ _
  have d2 : ∀ o, (Op.equalIn 9999 41 (.pointer (some z6)) (.pointer (some z4))).run Ybaz.prog (w.alloc o) = .ok false (w.alloc o) := fun o => eq41_64 9998 (gA o)
  clear gA g
  go_enter Ybaz.func37, Ybaz.ntmps37
  go_wp2
  go_ret
  exact ⟨rfl, (Kept.refl _ _).alloc _⟩
set_option maxRecDepth 100000 in
theorem is6_4 (h l : Int) {z4 z6 : Addr} (w : World) (g : Gl w z4 z6) :
    Calls Ybaz.prog 37 #[.agg #[.int .u64 h, .int .u64 l, .pointer (some z4)]] w fun e w' => e = .returned (.bool false) ∧ Kept (fun _ => False) w w' := by
  have gA : ∀ o, Gl (w.alloc o) z4 z6 := fun o => g.mono ((Kept.refl _ _).alloc o)
  have c0 := fun o => (gA o).c0
  have c2 := fun o => (gA o).c2
  have d1 : ∀ o, (Op.equalIn 9999 41 (.pointer (some z4)) (.pointer none)).run Ybaz.prog (w.alloc o) = .ok false (w.alloc o) := fun o => eq41_nil 9998 _ _
  have d2 : ∀ o, (Op.equalIn 9999 41 (.pointer (some z4)) (.pointer (some z4))).run Ybaz.prog (w.alloc o) = .ok true (w.alloc o) := fun o => eq41_same 9998 _ _
  clear gA g
  go_enter Ybaz.func37, Ybaz.ntmps37
  go_wp2
  go_ret
  exact ⟨rfl, (Kept.refl _ _).alloc _⟩

theorem shr32 (ip : Int) (h0 : 0 ≤ ip) (h1 : ip < 256) : (281470849515520 + ip) / 4294967296 = 65535 := by omega

set_option maxRecDepth 100000 in
theorem is4in6_any (ip : Int) (h0 : 0 ≤ ip) (h1 : ip < 256) {z4 z6 : Addr} (w : World) (g : Gl w z4 z6) :
    Calls Ybaz.prog 76 #[.agg #[.int .u64 0, .int .u64 (281470849515520 + ip), .pointer (some z6)]] w fun e w' => e = .returned (.bool true) ∧ Kept (fun _ => False) w w' := by
  have hs := shr32 ip h0 h1
  go_enter Ybaz.func76, Ybaz.ntmps76
  go_wp2_with fail
  refine (is6_6 _ _ _ (g.mono ((Kept.refl _ _).alloc _))).mono ?_
  rintro e w1 ⟨rfl, k1⟩
  have bI := k1.blk (Blk.new _ _ _) id
  have c0 := bI.cell 0
  have c1 := bI.cell 1
  go_wp2
  go_ret
  exact ⟨by simp, ((Kept.refl _ _).alloc _).trans k1⟩

set_option maxRecDepth 100000 in
theorem unmap_any (ip : Int) (h0 : 0 ≤ ip) (h1 : ip < 256) {z4 z6 : Addr} (w : World) (g : Gl w z4 z6) :
    Calls Ybaz.prog 57 #[.agg #[.int .u64 0, .int .u64 (281470849515520 + ip), .pointer (some z6)]] w fun e w' => e = .returned (.agg #[.int .u64 0, .int .u64 (281470849515520 + ip), .pointer (some z4)]) ∧ Kept (fun _ => False) w w' := by
  go_enter Ybaz.func57, Ybaz.ntmps57
  go_wp2_with fail
  generalize hW : (w.alloc (.cells #[.int .u64 0, .int .u64 (281470849515520 + ip), .pointer (some z6)] 45)).alloc (.cells #[.int .u64 0, .int .u64 0, .pointer none] 45) = W
  have kW : Kept (fun _ => False) w W := by rw [← hW]; exact ((Kept.refl _ _).alloc _).alloc _
  have bA : Blk W w.heap.size #[.int .u64 0, .int .u64 (281470849515520 + ip), .pointer (some z6)] 45 := by rw [← hW]; exact (Blk.new _ _ _).alloc _
  have bR : Blk W (w.heap.size + 1) #[.int .u64 0, .int .u64 0, .pointer none] 45 := by rw [← hW]; exact Blk.new' _ _ (by simp)
  clear hW
  refine (is4in6_any ip h0 h1 _ (g.mono kW)).mono ?_
  rintro e w1 ⟨rfl, k1⟩
  have bA1 := k1.blk bA id
  have bR1 := k1.blk bR id
  have kk := kW.trans k1
  have gl := (g.mono kk).c0
  have a0 := bA1.cell 0
  have a1 := bA1.cell 1
  have a2 := bA1.cell 2
  have fa := bA1.frozen 2
  have r0 := bR1.cell 0
  have r1 := bR1.cell 1
  have r2 := bR1.cell 2
  have f0 := bR1.frozen 0
  have f1 := bR1.frozen 1
  have f2 := bR1.frozen 2
  clear k1 kW bA bR g
  go_wp2
  refine bodyPost_ret (v := .agg #[.int .u64 0, .int .u64 (281470849515520 + ip), .pointer (some z4)]) (by simp [results, Ybaz.results57, go_sem, r0, r1, r2]) rfl ⟨rfl, ?_⟩
  repeat (first | exact kk | refine Kept.drew ?_ | refine Kept.set ?_ (fun h => absurd h (by simp)) _)
end Go.Proofs.YbulkdbdsGreatDoor
