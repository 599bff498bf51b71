import Derived.Test.YbulkdbdeLocks
import Derived.Test.YbulkdbdeKit
import Derived.Conc.RwLoneW
import Derived.KernelRfl
namespace Go.Proofs.Ybulkdbde
open Go.RowKit Go.RwLone Go.Conc.Locks

abbrev hubCells (a c : Int) (rv : Value) : Array Value := #[.int .i32 a, .int .u32 0, .int .u32 0, .int .u32 0, .int .i32 c, .int .i32 0, rv]

theorem wlock_hub (hb : Nat) (rv : Value) (w : World) (h : Blk w hb (hubCells 0 0 rv) 44) :
    Calls Yba.prog 15 #[.pointer (some ⟨hb, 0, none⟩)] w fun e w' => e = .returned (.tuple #[]) ∧ Blk w' hb (hubCells 1 (-1073741824) rv) 44 ∧ Kept (fun k => k = hb) w w' := by
  refine (wlock_free Yba.rwWLib hb 0 (.int .u32 0) (.int .u32 0) w (h.cell 0) (h.cell 2) (h.cell 3) (h.cell 4) (h.frozen 0) (h.frozen 4)).mono ?_
  rintro e w' ⟨rfl, rfl⟩
  exact ⟨rfl, (h.set 0 (.int .i32 1)).set 4 (.int .i32 (-1073741824)), ((Kept.refl (fun k => k = hb) w).set (fun _ => rfl) _).set (fun _ => rfl) _⟩

theorem wunlock_hub (hb : Nat) (rv : Value) (u : FrameMode) (w : World) (h : Blk w hb (hubCells 1 (-1073741824) rv) 44) :
    CallsD Yba.prog 16 #[.pointer (some ⟨hb, 0, none⟩)] u w fun e u' w' => u' = u ∧ (e = .returned (.tuple #[]) ∧ Blk w' hb (hubCells 0 0 rv) 44 ∧ Kept (fun k => k = hb) w w') := by
  refine (wunlock_deferred Yba.rwWLib hb 0 (.int .u32 0) (.int .u32 0) u w (h.cell 0) (h.cell 2) (h.cell 3) (h.cell 4) (h.frozen 0) (h.frozen 4)).mono ?_
  rintro e u' w' ⟨rfl, rfl, rfl⟩
  exact ⟨rfl, rfl, (h.set 4 (.int .i32 0)).set 0 (.int .i32 0), ((Kept.refl (fun k => k = hb) w).set (fun _ => rfl) _).set (fun _ => rfl) _⟩

theorem rlock_hub (hb : Nat) (rv : Value) (w : World) (h : Blk w hb (hubCells 0 0 rv) 44) :
    Calls Yba.prog 17 #[.pointer (some ⟨hb, 0, none⟩)] w fun e w' => e = .returned (.tuple #[]) ∧ Blk w' hb (hubCells 0 1 rv) 44 ∧ Kept (fun k => k = hb) w w' := by
  refine (rlock_open Yba.rwRLib hb 0 0 (.int .i32 0) (.int .u32 0) w (h.cell 0) (h.cell 3) (h.cell 4) (h.frozen 4) (by simp [wrap32])).mono ?_
  rintro e w' ⟨rfl, rfl⟩
  have e1 : wrap32 (0 + 1) = 1 := by simp [wrap32]
  rw [e1]
  exact ⟨rfl, h.set 4 (.int .i32 1), (Kept.refl (fun k => k = hb) w).set (fun _ => rfl) _⟩

theorem runlock_hub (hb : Nat) (rv : Value) (u : FrameMode) (w : World) (h : Blk w hb (hubCells 0 1 rv) 44) :
    CallsD Yba.prog 18 #[.pointer (some ⟨hb, 0, none⟩)] u w fun e u' w' => u' = u ∧ (e = .returned (.tuple #[]) ∧ Blk w' hb (hubCells 0 0 rv) 44 ∧ Kept (fun k => k = hb) w w') := by
  refine (runlock_deferred Yba.rwRLib hb 0 1 (.int .i32 0) (.int .u32 0) u w (h.cell 0) (h.cell 2) (h.cell 4) (h.frozen 4) (by simp [wrap32])).mono ?_
  rintro e u' w' ⟨rfl, rfl, rfl⟩
  have e1 : wrap32 (1 + -1) = 0 := by simp [wrap32]
  rw [e1]
  exact ⟨rfl, rfl, h.set 4 (.int .i32 0), (Kept.refl (fun k => k = hb) w).set (fun _ => rfl) _⟩

theorem info60 : (Yba.prog.info? 60).map (fun i => (i.zero, i.size, i.bytes)) = some (some .nilIface, 1, 16) := by kernel_rfl

set_option maxHeartbeats 1600000 in
set_option maxRecDepth 100000 in
theorem add_any (hb rb n base : Nat) (rv : Value) (xs : List Value) (w : World) (hh : Blk w hb (hubCells 0 0 rv) 44) (hown : w.ownsRow base 60 1 rv n xs) (hn : n < 1000) (hbase : base ≤ w.heap.size) (hne : rv.ownBlock ≠ some hb) :
    Calls Yba.prog 9 #[.pointer (some ⟨hb, 0, none⟩), .iface 47 (.pointer (some ⟨rb, 0, none⟩))] w fun e w' => e = .returned (.tuple #[]) ∧
      ∃ g cap, Blk w' hb (hubCells 0 0 (.slice (some ⟨g, 0, none⟩) (n + 1) cap)) 44 ∧ w'.ownsRow base 60 1 (.slice (some ⟨g, 0, none⟩) (n + 1) cap) (n + 1) (xs ++ [.iface 47 (.pointer (some ⟨rb, 0, none⟩))]) ∧
        (rv.ownBlock = some g ∨ w.heap.size ≤ g) ∧ Kept (fun k => k = hb ∨ rv.ownBlock = some k) w w' := by
  obtain ⟨i0, hi0, hz0, hz1, hz2⟩ := info_parts info60
  have hblt := hh.lt
  go_enter_defers Yba.func9, Yba.ntmps9
  go_wp2_with fail
  refine (wlock_hub hb rv w hh).mono ?_
  rintro e w1 ⟨rfl, hh1, k1⟩
  have own1 := hide (k1.own hown (fun k e h => hne (by rw [e, h])))
  have c6 : w1.cell? ⟨hb, 6, none⟩ = some rv := hh1.cell 6
  have hs1 := k1.size
  go_wp2_with (at_builtin; refine wpList_append_lies _ rfl _ _ 42 rfl base 60 i0 .nilIface 1 16 Yba.underlying42 hi0 hz0 hz1 hz2 rfl (by decide) rv n xs rfl (own1.out.alloc _) ⟨w1.heap.size, 0, none⟩ 1 1 [.iface 47 (.pointer (some ⟨rb, 0, none⟩))] rfl rfl (World.news_of_block (heap_alloc_new w1 _)) ?c1 (by decide) ?c2 ?c3 ?c4 _ rfl ?_)
  case c1 => intro u hu; simp at hu; subst hu; rfl
  case c2 => unfold maxLen; omega
  case c3 => omega
  case c4 => simp; omega
  intro g cap w2 hown2 hgrow hat hlt
  have k2 : Kept (fun k => rv.ownBlock = some k) w1 w2 := ((Kept.refl _ _).alloc _).grown hgrow (fun k _ e => e)
  have hh2 := k2.blk hh1 hne
  have f6 : w2.frozen? ⟨hb, 6, none⟩ = false := hh2.frozen 6
  have c6' : w2.cell? ⟨hb, 6, none⟩ = some rv := hh2.cell 6
  go_wp2
  refine leaves_cons (f := 16) (args := #[.pointer (some ⟨hb, 0, none⟩)]) (by simp) (by simp [go_sem]) ?_
  refine (wunlock_hub hb _ .returning _ (hh2.set 6 _)).mono ?_
  rintro e u' w3 ⟨rfl, rfl, hh3, k3⟩
  have hgb : g ≠ hb := by
    rcases hat with h | h
    · intro e; rw [e] at h; exact hne h
    · have : g = w1.heap.size + 1 := by simpa using h
      omega
  refine ⟨_, results_none rfl _ _ _, rfl, g, cap, hh3, k3.own (own_set hown2 _ _ (by simpa [Value.ownBlock] using hgb)) (by intro k e h; simp [Value.ownBlock] at e; omega), ?_, ?_⟩
  · rcases hat with h | h
    · exact .inl h
    · have : g = w1.heap.size + 1 := by simpa using h
      right; omega
  · exact (((k1.mono (fun _ _ h => .inl h)).trans (k2.mono (fun _ _ h => .inr h))).set (fun _ => .inl rfl) _).trans (k3.mono (fun _ _ h => .inl h))
#print axioms add_any
end Go.Proofs.Ybulkdbde
