import Derived.WalkKit
import Derived.Deep.AppendLies
import Derived.Deep.RegionHeld3
namespace Go.Proofs.YbulkdbdsGreatDoor
open Go.RowKit

/-- Block b holds just these cells, none of them frozen. -/
def Blk (w : World) (b : Nat) (cs : Array Value) (t : TypeId) : Prop := w.heap[b]? = some (.cells cs t (0, 0))

theorem Blk.lt {w : World} {b : Nat} {cs : Array Value} {t : TypeId} (h : Blk w b cs t) : b < w.heap.size := (Array.getElem?_eq_some_iff.1 h).1
theorem Blk.cell {w : World} {b : Nat} {cs : Array Value} {t : TypeId} (h : Blk w b cs t) (j : Nat) : w.cell? ⟨b, j, none⟩ = cs[j]? := cell_of_row w b j cs t (0, 0) h
theorem Blk.frozen {w : World} {b : Nat} {cs : Array Value} {t : TypeId} (h : Blk w b cs t) (j : Nat) : w.frozen? ⟨b, j, none⟩ = false := frozen_of_row w b j cs t h
theorem Blk.set {w : World} {b : Nat} {cs : Array Value} {t : TypeId} (h : Blk w b cs t) (j : Nat) (v : Value) : Blk (w.setCell ⟨b, j, none⟩ v) b (cs.setIfInBounds j v) t := heap_setCell_same w b j cs t v h
theorem Blk.setOther {w : World} {b : Nat} {cs : Array Value} {t : TypeId} (h : Blk w b cs t) (a : Addr) (v : Value) (hne : b ≠ a.block) : Blk (w.setCell a v) b cs t := (heap_setCell_other w a b v hne).trans h
theorem Blk.alloc {w : World} {b : Nat} {cs : Array Value} {t : TypeId} (h : Blk w b cs t) (o : Obj) : Blk (w.alloc o) b cs t := (Below.heap_alloc w o b h.lt).trans h
theorem Blk.new (w : World) (cs : Array Value) (t : TypeId) : Blk (w.alloc (.cells cs t)) w.heap.size cs t := heap_alloc_new w _
theorem Blk.new' {w : World} {b : Nat} (cs : Array Value) (t : TypeId) (h : b = w.heap.size) : Blk (w.alloc (.cells cs t)) b cs t := by rw [h]; exact Blk.new w cs t
theorem Blk.drew {w : World} {b : Nat} {cs : Array Value} {t : TypeId} (h : Blk w b cs t) : Blk w.drew b cs t := h

/-- What stood before stands, but for the blocks of S; new blocks may have come. -/
structure Kept (S : Nat → Prop) (w w' : World) : Prop where
  os : w'.os = w.os
  tape : w'.tape = w.tape
  output : w'.output = w.output
  size : w.heap.size ≤ w'.heap.size
  block : ∀ k, k < w.heap.size → ¬ S k → w'.heap[k]? = w.heap[k]?

theorem Kept.refl (S : Nat → Prop) (w : World) : Kept S w w := ⟨rfl, rfl, rfl, Nat.le_refl _, fun _ _ _ => rfl⟩
theorem Kept.trans {S : Nat → Prop} {a b c : World} (h : Kept S a b) (k : Kept S b c) : Kept S a c :=
  ⟨k.os.trans h.os, k.tape.trans h.tape, k.output.trans h.output, Nat.le_trans h.size k.size, fun i hi hs => (k.block i (Nat.lt_of_lt_of_le hi h.size) hs).trans (h.block i hi hs)⟩
/-- two steps; the second may write what is new since the first world -/
theorem Kept.trans' {S T : Nat → Prop} {a b c : World} (h : Kept S a b) (k : Kept T b c) (hT : ∀ x, x < a.heap.size → T x → S x) : Kept S a c :=
  ⟨k.os.trans h.os, k.tape.trans h.tape, k.output.trans h.output, Nat.le_trans h.size k.size, fun i hi hs => (k.block i (Nat.lt_of_lt_of_le hi h.size) (fun t => hs (hT i hi t))).trans (h.block i hi hs)⟩
theorem Kept.mono {S T : Nat → Prop} {a b : World} (h : Kept S a b) (hT : ∀ x, x < a.heap.size → S x → T x) : Kept T a b :=
  ⟨h.os, h.tape, h.output, h.size, fun i hi hs => h.block i hi (fun t => hs (hT i hi t))⟩
theorem Kept.alloc {S : Nat → Prop} {a w : World} (h : Kept S a w) (o : Obj) : Kept S a (w.alloc o) :=
  h.trans ⟨rfl, rfl, rfl, by simp, fun k hk _ => Below.heap_alloc _ _ _ (by omega)⟩
theorem Kept.drew {S : Nat → Prop} {a w : World} (h : Kept S a w) : Kept S a w.drew := ⟨h.os, h.tape, h.output, h.size, h.block⟩
theorem Kept.set {S : Nat → Prop} {a w : World} (h : Kept S a w) {p : Addr} (hp : p.block < a.heap.size → S p.block) (u : Value) : Kept S a (w.setCell p u) :=
  ⟨h.os, h.tape, h.output, by simpa using h.size, fun k hk hs => (heap_setCell_other w p k u (fun e => hs (by subst e; exact hp hk))).trans (h.block k hk hs)⟩
theorem Kept.grown {S : Nat → Prop} {a w w' : World} {row : Option Nat} (h : Kept S a w) (hg : w.grownBy w' row) (hr : ∀ k, k < a.heap.size → row = some k → S k) : Kept S a w' :=
  ⟨hg.os.trans h.os, hg.tape.trans h.tape, hg.output.trans h.output, Nat.le_trans h.size hg.size, fun k hk hs =>
    (hg.block k (Nat.lt_of_lt_of_le hk h.size) (fun e => hs (hr k hk e.symm))).trans (h.block k hk hs)⟩
theorem Kept.blk {S : Nat → Prop} {w w' : World} (h : Kept S w w') {b : Nat} {cs : Array Value} {t : TypeId} (hb : Blk w b cs t) (hs : ¬ S b) : Blk w' b cs t := (h.block b hb.lt hs).trans hb
theorem Kept.below {S : Nat → Prop} {w w' : World} (h : Kept S w w') {B : Nat} (hB : B ≤ w.heap.size) (hs : ∀ k, k < B → ¬ S k) : Below B w w' :=
  ⟨h.os, h.tape, h.output, h.size, fun k hk => h.block k (by omega) (hs k hk)⟩
theorem Kept.ofBelow {B : Nat} {w w' : World} (h : Below B w w') : Kept (fun k => B ≤ k) w w' :=
  ⟨h.os, h.tape, h.output, h.size, fun k _ hs => h.block k (by omega)⟩
theorem Kept.own {S : Nat → Prop} {w w' : World} (h : Kept S w w') {base : Nat} {e : TypeId} {size : Nat} {v : Value} {n : Nat} {xs : List Value}
    (ho : w.ownsRow base e size v n xs) (hs : ∀ k, v.ownBlock = some k → ¬ S k) : w'.ownsRow base e size v n xs := by
  refine ⟨ho.1, ?_⟩
  rcases ho.2 with hn | ⟨g, cap, cur, rfl, hb, hgg, rest⟩
  · exact .inl hn
  · refine .inr ⟨g, cap, cur, rfl, hb, ?_, rest⟩
    rw [h.block g (Array.getElem?_eq_some_iff.1 hgg).1 (hs g rfl)]
    exact hgg
theorem own_drew {w : World} {base : Nat} {e : TypeId} {size : Nat} {v : Value} {n : Nat} {xs : List Value} (h : w.ownsRow base e size v n xs) : w.drew.ownsRow base e size v n xs := h
theorem own_set {w : World} {base : Nat} {e : TypeId} {size : Nat} {v : Value} {n : Nat} {xs : List Value} (h : w.ownsRow base e size v n xs) (a : Addr) (u : Value) (hne : v.ownBlock ≠ some a.block) : (w.setCell a u).ownsRow base e size v n xs := by
  refine ⟨h.1, ?_⟩
  rcases h.2 with hn | ⟨g, cap, cur, rfl, hb, hgg, rest⟩
  · exact .inl hn
  · refine .inr ⟨g, cap, cur, rfl, hb, ?_, rest⟩
    rw [heap_setCell_other w a g u (fun e => hne (by simp [Value.ownBlock, e]))]
    exact hgg

theorem hide {p : Prop} (h : p) : Hid p := h
end Go.Proofs.YbulkdbdsGreatDoor

namespace Go.Proofs.YbulkdbdsGreatDoor
open Go.RowKit
/-- Block k is a row of cells of element type t. -/
def Ty (w : World) (k : Nat) (t : TypeId) : Prop := ∃ cs, Blk w k cs t

theorem Blk.ne {w : World} {b b' : Nat} {cs cs' : Array Value} {t t' : TypeId} (h : Blk w b cs t) (h' : Blk w b' cs' t') (ht : t ≠ t') : b ≠ b' := by
  rintro rfl
  have := h.symm.trans h'
  simp at this
  exact ht this.2
theorem own_ne {w : World} {base : Nat} {e : TypeId} {size : Nat} {v : Value} {n : Nat} {xs : List Value} (h : w.ownsRow base e size v n xs) {b : Nat} {cs : Array Value} {t : TypeId} (hb : Blk w b cs t) (ht : t ≠ e) : v.ownBlock ≠ some b := by
  rcases h.2 with ⟨rfl, _⟩ | ⟨g, cap, cur, rfl, _, hg, _⟩
  · simp [Value.ownBlock]
  · intro e
    simp [Value.ownBlock] at e
    subst e
    have := hg.symm.trans hb
    simp at this
    exact ht this.2.symm
theorem own_ty {w : World} {base : Nat} {e : TypeId} {size : Nat} {v : Value} {n : Nat} {xs : List Value} (h : w.ownsRow base e size v n xs) {k : Nat} (hk : v.ownBlock = some k) : base ≤ k ∧ Ty w k e := by
  rcases h.2 with ⟨rfl, _⟩ | ⟨g, cap, cur, rfl, hb, hg, _⟩
  · simp [Value.ownBlock] at hk
  · simp [Value.ownBlock] at hk
    subst hk
    exact ⟨hb, cur, hg⟩
theorem own_form {w : World} {base : Nat} {e : TypeId} {size : Nat} {v : Value} {n : Nat} {xs : List Value} (h : w.ownsRow base e size v n xs) : ∃ a cap, v = .slice a n cap ∧ (0 < n → ∃ g, a = some ⟨g, 0, none⟩) := by
  rcases h.2 with ⟨rfl, rfl⟩ | ⟨g, cap, cur, rfl, hb, hg, _⟩
  · exact ⟨none, 0, rfl, fun h => absurd h (by omega)⟩
  · exact ⟨_, cap, rfl, fun _ => ⟨g, rfl⟩⟩
theorem own_cell {w : World} {base : Nat} {e : TypeId} {size g n cap : Nat} {xs : List Value} (h : w.ownsRow base e size (.slice (some ⟨g, 0, none⟩) n cap) n xs) {j : Nat} {u : Value} (hj : xs[j]? = some u) : w.cell? ⟨g, j, none⟩ = some u := by
  have := h.cells (g := g) rfl j u hj
  rwa [show (⟨g, 0, none⟩ : Addr).add j = ⟨g, j, none⟩ from by unfold Addr.add; split <;> simp_all] at this
/-- a block that is kept has the type that it had -/
theorem Kept.ty {S : Nat → Prop} {w w' : World} (h : Kept S w w') {k : Nat} {t : TypeId} (hk : k < w.heap.size) (hs : ¬ S k) (ht : Ty w' k t) : Ty w k t := by
  obtain ⟨cs, hcs⟩ := ht
  exact ⟨cs, (h.block k hk hs).symm.trans hcs⟩
end Go.Proofs.YbulkdbdsGreatDoor
