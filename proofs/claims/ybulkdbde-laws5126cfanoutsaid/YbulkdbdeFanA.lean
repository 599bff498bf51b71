import Derived.Test.YbulkdbdeEmit
namespace Go.Proofs.Ybulkdbde
open Go.RowKit

theorem info47 : (Yba.prog.info? 47).map (fun i => (i.zero, i.size, i.bytes)) = some (some (.pointer none), 1, 8) := by kernel_rfl

theorem own_blk {w : World} {base : Nat} {e : TypeId} {g n : Nat} {xs : List Value} (h : w.ownsRow base e 1 (.slice (some ⟨g, 0, none⟩) n n) n xs) : Blk w g xs.toArray e := by
  rcases h.2 with ⟨h1, _⟩ | ⟨g', cap, cur, hv, _, hg, _, _, hs, ht⟩
  · cases h1
  · simp at hv
    obtain ⟨rfl, rfl⟩ := hv
    have : cur = xs.toArray := by
      rw [← ht, Nat.mul_one, List.take_of_length_le (by simp; omega)]
    rw [← this]; exact hg

structure L1 (w : World) (n k : Nat) (R : Nat → Nat) (rv : Value) (cur : Array Value) (wr : World) : Prop where
  hub : Blk wr w.heap.size (hubCells 0 0 rv) 44
  own : wr.ownsRow w.heap.size 60 1 rv k (rlist R k)
  recs : Recs wr (w.heap.size + 1) R k
  log : Blk wr (w.heap.size + 1) #[.slice none 0 0] 45
  row : Blk wr (w.heap.size + 2) cur 47
  size : cur.size = n
  at_ : ∀ i, i < k → cur[i]? = some (.pointer (some ⟨R i, 0, none⟩))
  bel : Below w.heap.size w wr

theorem Recs.congr {w : World} {lb : Nat} {R R' : Nat → Nat} {n : Nat} (h : Recs w lb R n) (he : ∀ i, i < n → R' i = R i) : Recs w lb R' n := fun i hi => by rw [he i hi]; exact h i hi
theorem rlist_congr {R R' : Nat → Nat} {n : Nat} (he : ∀ i, i < n → R' i = R i) : rlist R' n = rlist R n := by
  unfold rlist
  exact List.map_congr_left fun i hi => by rw [he i (List.mem_range.1 hi)]

theorem l1_start (w : World) (n : Nat) {w' : World} {xs : List Value} (hx : xs.length = n) (ho : w'.ownsRow w.heap.size 47 1 (.slice (some ⟨w.heap.size + 1 + 1, 0, none⟩) n n) n xs)
    (hg : ((w.alloc (.cells (hubCells 0 0 (.slice none 0 0)) 44)).alloc (.cells #[.slice none 0 0] 45)).grownBy w' none) : L1 w n 0 (fun _ => 0) (.slice none 0 0) xs.toArray w' := by
  have b0 : Blk (w.alloc (.cells (hubCells 0 0 (.slice none 0 0)) 44)) w.heap.size (hubCells 0 0 (.slice none 0 0)) 44 := Blk.new _ _ _
  have b1 := Blk.new (w.alloc (.cells (hubCells 0 0 (.slice none 0 0)) 44)) #[.slice none 0 0] 45
  have k : Kept (fun _ => False) ((w.alloc (.cells (hubCells 0 0 (.slice none 0 0)) 44)).alloc (.cells #[.slice none 0 0] 45)) w' := (Kept.refl _ _).grown hg (fun _ _ e => by cases e)
  refine ⟨k.blk (b0.alloc _) (fun h => h), World.ownsRow_nil _ _ _ _, fun i hi => absurd hi (by omega), k.blk (by simpa using b1) (fun h => h), own_blk ho, by simp [hx], fun i hi => absurd hi (by omega), ?_⟩
  exact (((Below.refl _ _).alloc (Nat.le_refl _) _).alloc (by simp) _).grown hg (by simp; omega) (fun _ e => by cases e)

theorem l1_step {w : World} {n k : Nat} {R : Nat → Nat} {rv : Value} {cur : Array Value} {wr w3 : World} (h : L1 w n k R rv cur wr) (hk : k < n) {g cap : Nat}
    (hh : Blk w3 w.heap.size (hubCells 0 0 (.slice (some ⟨g, 0, none⟩) (k + 1) cap)) 44)
    (ho : w3.ownsRow w.heap.size 60 1 (.slice (some ⟨g, 0, none⟩) (k + 1) cap) (k + 1) (rlist R k ++ [.iface 47 (.pointer (some ⟨wr.heap.size, 0, none⟩))]))
    (hkp : Kept (fun x => x = w.heap.size ∨ rv.ownBlock = some x) ((wr.setCell ⟨w.heap.size + 1 + 1, k, none⟩ (.pointer (some ⟨wr.heap.size, 0, none⟩))).alloc (.cells #[.int .i64 k, .pointer (some ⟨w.heap.size + 1, 0, none⟩)] 50)) w3) :
    L1 w n (k + 1) (fun i => if i = k then wr.heap.size else R i) (.slice (some ⟨g, 0, none⟩) (k + 1) cap) (cur.setIfInBounds k (.pointer (some ⟨wr.heap.size, 0, none⟩))) w3 := by
  have e1 : ∀ i, i < k → (if i = k then wr.heap.size else R i) = R i := fun i hi => if_neg (by omega)
  have n1 : ∀ {b : Nat} {cs : Array Value} {t : TypeId}, Blk wr b cs t → t ≠ 44 → t ≠ 60 → t ≠ 47 → Blk w3 b cs t := fun {b cs t} hb h1 h2 h3 => by
    refine hkp.blk ((hb.setOther _ _ (hb.ne h.row h3)).alloc _) ?_
    rintro (e | e)
    · exact hb.ne h.hub h1 e
    · exact own_ne h.own hb h2 e
  have rlt := h.row.lt
  refine ⟨hh, ?_, ?_, n1 h.log (by decide) (by decide) (by decide), ?_, by simpa using h.size, ?_, ?_⟩
  · rw [rlist_succ, rlist_congr e1]
    simpa using ho
  · intro i hi
    by_cases hik : i = k
    · subst hik
      have hb := Blk.new (wr.setCell ⟨w.heap.size + 1 + 1, i, none⟩ (.pointer (some ⟨wr.heap.size, 0, none⟩))) #[.int .i64 i, .pointer (some ⟨w.heap.size + 1, 0, none⟩)] 50
      rw [World.size_setCell] at hb
      simp only [if_true]
      refine hkp.blk hb ?_
      rintro (e | e)
      · omega
      · have := h.own.lt _ e; omega
    · simp only [if_neg hik]
      exact n1 (h.recs i (by omega)) (by decide) (by decide) (by decide)
  · refine hkp.blk ((h.row.set k _).alloc _) ?_
    rintro (e | e)
    · omega
    · exact own_ne h.own h.row (by decide) e
  · intro i hi
    by_cases hik : i = k
    · subst hik
      simp [h.size, hk]
    · rw [Array.getElem?_setIfInBounds_ne (by omega), h.at_ i (by omega)]
      simp [hik]
  · have b1 : Below w.heap.size w ((wr.setCell ⟨w.heap.size + 1 + 1, k, none⟩ (.pointer (some ⟨wr.heap.size, 0, none⟩))).alloc (.cells #[.int .i64 k, .pointer (some ⟨w.heap.size + 1, 0, none⟩)] 50)) :=
      (h.bel.setCell (p := ⟨w.heap.size + 1 + 1, k, none⟩) (by show w.heap.size ≤ w.heap.size + 2; omega) _).alloc (by simpa using h.bel.size) _
    refine b1.trans (hkp.below (by have := h.bel.size; simp; omega) ?_)
    rintro x hx (e | e)
    · omega
    · have := h.own.lt _ e; omega
end Go.Proofs.Ybulkdbde
