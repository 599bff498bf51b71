import Derived.Test.YbulkdbdeFanA
namespace Go.Proofs.Ybulkdbde
open Go.RowKit

def allE (T : Nat → List Value) (n j : Nat) : List Value := (List.range j).flatMap fun i => ents (T i) n
theorem allE_succ (T : Nat → List Value) (n j : Nat) : allE T n (j + 1) = allE T n j ++ ents (T j) n := by simp [allE, List.range_succ]

structure L2 (w : World) (n : Nat) (R : Nat → Nat) (rv : Value) (cur : Array Value) (T : Nat → List Value) (j : Nat) (wr : World) : Prop where
  hub : Blk wr w.heap.size (hubCells 0 0 rv) 44
  own : wr.ownsRow w.heap.size 60 1 rv n (rlist R n)
  recs : Recs wr (w.heap.size + 1) R n
  log : Logd wr w.heap.size (w.heap.size + 1) (j * n) (allE T n j)
  row : Blk wr (w.heap.size + 2) cur 47
  size : cur.size = n
  at_ : ∀ i, i < n → cur[i]? = some (.pointer (some ⟨R i, 0, none⟩))
  bel : Below w.heap.size w wr

theorem l2_start {w : World} {n : Nat} {R : Nat → Nat} {rv : Value} {cur : Array Value} {wr : World} (T : Nat → List Value) (h : L1 w n n R rv cur wr) : L2 w n R rv cur T 0 wr :=
  ⟨h.hub, h.own, h.recs, ⟨_, h.log, by simpa [allE] using World.ownsRow_nil wr w.heap.size 62 13⟩, h.row, h.size, h.at_, h.bel⟩

theorem l2_kept {w : World} {n : Nat} {R : Nat → Nat} {rv : Value} {cur : Array Value} {T : Nat → List Value} {j : Nat} {wr wr' : World} (h : L2 w n R rv cur T j wr) (hk : Kept (fun _ => False) wr wr') : L2 w n R rv cur T j wr' := by
  obtain ⟨v, hl, hv⟩ := h.log
  exact ⟨hk.blk h.hub id, hk.own h.own (fun _ _ => id), fun i hi => hk.blk (h.recs i hi) id, ⟨v, hk.blk hl id, hk.own hv (fun _ _ => id)⟩, hk.blk h.row id, h.size, h.at_, h.bel.trans (hk.below h.bel.size (fun _ _ => id))⟩

theorem l2_step {w : World} {n : Nat} {R : Nat → Nat} {rv : Value} {cur : Array Value} {T : Nat → List Value} {j : Nat} {wr w3 : World} (h : L2 w n R rv cur T j wr)
    (hh : Blk w3 w.heap.size (hubCells 0 0 rv) 44) (hl3 : Logd w3 w.heap.size (w.heap.size + 1) (j * n + n) (allE T n j ++ ents (T j) n)) (hk : Kept (EmS w.heap.size (w.heap.size + 1) w.heap.size wr) wr w3) :
    L2 w n R rv cur T (j + 1) w3 := by
  obtain ⟨v, hl, hv⟩ := h.log
  refine ⟨hh, ems_own hk h.own (by decide) (own_ne h.own h.hub (by decide)) (own_ne h.own hl (by decide)), ems_recs hk h.recs h.hub hl, ?_, ems_blk hk h.row (by omega) (by omega) (by decide), h.size, h.at_, ?_⟩
  · rw [allE_succ, Nat.succ_mul]; exact hl3
  · refine h.bel.trans (hk.below h.bel.size ?_)
    rintro x hx (e | e | ⟨e, _⟩) <;> omega

/-- the events as values -/
abbrev evV (ss : Nat → ByteArray) (m u r k : ByteArray) (st d wt ra : Int) (j : Nat) : Array Value :=
  #[.string (ss j), .int .i64 j, .string m, .string u, .int .i64 (wrap64 (st + j)), .string k, .int .i64 d, .int .i64 wt, .int .i64 ra, .string r, .string ⟨#[]⟩, .string ⟨#[]⟩]

theorem ents_len (ev : List Value) (k : Nat) : (ents ev k).length = k * (ev.length + 1) := by
  induction k with
  | zero => simp [ents]
  | succ k ih => rw [ents_succ, List.length_append, ih, Nat.succ_mul]; simp

theorem allE_len (T : Nat → List Value) (n j : Nat) (h : ∀ i, (T i).length = 12) : (allE T n j).length = j * n * 13 := by
  induction j with
  | zero => simp [allE]
  | succ j ih => rw [allE_succ, List.length_append, ih, ents_len, h, Nat.succ_mul, Nat.add_mul]

/-- what stands at entry number j * n + i, cell c -/
theorem allE_get (T : Nat → List Value) (n L j i c : Nat) (h : ∀ i, (T i).length = 12) (hj : j < L) (hi : i < n) (hc : c < 13) :
    (allE T n L)[(j * n + i) * 13 + c]? = ((.int .i64 i : Value) :: T j)[c]? := by
  have split1 : allE T n L = allE T n j ++ (ents (T j) n ++ (List.range' (j + 1) (L - (j + 1))).flatMap fun i => ents (T i) n) := by
    unfold allE
    rw [show L = j + (1 + (L - (j + 1))) from by omega]
    simp only [List.range_eq_range']
    rw [← List.range'_append_1, List.flatMap_append, Nat.zero_add, ← List.range'_append_1, List.flatMap_append]
    simp [show j + (1 + (L - (j + 1))) - (j + 1) = L - (j + 1) from by omega]
  have split2 : ents (T j) n = ents (T j) i ++ (((.int .i64 i : Value) :: T j) ++ (List.range' (i + 1) (n - (i + 1))).flatMap fun i : Nat => (.int .i64 (i : Int) : Value) :: T j) := by
    unfold ents
    rw [show n = i + (1 + (n - (i + 1))) from by omega]
    simp only [List.range_eq_range']
    rw [← List.range'_append_1, List.flatMap_append, Nat.zero_add, ← List.range'_append_1, List.flatMap_append]
    simp [show i + (1 + (n - (i + 1))) - (i + 1) = n - (i + 1) from by omega]
  rw [split1, split2]
  rw [List.getElem?_append_right (by rw [allE_len _ _ _ h, Nat.add_mul]; omega), allE_len _ _ _ h]
  rw [List.append_assoc, List.getElem?_append_right (by rw [ents_len, h, Nat.add_mul]; omega), ents_len, h]
  rw [show (j * n + i) * 13 + c - j * n * 13 - i * (12 + 1) = c from by rw [Nat.add_mul]; omega]
  rw [List.append_assoc, List.getElem?_append_left (by simp [h]; omega)]
end Go.Proofs.Ybulkdbde
