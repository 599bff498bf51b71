import Derived.Test.YbulkdbdsSched
namespace Go.Proofs.Ybulkdbds
open Go.RowKit

theorem cell_alloc {w : World} {a : Addr} {v : Value} (h : w.cell? a = some v) (o : Obj) : (w.alloc o).cell? a = some v := by
  rw [World.cell?_alloc_lt w o a (World.block_lt_of_cell? w a h)]; exact h
theorem frozen_alloc {w : World} {a : Addr} {b : Bool} (hlt : a.block < w.heap.size) (h : w.frozen? a = b) (o : Obj) : (w.alloc o).frozen? a = b := by
  rw [World.frozen?_alloc_old w o a (by omega)]; exact h

structure S1 (w : World) (cb sb lb tb : Nat) (n1 x1 n2 x2 e : Int) (ds : Nat → Int) (len k : Nat) (E KB σ : Nat → Nat) (qv : Value) (cur : Array Value) (lv : Value) (wr : World) : Prop where
  clock : Blk wr cb #[.int .u64 n1, .int .i64 x1, .pointer none, .int .u64 n2, .int .i64 x2, .pointer none, .int .i64 e, qv, .int .u64 k, .int .i64 k] 40
  row : wr.ownsRow w.heap.size 44 3 qv k (qcells (fun i => laterf e (ds i)) E σ k)
  heap : Heap (fun i => laterf e (ds i)) σ k
  evs : ∀ i, i < k → Blk wr (E i) #[.pointer (some ⟨cb, 0, none⟩), .func (.func 8) #[] #[.pointer (some ⟨lb, 0, none⟩), .pointer (some ⟨KB i, 0, none⟩)]] 48
  ks : ∀ i : Nat, i < k → Blk wr (KB i) #[.int .i64 i] 3
  log : Blk wr lb #[lv] 32
  start : Blk wr sb #[.int .u64 n1, .int .i64 x1, .pointer none] 26
  tim : Blk wr tb cur 35
  size : cur.size = len
  at_ : ∀ i, i < k → cur[i]? = some (.iface 45 (.pointer (some ⟨E i, 0, none⟩)))
  cbB : w.heap.size ≤ cb
  tbB : w.heap.size ≤ tb
  bel : Below w.heap.size w wr

theorem s1_step {w : World} {cb sb lb tb : Nat} {n1 x1 n2 x2 e : Int} {ds : Nat → Int} {len k : Nat} {E KB σ : Nat → Nat} {qv : Value} {cur : Array Value} {lv : Value} {wr w2 : World} (h : S1 w cb sb lb tb n1 x1 n2 x2 e ds len k E KB σ qv cur lv wr) (hk : k < len)
    {g cap : Nat} {σ' : Nat → Nat}
    (hc : Blk w2 cb #[.int .u64 n1, .int .i64 x1, .pointer none, .int .u64 n2, .int .i64 x2, .pointer none, .int .i64 e, .slice (some ⟨g, 0, none⟩) (k + 1) cap, .int .u64 (k + 1 : Nat), .int .i64 (k + 1 : Nat)] 40)
    (hq : w2.ownsRow w.heap.size 44 3 (.slice (some ⟨g, 0, none⟩) (k + 1) cap) (k + 1) (qcells (fun i => laterf e (ds i)) (upd E k (wr.heap.size + 1)) σ' (k + 1))) (hh : Heap (fun i => laterf e (ds i)) σ' (k + 1))
    (hE : Blk w2 (wr.heap.size + 1) #[.pointer (some ⟨cb, 0, none⟩), .func (.func 8) #[] #[.pointer (some ⟨lb, 0, none⟩), .pointer (some ⟨wr.heap.size, 0, none⟩)]] 48)
    (hkp : Kept (fun x => x = cb ∨ qv.ownBlock = some x) (wr.alloc (.cells #[.int .i64 k] 3)) w2) :
    S1 w cb sb lb tb n1 x1 n2 x2 e ds len (k + 1) (upd E k (wr.heap.size + 1)) (upd KB k wr.heap.size) σ' (.slice (some ⟨g, 0, none⟩) (k + 1) cap) (cur.setIfInBounds k (.iface 45 (.pointer (some ⟨wr.heap.size + 1, 0, none⟩)))) lv
      (w2.setCell ⟨tb, k, none⟩ (.iface 45 (.pointer (some ⟨wr.heap.size + 1, 0, none⟩)))) := by
  have n1' : ∀ {b : Nat} {cs : Array Value} {t : TypeId}, Blk wr b cs t → t ≠ 40 → t ≠ 44 → Blk w2 b cs t := fun {b cs t} hb h1 h2 => by
    refine hkp.blk (hb.alloc _) ?_
    rintro (e | e)
    · exact hb.ne h.clock h1 e
    · exact own_ne h.row hb h2 e
  have ht2 := n1' h.tim (by decide) (by decide)
  have n2' : ∀ {b : Nat} {cs : Array Value} {t : TypeId}, Blk w2 b cs t → t ≠ 35 → Blk (w2.setCell ⟨tb, k, none⟩ (.iface 45 (.pointer (some ⟨wr.heap.size + 1, 0, none⟩)))) b cs t := fun {b cs t} hb h1 => hb.setOther _ _ (hb.ne ht2 h1)
  have hsz := h.clock.lt
  refine ⟨n2' hc (by decide), own_set hq _ _ (own_ne hq ht2 (by decide)), hh, fun i hi => ?_, fun i hi => ?_, n2' (n1' h.log (by decide) (by decide)) (by decide), n2' (n1' h.start (by decide) (by decide)) (by decide), ht2.set k _, by simpa using h.size, fun i hi => ?_, h.cbB, h.tbB, ?_⟩
  · by_cases hik : i = k
    · subst hik; rw [upd_same, upd_same]; exact n2' hE (by decide)
    · rw [upd_other _ _ _ _ hik, upd_other _ _ _ _ hik]; exact n2' (n1' (h.evs i (by omega)) (by decide) (by decide)) (by decide)
  · by_cases hik : i = k
    · subst hik
      rw [upd_same]
      refine n2' (hkp.blk (Blk.new _ _ _) ?_) (by decide)
      rintro (e | e)
      · omega
      · have := h.row.lt _ e; omega
    · rw [upd_other _ _ _ _ hik]; exact n2' (n1' (h.ks i (by omega)) (by decide) (by decide)) (by decide)
  · by_cases hik : i = k
    · subst hik; rw [upd_same]; simp [h.size, hk]
    · rw [Array.getElem?_setIfInBounds_ne (by omega), upd_other _ _ _ _ hik]; exact h.at_ i (by omega)
  · have b1 : Below w.heap.size w (wr.alloc (.cells #[.int .i64 k] 3)) := h.bel.alloc h.bel.size _
    refine (b1.trans (hkp.below (by have := h.bel.size; simp; omega) ?_)).setCell (p := ⟨tb, k, none⟩) h.tbB _
    rintro x hx (e | e)
    · have := h.cbB; omega
    · have := (h.row.lt _ e).1; omega

theorem s1_kept {w : World} {cb sb lb tb : Nat} {n1 x1 n2 x2 e : Int} {ds : Nat → Int} {len k : Nat} {E KB σ : Nat → Nat} {qv : Value} {cur : Array Value} {lv : Value} {wr wr' : World} (h : S1 w cb sb lb tb n1 x1 n2 x2 e ds len k E KB σ qv cur lv wr) (hk : Kept (fun _ => False) wr wr') : S1 w cb sb lb tb n1 x1 n2 x2 e ds len k E KB σ qv cur lv wr' :=
  ⟨hk.blk h.clock id, hk.own h.row (fun _ _ h => h), h.heap, fun i hi => hk.blk (h.evs i hi) id, fun i hi => hk.blk (h.ks i hi) id, hk.blk h.log id, hk.blk h.start id, hk.blk h.tim id, h.size, h.at_, h.cbB, h.tbB, h.bel.trans (hk.below h.bel.size (fun _ _ => id))⟩

/-- the row again, with the next event's block named -/
theorem row_upd {w wr : World} {n k v : Nat} {at_ : Nat → Int} {E σ : Nat → Nat} {qv : Value} (h : wr.ownsRow w.heap.size 44 3 qv k (qcells at_ E σ k)) (hs : ∀ j, j < k → σ j < k) (hn : n = k) : wr.ownsRow w.heap.size 44 3 qv k (qcells at_ (upd E n v) σ k) := by
  rw [qcells_congr (E' := upd E n v) (E := E) (τ' := σ) (τ := σ) (at' := at_) (at_ := at_) (fun j hj => ⟨rfl, rfl, upd_other _ _ _ _ (by have := hs j hj; omega)⟩)]
  exact h

/-- a store into a row of ints that is none of the counters' blocks -/
theorem s1_pos {w : World} {cb sb lb tb : Nat} {n1 x1 n2 x2 e : Int} {ds : Nat → Int} {len k : Nat} {E KB σ : Nat → Nat} {qv : Value} {cur : Array Value} {lv : Value} {wr : World} (h : S1 w cb sb lb tb n1 x1 n2 x2 e ds len k E KB σ qv cur lv wr) {pb : Nat} {pos : Array Value} (hp : Blk wr pb pos 3) (hpk : ∀ i, i < k → KB i ≠ pb) (hpB : w.heap.size ≤ pb) (j : Nat) (u : Value) :
    S1 w cb sb lb tb n1 x1 n2 x2 e ds len k E KB σ qv cur lv (wr.setCell ⟨pb, j, none⟩ u) := by
  have n2' : ∀ {b : Nat} {cs : Array Value} {t : TypeId}, Blk wr b cs t → t ≠ 3 → Blk (wr.setCell ⟨pb, j, none⟩ u) b cs t := fun {b cs t} hb h1 => hb.setOther _ _ (hb.ne hp h1)
  exact ⟨n2' h.clock (by decide), own_set h.row _ _ (own_ne h.row hp (by decide)), h.heap, fun i hi => n2' (h.evs i hi) (by decide), fun i hi => (h.ks i hi).setOther _ _ (hpk i hi), n2' h.log (by decide), n2' h.start (by decide), n2' h.tim (by decide), h.size, h.at_, h.cbB, h.tbB, h.bel.setCell (p := ⟨pb, j, none⟩) hpB u⟩

/-- the log grows -/
theorem s1_log {w : World} {cb sb lb tb : Nat} {n1 x1 n2 x2 e : Int} {ds : Nat → Int} {len k : Nat} {E KB σ : Nat → Nat} {qv : Value} {cur : Array Value} {lv lv' : Value} {wr wr' : World} (h : S1 w cb sb lb tb n1 x1 n2 x2 e ds len k E KB σ qv cur lv wr) {base m : Nat} {xs : List Value} (ho : wr.ownsRow base 3 1 lv m xs)
    (hk : Kept (fun x => x = lb ∨ lv.ownBlock = some x) wr wr') (hl : Blk wr' lb #[lv'] 32) (hkb : ∀ i, i < k → KB i < base) (hbase : w.heap.size ≤ base) (hlb : w.heap.size ≤ lb) : S1 w cb sb lb tb n1 x1 n2 x2 e ds len k E KB σ qv cur lv' wr' := by
  have n2' : ∀ {b : Nat} {cs : Array Value} {t : TypeId}, Blk wr b cs t → t ≠ 32 → t ≠ 3 → Blk wr' b cs t := fun {b cs t} hb h1 h2 => by
    refine hk.blk hb ?_
    rintro (e | e)
    · exact hb.ne h.log h1 e
    · exact own_ne ho hb h2 e
  refine ⟨n2' h.clock (by decide) (by decide), hk.own h.row ?_, h.heap, fun i hi => n2' (h.evs i hi) (by decide) (by decide), fun i hi => hk.blk (h.ks i hi) ?_, hl, n2' h.start (by decide) (by decide), n2' h.tim (by decide) (by decide), h.size, h.at_, h.cbB, h.tbB, ?_⟩
  · intro x hx
    rintro (e | e)
    · exact own_ne h.row h.log (by decide) (e ▸ hx)
    · obtain ⟨_, cs, hcs⟩ := own_ty h.row hx
      exact own_ne ho hcs (by decide) e
  · rintro (e | e)
    · exact (h.ks i hi).ne h.log (by decide) e
    · have := (ho.lt _ e).1; have := hkb i hi; omega
  · refine h.bel.trans (hk.below h.bel.size ?_)
    rintro x hx (e | e)
    · omega
    · have := (ho.lt _ e).1; omega

/-- a block of ints below the log's own rows -/
theorem log_blk {lb : Nat} {lv : Value} {wr wr' : World} {base m : Nat} {xs : List Value} (ho : wr.ownsRow base 3 1 lv m xs) (hk : Kept (fun x => x = lb ∨ lv.ownBlock = some x) wr wr') {l0 : Array Value} (hl : Blk wr lb l0 32) {pb : Nat} {pos : Array Value} (hp : Blk wr pb pos 3) (hpb : pb < base) : Blk wr' pb pos 3 := by
  refine hk.blk hp ?_
  rintro (e | e)
  · exact hp.ne hl (by decide) e
  · have := (ho.lt _ e).1; omega
end Go.Proofs.Ybulkdbds
