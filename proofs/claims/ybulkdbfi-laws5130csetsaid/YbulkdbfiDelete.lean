import Derived.Test.YbulkdbfiIndex
import Derived.Deep.RegionLaw
import Derived.Lib.SliceRun
import Derived.Lib.SlicesDelete
import Derived.Lib.SlicesCompact
namespace Go.Proofs.Ybulkdbfi
open Go.RowKit Go.Lib

theorem info40 : (Yba.prog.info? 40).map (fun i => (i.zero, i.size, i.bytes)) = some (some (.pointer none), 1, 8) := by kernel_rfl
theorem zero40 (w : World) : (zeroValue 40).run Yba.prog w = .ok (.pointer none) w := by kernel_rfl

theorem blk_setCells {g : Nat} {t : TypeId} : ∀ (vs : List Value) (o : Nat) (w : World) (cur : Array Value), Blk w g cur t → Blk (w.setCells g o vs) g (lay cur o vs) t
  | [], _, _, _, h => h
  | v :: r, o, _, _, h => blk_setCells r (o + 1) _ _ (h.set o v)
theorem kept_setCells {S : Nat → Prop} {a : World} {g : Nat} (hg : g < a.heap.size → S g) : ∀ (vs : List Value) (o : Nat) (w : World), Kept S a w → Kept S a (w.setCells g o vs)
  | [], _, _, h => h
  | v :: r, o, _, h => kept_setCells hg r (o + 1) _ (h.set (p := ⟨g, o, none⟩) hg v)

theorem map_erase {α β : Type} (f : α → β) : ∀ (l : List α) (i : Nat), (l.eraseIdx i).map f = (l.map f).eraseIdx i
  | [], _ => by simp
  | _ :: _, 0 => by simp
  | x :: l, i + 1 => by simp [map_erase f l i]

theorem erase_take (cur : Array Value) (es : List Nat) (i n : Nat) (hn : es.length = n) (hi : i < n) (hs : n ≤ cur.size) (ht : cur.toList.take n = ptrs es) :
    (lay (lay cur i ((ptrs es).drop (i + 1))) (n - 1) [.pointer none]).toList.take (n - 1) = ptrs (es.eraseIdx i) := by
  have hpl : (ptrs es).length = n := by simp [ptrs, hn]
  have hsz := lay_size ((ptrs es).drop (i + 1)) cur i
  have hsz2 := lay_size [Value.pointer none] (lay cur i ((ptrs es).drop (i + 1))) (n - 1)
  have hpe : ptrs (es.eraseIdx i) = (ptrs es).eraseIdx i := map_erase _ _ _
  rw [hpe]
  apply List.ext_getElem?
  intro j
  rw [List.getElem?_take, List.getElem?_eraseIdx]
  by_cases hj : j < n - 1
  · rw [if_pos hj, Array.getElem?_toList, lay_get? _ _ _ _ (by rw [hsz]; simp; omega), if_neg (by simp; omega), lay_get? _ _ _ _ (by simp [hpl]; omega)]
    simp only [List.length_drop, hpl, List.getElem?_drop]
    by_cases hji : j < i
    · rw [if_neg (by omega), if_pos hji, ← ht, List.getElem?_take, if_pos (by omega), Array.getElem?_toList]
    · rw [if_pos (by omega), if_neg hji, show i + 1 + (j - i) = j + 1 by omega]
  · rw [if_neg hj]
    split
    · omega
    · rw [List.getElem?_eq_none (by omega)]

set_option maxHeartbeats 3200000 in
theorem delete_any (es : List Nat) (i n base : Nat) (hn : es.length = n) (hi : i < n) (hn' : n ≤ 4096) (v : Value) (w : World) (ho : w.ownsRow base 40 1 v n (ptrs es)) :
    Calls Yba.prog 17 #[v, .int .i64 i, .int .i64 (i + 1)] w fun e w' => ∃ v', e = .returned v' ∧ v'.ownBlock = v.ownBlock ∧ w'.ownsRow base 40 1 v' (n - 1) (ptrs (es.eraseIdx i)) ∧ Kept (fun k => v.ownBlock = some k) w w' := by
  obtain ⟨i0, hi0, hz0, hz1, hz2⟩ := info_parts info40
  rcases ho with ⟨hl, ⟨rfl, hn0⟩ | ⟨g, cap, cur, rfl, hbase, hg, hnc, hcm, hsz, htk⟩⟩
  · omega
  rw [Nat.mul_one] at hsz htk
  have hb : Blk w g cur 40 := hg
  have hpl : (ptrs es).length = n := by simp [ptrs, hn]
  obtain ⟨news, hnews⟩ : ∃ news, news = (ptrs es).drop (i + 1) := ⟨_, rfl⟩
  have hlen : news.length = n - (i + 1) := by rw [hnews]; simp [hpl]
  have hcell : ∀ j, j < n → w.cell? ⟨g, j, none⟩ = (ptrs es)[j]? := fun j hj => by
    rw [hb.cell j, ← htk, List.getElem?_take, if_pos hj, Array.getElem?_toList]
  have hsome : ∀ j, j < n → (w.cell? ⟨g, j, none⟩).isSome = true := fun j hj => by rw [hcell j hj]; simp [hpl, hj]
  obtain ⟨A, hA, hsrc⟩ : ∃ A : Addr, (if cap = i + 1 then some (⟨g, 0, none⟩ : Addr) else some ⟨g, i + 1, none⟩) = some A ∧ Hid (∀ t u, news[t]? = some u → w.drew.cell? (A.add t) = some u) := by
    by_cases h : cap = i + 1
    · refine ⟨⟨g, 0, none⟩, by simp [h], fun t u hu => ?_⟩
      have h0 : news.length = 0 := by rw [hlen]; omega
      rw [List.length_eq_zero_iff.1 h0] at hu
      simp at hu
    · refine ⟨⟨g, i + 1, none⟩, by simp [h], fun t u hu => ?_⟩
      have ht : t < n - (i + 1) := by
        have := (List.getElem?_eq_some_iff.1 hu).1
        rwa [hlen] at this
      rw [hnews, List.getElem?_drop] at hu
      rw [Addr.add_lit]
      exact (hcell (i + 1 + t) (by omega)).trans hu
  have s1 : Hid (news.length = (n - (i + 1)) * 1) := by rw [Nat.mul_one]; exact hlen
  have s2 : Hid (∀ u ∈ news, u.oneCell' = true) := by
    intro u hu
    rw [hnews] at hu
    obtain ⟨x, _, rfl⟩ := List.mem_map.1 (List.mem_of_mem_drop hu)
    rfl
  have s3 : Hid (∀ t, t < news.length → (w.drew.cell? ⟨g, 0 + i * 1 + t, none⟩).isSome = true ∧ w.drew.frozen? ⟨g, 0 + i * 1 + t, none⟩ = false) := by
    intro t ht
    rw [hlen] at ht
    rw [Nat.mul_one, Nat.zero_add]
    exact ⟨hsome (i + t) (by omega), hb.frozen _⟩
  obtain ⟨W1, hW1⟩ : ∃ W1, W1 = w.drew.setCells g (0 + i * 1) news := ⟨_, rfl⟩
  have hb1 : Blk W1 g (lay cur i news) 40 := by rw [hW1, Nat.mul_one, Nat.zero_add]; exact blk_setCells _ _ _ _ hb
  have hk1 : Kept (fun k => (Value.slice (some ⟨g, 0, none⟩) n cap).ownBlock = some k) w W1 := by rw [hW1]; exact kept_setCells (by exact fun _ => rfl) _ _ _ (Kept.refl _ _).drew
  have hcl : ∀ ty, (Builtin.clear_ #[37] ty #[.slice (some ⟨g, 0 + (i + (n - (i + 1))), none⟩) (n - (i + (n - (i + 1)))) (cap - (i + (n - (i + 1))))]).run Yba.prog W1 = .ok (.tuple #[]) (W1.setCells g (0 + (i + (n - (i + 1)))) (List.replicate (n - (i + (n - (i + 1)))) (.pointer none))) :=
    fun ty => Lib.run_clear_slice W1 _ _ ty _ Yba.underlying37 zero40 rfl rfl g (0 + (i + (n - (i + 1)))) _ _ (by omega) (fun t ht => by rw [hb1.cell, Array.getElem?_eq_getElem (by rw [lay_size]; omega)]; rfl) (fun t ht => hb1.frozen _)
  simp only [Nat.zero_add] at hcl
  have fin : (W1.setCells g (i + (n - (i + 1))) (List.replicate (n - (i + (n - (i + 1)))) (.pointer none))).ownsRow base 40 1 (.slice (some ⟨g, 0, none⟩) (i + (n - (i + 1))) cap) (n - 1) (ptrs (es.eraseIdx i)) ∧ Kept (fun k => (Value.slice (some ⟨g, 0, none⟩) n cap).ownBlock = some k) w (W1.setCells g (i + (n - (i + 1))) (List.replicate (n - (i + (n - (i + 1)))) (.pointer none))) := by
    refine ⟨⟨?_, .inr ⟨g, cap, lay (lay cur i ((ptrs es).drop (i + 1))) (n - 1) [.pointer none], by rw [show i + (n - (i + 1)) = n - 1 by omega], hbase, ?_, by omega, hcm, ?_, ?_⟩⟩, kept_setCells (by exact fun _ => rfl) _ _ _ hk1⟩
    · simp [ptrs, List.length_eraseIdx, hn, hi]
    · rw [show i + (n - (i + 1)) = n - 1 by omega, show n - (n - 1) = 1 by omega, ← hnews]
      exact blk_setCells _ _ _ _ hb1
    · rw [lay_size, lay_size]; omega
    · rw [Nat.mul_one]; exact erase_take cur es i n hn hi (by omega) htk
  have Fin := hide fin
  have hW := hide hW1
  have hic : i ≤ cap := by omega
  have hjc : i + 1 ≤ cap := by omega
  have hwr : IntKind.i64.wrap ((i : Int) + 1) = (i : Int) + 1 := by rw [IntKind.wrap_i64]; omega
  have hp0 : (0 : Int) ≤ (i : Int) + 1 := by omega
  have hp1 : (i : Int) + 1 ≤ (n : Int) := by omega
  have hp2 : ((i : Int) + 1).toNat = i + 1 := by omega
  have hp3 : (n : Int) ≤ (cap : Int) := by omega
  have hp4 : ¬ (i : Int) = (i : Int) + 1 := by omega
  clear fin hW1 hb1 hk1 hcell hsome hb hg hl htk hnews hlen
  go_enter Yba.func17, Yba.ntmps17
  go_wp2_with fail
  go_region_law (refine step_append_room rfl (.tmp 22) (.tmp 25) 37 rfl 40 i0 1 Yba.underlying37 hi0 hz1 g 0 i cap (by simp [Act.eval, Act.put]) A (n - (i + 1)) (cap - (i + 1)) news (by simp [Act.eval, Act.put]) s1.out hsrc.out s2.out (by omega) s3.out ?_; rw [← hW.out])
  go_wp2
  go_ret
  exact ⟨_, rfl, rfl, Fin.out⟩
end Go.Proofs.Ybulkdbfi
