import Derived.Test.YbulkdbdsGreatDoorContacts
import Derived.Test.YbulkdbdsGreatDoorSeen
namespace Go.Proofs.YbulkdbdsGreatDoor
open Go.RowKit Go.HeadTail

/-- the law's own model as cells -/
def mflat : List E → List Value
  | [] => []
  | e :: r => .int .u8 e.a :: .int .u8 e.ip :: .int .u16 e.p :: mflat r
theorem mflat_length : ∀ L : List E, (mflat L).length = L.length * 3
  | [] => rfl
  | e :: r => by simp only [mflat, List.length_cons, mflat_length r]; omega
theorem mflat_append : ∀ L M : List E, mflat (L ++ M) = mflat L ++ mflat M
  | [], _ => rfl
  | e :: r, M => by simp only [List.cons_append, mflat, mflat_append r M]
theorem mflat_at : ∀ (L : List E) (j : Nat) (e : E), L[j]? = some e → (mflat L)[j * 3]? = some (.int .u8 e.a) ∧ (mflat L)[j * 3 + 1]? = some (.int .u8 e.ip) ∧ (mflat L)[j * 3 + 2]? = some (.int .u16 e.p)
  | [], _, _, h => by simp at h
  | x :: r, 0, e, h => by simp at h; subst h; simp [mflat]
  | x :: r, j + 1, e, h => by
    simp at h
    have := mflat_at r j e h
    rw [show (j + 1) * 3 = j * 3 + 3 by omega, show j * 3 + 3 + 1 = (j * 3 + 1) + 3 by omega, show j * 3 + 3 + 2 = (j * 3 + 2) + 3 by omega]
    simpa [mflat] using this
theorem mflat_one : ∀ (L : List E), ∀ v ∈ mflat L, v.oneCell' = true
  | [], _, h => by simp [mflat] at h
  | e :: r, v, h => by
    simp only [mflat, List.mem_cons] at h
    rcases h with rfl | rfl | rfl | h
    · rfl
    · rfl
    · rfl
    · exact mflat_one r v h

/-- the list of a run of Fill: IDs apart, and of one byte -/
structure MOk (L : List E) : Prop where
  apart : L.Pairwise (fun x y => x.a ≠ y.a)
  flat0 : ∀ e ∈ L, e.b = 0
theorem MOk.uniq {L : List E} (h : MOk L) {i j : Nat} {x y : E} (hi : L[i]? = some x) (hj : L[j]? = some y) (he : x.a = y.a) : i = j := by
  have hil := (List.getElem?_eq_some_iff.1 hi)
  have hjl := (List.getElem?_eq_some_iff.1 hj)
  obtain ⟨h1, e1⟩ := hil
  obtain ⟨h2, e2⟩ := hjl
  have hp := List.pairwise_iff_getElem.1 h.apart
  rcases Nat.lt_trichotomy i j with hlt | heq | hgt
  · have := hp i j h1 h2 hlt; rw [e1, e2] at this; exact absurd he this
  · exact heq
  · have := hp j i h2 h1 hgt; rw [e1, e2] at this; exact absurd he.symm this
theorem moved_perm {L : List E} {j : Nat} {x : E} (hx : L[j]? = some x) : (L.take j ++ L.drop (j + 1) ++ [x]).Perm L := by
  have hjl := (List.getElem?_eq_some_iff.1 hx)
  obtain ⟨h1, e1⟩ := hjl
  have h2 : L = L.take j ++ x :: L.drop (j + 1) := by
    rw [← e1, List.getElem_cons_drop, List.take_append_drop]
  have h3 : (L.take j ++ L.drop (j + 1) ++ [x]).Perm (x :: (L.take j ++ L.drop (j + 1))) := List.perm_append_singleton x _
  have h4 : (x :: (L.take j ++ L.drop (j + 1))).Perm (L.take j ++ x :: L.drop (j + 1)) := List.perm_middle.symm
  have h5 := h3.trans h4
  rwa [← h2] at h5
theorem MOk.moved {L : List E} (h : MOk L) {j : Nat} {x : E} (hx : L[j]? = some x) : MOk (L.take j ++ L.drop (j + 1) ++ [x]) := by
  have hp := moved_perm hx
  exact ⟨(hp.pairwise_iff (fun h e => h e.symm)).2 h.apart, fun e he => h.flat0 e (hp.mem_iff.1 he)⟩
theorem MOk.snoc {L : List E} (h : MOk L) {c : E} (hb : c.b = 0) (hno : ∀ e ∈ L, e.hit c.a c.b = false) : MOk (L ++ [c]) := by
  refine ⟨List.pairwise_append.2 ⟨h.apart, by simp, ?_⟩, ?_⟩
  · intro x hx y hy
    simp at hy; subst hy
    intro e
    have := hno x hx
    simp [E.hit, e, h.flat0 x hx, hb] at this
  · intro e he
    rcases List.mem_append.1 he with he | he
    · exact h.flat0 e he
    · simp at he; subst he; exact hb

/-- an append that finds room: all is read ahead of the first write -/
theorem run_append_place {P : Program} (w : World) (t ty e : TypeId) (sz g sLen cap : Nat) (a : Addr) (m c : Nat) (cs : List Value)
    (hu : P.underlying t = some (.slice e)) (hs : (P.info? e).map (·.size) = some sz) (hcap : sLen + m ≤ cap) (hn : cs.length = m * sz)
    (hsrc : ∀ j v, cs[j]? = some v → w.cell? (a.add j) = some v) (hc : ∀ j, j < cs.length → (w.cell? ⟨g, sLen * sz + j, none⟩).isSome = true) (hf : ∀ j, j < cs.length → w.frozen? ⟨g, sLen * sz + j, none⟩ = false) (h1 : ∀ v ∈ cs, v.oneCell' = true) :
    (Builtin.append_ #[t, t] ty #[.slice (some ⟨g, 0, none⟩) sLen cap, .slice (some a) m c]).run P w = .ok (.slice (some ⟨g, 0, none⟩) (sLen + m) cap) (w.setCells g (sLen * sz) cs) := by
  have hl := run_loadCells_list (P := P) w a cs hsrc
  have hst := run_storeCells_cells (P := P) g (sLen * sz) cs 0 w (by simpa using hc) (by simpa using hf) h1
  cases hq : P.info? e with
  | none => simp [hq] at hs
  | some i =>
    have hi : i.size = sz := by simpa [hq] using hs
    rw [hn] at hl
    have hadd : (⟨g, 0, none⟩ : Addr).add (sLen * sz) = ⟨g, sLen * sz, none⟩ := by rw [Addr.add_mid, Nat.zero_add]
    simp [Builtin.append_, run_underlying hu, Builtin.lenOf, Builtin.firstCells, sizeOf, typeInfo, hq, hi, hl, hcap, hadd, hst]

theorem own_cut {w w1 : World} {base g n cap : Nat} {L : List E} {j : Nat} {x : E} (h : w.ownsRow base 54 3 (.slice (some ⟨g, 0, none⟩) n cap) n (mflat L)) (hx : L[j]? = some x)
    (h1 : ∀ cur, Blk w g cur 54 → Blk w1 g (lays cur (j * 3) (mflat (L.drop (j + 1)))) 54) :
    w1.ownsRow base 54 3 (.slice (some ⟨g, 0, none⟩) (n - 1) cap) (n - 1) (mflat (L.take j ++ L.drop (j + 1))) := by
  have hjl : j < L.length := (List.getElem?_eq_some_iff.1 hx).1
  have hln : L.length = n := by have := h.1; rw [mflat_length] at this; omega
  have hnew : (mflat (L.take j ++ L.drop (j + 1))).length = (n - 1) * 3 := by rw [mflat_length]; simp; omega
  rcases h.2 with ⟨hn, _⟩ | ⟨g', cap', cur, hv, hb, hB, hle, hmx, hsz, htk⟩
  · cases hn
  · cases hv
    have hB1 := h1 cur hB
    refine ⟨hnew, .inr ⟨g, cap, _, rfl, hb, hB1, by omega, hmx, by rw [lays_size, hsz], ?_⟩⟩
    have hd : (mflat (L.drop (j + 1))).length = (n - (j + 1)) * 3 := by rw [mflat_length]; simp; omega
    have hcs : n * 3 ≤ cur.size := by rw [hsz]; exact Nat.mul_le_mul_right _ hle
    rw [lays_list _ _ _ (by rw [hd]; omega), hd, mflat_append]
    have e2 : mflat (L.take j) = cur.toList.take (j * 3) := by
      have h3 : mflat L = mflat (L.take j) ++ mflat (L.drop j) := by rw [← mflat_append, List.take_append_drop]
      have h4 : (mflat (L.take j)).length = j * 3 := by rw [mflat_length]; simp; omega
      have h5 : (mflat L).take (j * 3) = mflat (L.take j) := by rw [h3, List.take_append_of_le_length (by omega), List.take_of_length_le (by omega)]
      rw [← h5, ← htk, List.take_take, show min (j * 3) (n * 3) = j * 3 by omega]
    rw [e2]
    have l1 : (cur.toList.take (j * 3)).length = j * 3 := by simp; omega
    have l2 : (cur.toList.take (j * 3) ++ mflat (L.drop (j + 1))).length = (n - 1) * 3 := by rw [List.length_append, l1, hd]; omega
    rw [List.take_append_of_le_length (by omega), List.take_of_length_le (by omega)]
theorem own_mblk {w : World} {base g n cap : Nat} {L : List E} (h : w.ownsRow base 54 3 (.slice (some ⟨g, 0, none⟩) n cap) n (mflat L)) :
    ∃ cur, Blk w g cur 54 ∧ cur.size = cap * 3 ∧ n ≤ cap ∧ cur.toList.take (n * 3) = mflat L := by
  rcases h.2 with ⟨hn, _⟩ | ⟨g', cap', cur, hv, _, hb, hle, _, hsz, htk⟩
  · cases hn
  · cases hv
    exact ⟨cur, hb, hsz, hle, htk⟩
end Go.Proofs.YbulkdbdsGreatDoor
