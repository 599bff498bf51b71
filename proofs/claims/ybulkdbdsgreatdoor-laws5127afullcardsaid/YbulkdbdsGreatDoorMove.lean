import Derived.Test.YbulkdbdsGreatDoorSeqD
namespace Go.Proofs.YbulkdbdsGreatDoor
open Go.RowKit Go.HeadTail

theorem run_copy_big {P : Program} (w : World) (dT sT ty elem : TypeId) (sz b o dLen dCap : Nat) (a : Addr) (sLen sCap : Nat) (cs : List Value)
    (hu : P.underlying dT = some (.slice elem)) (hs : (P.info? elem).map (·.size) = some sz) (hn : cs.length = Nat.min sLen dLen * sz)
    (hsrc : ∀ j v, cs[j]? = some v → w.cell? (a.add j) = some v) (hc : ∀ j, j < cs.length → (w.cell? ⟨b, o + j, none⟩).isSome = true) (hf : ∀ j, j < cs.length → w.frozen? ⟨b, o + j, none⟩ = false) (h1 : ∀ v ∈ cs, v.oneCell' = true) :
    (Builtin.copy_ #[dT, sT] ty #[.slice (some ⟨b, o, none⟩) dLen dCap, .slice (some a) sLen sCap]).run P w = .ok (goInt (Nat.min sLen dLen)) (w.setCells b o cs) := by
  have hl := run_loadCells_list (P := P) w a cs hsrc
  have hst := run_storeCells_cells (P := P) b o cs 0 w (by simpa using hc) (by simpa using hf) h1
  cases hq : P.info? elem with
  | none => simp [hq] at hs
  | some i =>
    have hi : i.size = sz := by simpa [hq] using hs
    rw [hn] at hl
    simp [Builtin.copy_, run_underlying hu, Builtin.lenOf, Builtin.firstCells, sizeOf, typeInfo, hq, hi, hl, hst]

theorem exec_field {o : Oper} {ρ : Operand → Value} {w : World} (x : Operand) (ho : o.op = .field 50 x 1) (cs : Array Value) (hx : ρ x = .agg cs) : (execOp ρ o).run Ybaz.prog w = .ok (.value (.agg (cs.extract 20 (20 + 4)))) w := by
  have p1 := part_row (P := Ybaz.prog) w 47 cs 20 4 (by kernel_rfl) (by kernel_rfl)
  unfold execOp
  simp [ho, hx, Instr.field, Sem.run_bind, run_underlying Ybaz.underlying50, asAgg, p1]

theorem ent_set39 (a b ip p : Int) : (ent a b ip p).setIfInBounds 39 (.int .u32 0) = ent a b ip p := by kernel_rfl
theorem ent_set38 (a b ip p : Int) : (ent a b ip p).setIfInBounds 38 (.int .u8 0) = ent a b ip p := by kernel_rfl
theorem ent_at39 (a b ip p : Int) : (ent a b ip p)[39]? = some (.int .u32 0) := by kernel_rfl
theorem ent_at38 (a b ip p : Int) : (ent a b ip p)[38]? = some (.int .u8 0) := by kernel_rfl
theorem ent_one (a b ip p : Int) : ∀ v ∈ (ent a b ip p).toList, v.oneCell' = true := by
  have h : (ent a b ip p).all (·.oneCell') = true := by kernel_rfl
  intro v hv
  exact Array.all_eq_true_iff_forall_mem.1 h v (by simpa using hv)
theorem flat_one : ∀ (L : List E), ∀ v ∈ flat L, v.oneCell' = true
  | [], _, h => by simp [flat] at h
  | e :: r, v, h => by
    rw [flat, List.mem_append] at h
    rcases h with h | h
    · exact ent_one _ _ _ _ v h
    · exact flat_one r v h

/-- where lays leaves a range -/
theorem lays_list (cs : Array Value) (o : Nat) (vs : List Value) (h : o + vs.length ≤ cs.size) : (lays cs o vs).toList = cs.toList.take o ++ vs ++ cs.toList.drop (o + vs.length) := by
  apply List.ext_getElem?
  intro j
  rw [Array.getElem?_toList, lays_get]
  rcases Nat.lt_or_ge j o with h1 | h1
  · rw [if_neg (by omega), List.append_assoc, List.getElem?_append_left (by simp; omega), List.getElem?_take, if_pos h1, Array.getElem?_toList]
  · have hlen : (cs.toList.take o).length = o := by simp; omega
    rcases Nat.lt_or_ge j (o + vs.length) with h2 | h2
    · rw [if_pos (by omega), List.append_assoc, List.getElem?_append_right (by omega), hlen, List.getElem?_append_left (by omega)]
    · rw [if_neg (by omega), List.getElem?_append_right (by simp; omega)]
      simp only [List.length_append, hlen, List.getElem?_drop]
      rw [show o + vs.length + (j - (o + vs.length)) = j by omega, Array.getElem?_toList]

/-- the row behind the move to the end -/
theorem own_moved {w w1 w2 : World} {base g n cap : Nat} {L : List E} {j : Nat} {x : E} (h : w.ownsRow base 90 41 (.slice (some ⟨g, 0, none⟩) n cap) n (flat L)) (hx : L[j]? = some x)
    (h1 : ∀ cur, Blk w g cur 90 → Blk w1 g (lays cur (j * 41) (flat (L.drop (j + 1)))) 90) (h2 : ∀ cur, Blk w1 g cur 90 → Blk w2 g (lays cur ((n - 1) * 41) x.v.toList) 90) :
    w2.ownsRow base 90 41 (.slice (some ⟨g, 0, none⟩) n cap) n (flat (L.take j ++ L.drop (j + 1) ++ [x])) := by
  have hjl : j < L.length := (List.getElem?_eq_some_iff.1 hx).1
  have hln : L.length = n := by have := h.1; rw [flat_length] at this; omega
  have hnew : (flat (L.take j ++ L.drop (j + 1) ++ [x])).length = n * 41 := by rw [flat_length]; simp; omega
  rcases h.2 with ⟨hn, _⟩ | ⟨g', cap', cur, hv, hb, hB, hle, hmx, hsz, htk⟩
  · cases hn
  · cases hv
    have hB1 := h1 cur hB
    have hB2 := h2 _ hB1
    refine ⟨hnew, .inr ⟨g, cap, _, rfl, hb, hB2, hle, hmx, by rw [lays_size, lays_size, hsz], ?_⟩⟩
    have hd : (flat (L.drop (j + 1))).length = (n - (j + 1)) * 41 := by rw [flat_length]; simp; omega
    have hcs : n * 41 ≤ cur.size := by rw [hsz]; exact Nat.mul_le_mul_right _ hle
    rw [lays_list _ _ _ (by rw [lays_size, E.size]; omega), lays_list _ _ _ (by rw [hd]; omega), hd, E.size]
    have e1 : flat (L.take j ++ L.drop (j + 1) ++ [x]) = flat (L.take j) ++ flat (L.drop (j + 1)) ++ x.v.toList := by
      rw [flat_append, flat_append]; simp [flat]
    have e2 : flat (L.take j) = cur.toList.take (j * 41) := by
      have h3 : flat L = flat (L.take j) ++ flat (L.drop j) := by rw [← flat_append, List.take_append_drop]
      have h4 : (flat (L.take j)).length = j * 41 := by rw [flat_length]; simp; omega
      have h5 : (flat L).take (j * 41) = flat (L.take j) := by rw [h3, List.take_append_of_le_length (by omega), List.take_of_length_le (by omega)]
      rw [← h5, ← htk, List.take_take, show min (j * 41) (n * 41) = j * 41 by omega]
    rw [e1, e2]
    have l1 : (cur.toList.take (j * 41)).length = j * 41 := by simp; omega
    have l2 : (cur.toList.take (j * 41) ++ flat (L.drop (j + 1))).length = (n - 1) * 41 := by rw [List.length_append, l1, hd]; omega
    rw [List.take_append_of_le_length (l₁ := cur.toList.take (j * 41) ++ flat (L.drop (j + 1))) (by omega), List.take_of_length_le (l := cur.toList.take (j * 41) ++ flat (L.drop (j + 1))) (by omega)]
    rw [List.take_append_of_le_length (by rw [List.length_append, l2, E.size]; omega), List.take_of_length_le (by rw [List.length_append, l2, E.size]; omega)]
end Go.Proofs.YbulkdbdsGreatDoor
