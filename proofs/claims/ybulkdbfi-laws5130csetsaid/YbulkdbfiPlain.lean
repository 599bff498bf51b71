import Derived.Test.YbulkdbfiSet
namespace Go.Proofs.Ybulkdbfi
open Go.RowKit

theorem same_symm (a b : Ck) : same a b = same b a := by
  unfold same
  rw [Bool.beq_comm (a := a.n % 4), Bool.beq_comm (a := a.d % 3), Bool.beq_comm (a := a.p % 3)]
theorem same_trans {a b c : Ck} (h : same a c = true) (h' : same b c = true) : same a b = true := by
  unfold same at *
  simp at *
  obtain ⟨⟨h1, h2⟩, h3⟩ := h
  obtain ⟨⟨g1, g2⟩, g3⟩ := h'
  exact ⟨⟨h1.trans g1.symm, h2.trans g2.symm⟩, h3.trans g3.symm⟩

def kcells : List Ck → List Value
  | [] => []
  | k :: ks => .int .u8 k.n :: .int .u8 k.d :: .int .u8 k.p :: .int .i64 k.e :: kcells ks
theorem kcells_len : ∀ ks : List Ck, (kcells ks).length = ks.length * 4
  | [] => rfl
  | _ :: ks => by simp [kcells, kcells_len ks]; omega
theorem kcells_snoc (k : Ck) : ∀ ks : List Ck, kcells (ks ++ [k]) = kcells ks ++ [.int .u8 k.n, .int .u8 k.d, .int .u8 k.p, .int .i64 k.e]
  | [] => rfl
  | _ :: ks => by simp [kcells, kcells_snoc k ks]
theorem kAt_zero (k : Ck) (ks : List Ck) : kAt (k :: ks) 0 = k := rfl
theorem kAt_succ (k : Ck) (ks : List Ck) (i : Nat) : kAt (k :: ks) (i + 1) = kAt ks i := by simp [kAt]
theorem pAt_zero (k : Nat) (ks : List Nat) : pAt (k :: ks) 0 = k := rfl
theorem pAt_succ (k : Nat) (ks : List Nat) (i : Nat) : pAt (k :: ks) (i + 1) = pAt ks i := by simp [pAt]
theorem kcells_at : ∀ (ks : List Ck) (i : Nat), i < ks.length → (kcells ks)[i * 4]? = some (.int .u8 (kAt ks i).n) ∧ (kcells ks)[i * 4 + 1]? = some (.int .u8 (kAt ks i).d) ∧ (kcells ks)[i * 4 + 2]? = some (.int .u8 (kAt ks i).p) ∧ (kcells ks)[i * 4 + 3]? = some (.int .i64 (kAt ks i).e)
  | [], i, h => absurd h (by simp)
  | k :: ks, 0, _ => ⟨rfl, rfl, rfl, rfl⟩
  | k :: ks, i + 1, h => by
    have := kcells_at ks i (by simpa using h)
    rw [kAt_succ, show (i + 1) * 4 = i * 4 + 1 + 1 + 1 + 1 by omega]
    simp only [kcells, List.getElem?_cons_succ]
    exact this
theorem kAt_mem (ks : List Ck) (i : Nat) (h : i < ks.length) : kAt ks i ∈ ks := by
  unfold kAt
  rw [List.getD_eq_getElem?_getD, List.getElem?_eq_getElem h]
  exact List.getElem_mem h
theorem mem_kAt {ks : List Ck} {x : Ck} (h : x ∈ ks) : ∃ i, i < ks.length ∧ kAt ks i = x := by
  obtain ⟨i, hi, e⟩ := List.mem_iff_getElem.1 h
  exact ⟨i, hi, by unfold kAt; rw [List.getD_eq_getElem?_getD, List.getElem?_eq_getElem hi]; exact e⟩
theorem take_succ_k (ks : List Ck) (i : Nat) (h : i < ks.length) : ks.take (i + 1) = ks.take i ++ [kAt ks i] := by
  rw [List.take_add_one, List.getElem?_eq_getElem h]
  simp [kAt, h]
theorem kAt_take (ks : List Ck) (n i : Nat) (h : i < n) : kAt (ks.take n) i = kAt ks i := by
  unfold kAt
  rw [List.getD_eq_getElem?_getD, List.getD_eq_getElem?_getD, List.getElem?_take, if_pos h]
theorem kAt_snoc_lt (ks : List Ck) (k : Ck) (i : Nat) (h : i < ks.length) : kAt (ks ++ [k]) i = kAt ks i := by
  unfold kAt
  rw [List.getD_eq_getElem?_getD, List.getD_eq_getElem?_getD, List.getElem?_append_left h]
theorem kAt_snoc_eq (ks : List Ck) (k : Ck) : kAt (ks ++ [k]) ks.length = k := by simp [kAt]
theorem pAt_snoc_lt (ks : List Nat) (k : Nat) (i : Nat) (h : i < ks.length) : pAt (ks ++ [k]) i = pAt ks i := by
  unfold pAt
  rw [List.getD_eq_getElem?_getD, List.getD_eq_getElem?_getD, List.getElem?_append_left h]
theorem pAt_snoc_eq (ks : List Nat) (k : Nat) : pAt (ks ++ [k]) ks.length = k := by simp [pAt]

theorem apart_at {ks : List Ck} (h : Apart ks) {i j : Nat} (hij : i < j) (hj : j < ks.length) : same (kAt ks i) (kAt ks j) = false := by
  have := List.pairwise_iff_getElem.1 h i j (by omega) hj hij
  unfold kAt
  rw [List.getD_eq_getElem?_getD, List.getD_eq_getElem?_getD, List.getElem?_eq_getElem (by omega), List.getElem?_eq_getElem hj]
  exact this
theorem apart_snoc {ks : List Ck} (h : Apart ks) {k : Ck} (hk : ∀ j, j < ks.length → same k (kAt ks j) = false) : Apart (ks ++ [k]) := by
  refine List.pairwise_append.2 ⟨h, by simp, fun a ha b hb => ?_⟩
  obtain ⟨j, hj, rfl⟩ := mem_kAt ha
  simp at hb
  subst hb
  rw [same_symm]; exact hk j hj

theorem cks_snoc {w : World} {es : List Nat} {ks : List Ck} (h : Cks w es ks) {b : Nat} {k : Ck} (hb : Blk w b (ckCells k) 58) (hk : k.ok) : Cks w (es ++ [b]) (ks ++ [k]) := by
  refine ⟨by simp [h.len], fun i hi => ?_, fun i hi => ?_⟩
  · by_cases h1 : i < ks.length
    · rw [pAt_snoc_lt _ _ _ (by rw [h.len]; exact h1), kAt_snoc_lt _ _ _ h1]; exact h.blk i h1
    · have : i = ks.length := by simp at hi; omega
      subst this
      rw [kAt_snoc_eq, ← h.len, pAt_snoc_eq]; exact hb
  · by_cases h1 : i < ks.length
    · rw [kAt_snoc_lt _ _ _ h1]; exact h.ok i h1
    · have : i = ks.length := by simp at hi; omega
      subst this
      rw [kAt_snoc_eq]; exact hk

def piece (c : Ck) (cb : Nat) (x : Bool) (k : Ck) (e : Nat) : List Nat := if same k c then (if x then [] else [cb]) else [e]
def wantL (c : Ck) (cb : Nat) (x : Bool) : List Ck → List Nat → List Nat
  | k :: ks, e :: es => piece c cb x k e ++ wantL c cb x ks es
  | _, _ => []
theorem want_step (c : Ck) (cb : Nat) (x : Bool) : ∀ (ks : List Ck) (es : List Nat) (i : Nat), es.length = ks.length → i < ks.length → wantL c cb x (ks.take (i + 1)) (es.take (i + 1)) = wantL c cb x (ks.take i) (es.take i) ++ piece c cb x (kAt ks i) (pAt es i)
  | [], _, _, _, h => absurd h (by simp)
  | _ :: _, [], _, h, _ => absurd h (by simp)
  | k :: ks, e :: es, 0, _, _ => by simp [wantL, kAt_zero, pAt_zero]
  | k :: ks, e :: es, i + 1, hl, hi => by
    simp only [List.take_succ_cons, wantL, kAt_succ, pAt_succ, List.append_assoc]
    rw [← want_step c cb x ks es i (by simpa using hl) (by simpa using hi)]
theorem want_none (c : Ck) (cb : Nat) (x : Bool) : ∀ (ks : List Ck) (es : List Nat), es.length = ks.length → (∀ j, j < ks.length → same (kAt ks j) c = false) → wantL c cb x ks es = es
  | [], [], _, _ => rfl
  | [], _ :: _, h, _ => absurd h (by simp)
  | _ :: _, [], h, _ => absurd h (by simp)
  | k :: ks, e :: es, hl, h => by
    have h0 := h 0 (by simp)
    rw [kAt_zero] at h0
    unfold wantL piece
    rw [h0, want_none c cb x ks es (by simpa using hl) (fun j hj => by have := h (j + 1) (by simpa using hj); rwa [kAt_succ] at this)]
    simp
theorem want_at (c : Ck) (cb : Nat) (x : Bool) : ∀ (ks : List Ck) (es : List Nat) (i : Nat), es.length = ks.length → i < ks.length → (∀ j, j < ks.length → same (kAt ks j) c = (j == i)) → wantL c cb x ks es = if x then es.eraseIdx i else es.set i cb
  | [], _, _, _, h, _ => absurd h (by simp)
  | _ :: _, [], _, h, _, _ => absurd h (by simp)
  | k :: ks, e :: es, 0, hl, _, h => by
    have h0 := h 0 (by simp)
    rw [kAt_zero] at h0
    unfold wantL piece
    rw [h0, want_none c cb x ks es (by simpa using hl) (fun j hj => by have := h (j + 1) (by simpa using hj); rw [kAt_succ] at this; simpa using this)]
    cases x <;> simp
  | k :: ks, e :: es, i + 1, hl, hi, h => by
    have h0 := h 0 (by simp)
    rw [kAt_zero] at h0
    unfold wantL piece
    rw [h0, want_at c cb x ks es i (by simpa using hl) (by simpa using hi) (fun j hj => by have := h (j + 1) (by simpa using hj); rw [kAt_succ] at this; simpa using this)]
    cases x <;> simp

theorem any_k (ks : List Ck) (c : Ck) : ks.any (fun k => same k c) = true ↔ ∃ i, i < ks.length ∧ same (kAt ks i) c = true := by
  rw [List.any_eq_true]
  constructor
  · rintro ⟨k, hm, h⟩
    obtain ⟨i, hi, rfl⟩ := mem_kAt hm
    exact ⟨i, hi, h⟩
  · rintro ⟨i, hi, h⟩
    exact ⟨_, kAt_mem ks i hi, h⟩

theorem want_all (ks : List Ck) (es : List Nat) (c : Ck) (cb : Nat) (x : Bool) (es' : List Nat) (hl : es.length = ks.length) (ha : Apart ks) (h : After ks es c cb x es') :
    wantL c cb x ks es ++ (if !(ks.any (fun k => same k c)) && !x then [cb] else []) = es' := by
  rcases h with ⟨hno, rfl⟩ | ⟨i, hi, hs, rfl⟩
  · have : ks.any (fun k => same k c) = false := by
      cases hh : ks.any (fun k => same k c) with
      | false => rfl
      | true =>
        obtain ⟨i, hi, h⟩ := (any_k ks c).1 hh
        rw [hno i hi] at h; cases h
    rw [this, want_none c cb x ks es hl hno]
    cases x <;> simp
  · have : ks.any (fun k => same k c) = true := (any_k ks c).2 ⟨i, hi, hs⟩
    rw [this, want_at c cb x ks es i hl hi]
    · simp
    · intro j hj
      rcases Nat.lt_trichotomy j i with h | rfl | h
      · have h1 := apart_at ha h hi
        cases hh : same (kAt ks j) c with
        | false => simp; omega
        | true => rw [same_trans hh hs] at h1; cases h1
      · simpa using hs
      · have h1 := apart_at ha h hj
        cases hh : same (kAt ks j) c with
        | false => simp; omega
        | true => rw [same_trans hs hh] at h1; cases h1
theorem any_step (ks : List Ck) (c : Ck) (i : Nat) (h : i < ks.length) : (ks.take (i + 1)).any (fun k => same k c) = ((ks.take i).any (fun k => same k c) || same (kAt ks i) c) := by
  rw [take_succ_k ks i h, List.any_append]
  simp
end Go.Proofs.Ybulkdbfi
