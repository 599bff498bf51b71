import Derived.Test.YbulkdbdsKit
import Derived.Test.YbulkdbdsHeap
namespace Go.Proofs.Ybulkdbds
open Go.RowKit

def cellf (at_ : Nat → Int) (E τ : Nat → Nat) (j : Nat) : Value :=
  if j % 3 = 0 then .int .i64 (at_ (τ (j / 3))) else if j % 3 = 1 then .int .u64 (τ (j / 3)) else .iface 45 (.pointer (some ⟨E (τ (j / 3)), 0, none⟩))
def qcells (at_ : Nat → Int) (E τ : Nat → Nat) (n : Nat) : List Value := (List.range (n * 3)).map (cellf at_ E τ)

theorem cellf0 (at_ : Nat → Int) (E τ : Nat → Nat) (j : Nat) : cellf at_ E τ (j * 3) = .int .i64 (at_ (τ j)) := by
  unfold cellf; rw [if_pos (by omega), show j * 3 / 3 = j by omega]
theorem cellf1 (at_ : Nat → Int) (E τ : Nat → Nat) (j : Nat) : cellf at_ E τ (j * 3 + 1) = .int .u64 (τ j) := by
  unfold cellf; rw [if_neg (by omega), if_pos (by omega), show (j * 3 + 1) / 3 = j by omega]
theorem cellf2 (at_ : Nat → Int) (E τ : Nat → Nat) (j : Nat) : cellf at_ E τ (j * 3 + 2) = .iface 45 (.pointer (some ⟨E (τ j), 0, none⟩)) := by
  unfold cellf; rw [if_neg (by omega), if_neg (by omega), show (j * 3 + 2) / 3 = j by omega]

theorem qcells_get (at_ : Nat → Int) (E τ : Nat → Nat) (n j : Nat) (h : j < n * 3) : (qcells at_ E τ n)[j]? = some (cellf at_ E τ j) := by simp [qcells, h]
theorem qcells_len (at_ : Nat → Int) (E τ : Nat → Nat) (n : Nat) : (qcells at_ E τ n).length = n * 3 := by simp [qcells]

theorem qcells_congr {at_ at' : Nat → Int} {E E' τ τ' : Nat → Nat} {n : Nat} (h : ∀ j, j < n → τ' j = τ j ∧ at' (τ j) = at_ (τ j) ∧ E' (τ j) = E (τ j)) : qcells at' E' τ' n = qcells at_ E τ n := by
  unfold qcells
  refine List.map_congr_left fun j hj => ?_
  have := h (j / 3) (by have := List.mem_range.1 hj; omega)
  unfold cellf
  rw [this.1, this.2.1, this.2.2]

/-- one more at the end -/
theorem qcells_push (at_ : Nat → Int) (E σ : Nat → Nat) (n : Nat) : qcells at_ E σ n ++ [.int .i64 (at_ n), .int .u64 n, .iface 45 (.pointer (some ⟨E n, 0, none⟩))] = qcells at_ E (upd σ n n) (n + 1) := by
  have e1 : qcells at_ E σ n = (List.range (n * 3)).map (cellf at_ E (upd σ n n)) := by
    refine (qcells_congr (n := n) (τ' := upd σ n n) fun j hj => ?_).symm.trans rfl
    rw [upd_other _ _ _ _ (by omega)]; exact ⟨rfl, rfl, rfl⟩
  unfold qcells at e1 ⊢
  rw [e1, show (n + 1) * 3 = n * 3 + 1 + 1 + 1 by omega]
  simp only [List.range_succ, List.map_append, List.map_cons, List.map_nil, List.append_assoc]
  rw [cellf0, cellf1, show n * 3 + 1 + 1 = n * 3 + 2 by omega, cellf2, upd_same]
  simp

theorem qcells_set (at_ : Nat → Int) (E τ : Nat → Nat) (n i v : Nat) :
    (((qcells at_ E τ n).set (i * 3) (.int .i64 (at_ v))).set (i * 3 + 1) (.int .u64 v)).set (i * 3 + 2) (.iface 45 (.pointer (some ⟨E v, 0, none⟩))) = qcells at_ E (upd τ i v) n := by
  refine List.ext_getElem? fun j => ?_
  by_cases hj : j < n * 3
  · rw [qcells_get _ _ _ _ _ hj, List.getElem?_set, List.getElem?_set, List.getElem?_set]
    simp only [List.length_set, qcells_len]
    by_cases h2 : i * 3 + 2 = j
    · subst h2; rw [if_pos rfl, if_pos hj, cellf2, upd_same]
    · rw [if_neg h2]
      by_cases h1 : i * 3 + 1 = j
      · subst h1; rw [if_pos rfl, if_pos hj, cellf1, upd_same]
      · rw [if_neg h1]
        by_cases h0 : i * 3 = j
        · subst h0; rw [if_pos rfl, if_pos hj, cellf0, upd_same]
        · rw [if_neg h0, qcells_get _ _ _ _ _ hj]
          unfold cellf
          rw [upd_other _ _ _ _ (by omega)]
  · rw [List.getElem?_eq_none (by simp [qcells_len]; omega), List.getElem?_eq_none (by simp [qcells_len]; omega)]

theorem row_set {w : World} {base g n cap : Nat} {at_ : Nat → Int} {E τ : Nat → Nat} (h : w.ownsRow base 44 3 (.slice (some ⟨g, 0, none⟩) n cap) n (qcells at_ E τ n)) {i : Nat} (v : Nat) :
    (((w.setCell ⟨g, i * 3, none⟩ (.int .i64 (at_ v))).setCell ⟨g, i * 3 + 1, none⟩ (.int .u64 v)).setCell ⟨g, i * 3 + 2, none⟩ (.iface 45 (.pointer (some ⟨E v, 0, none⟩)))).ownsRow base 44 3 (.slice (some ⟨g, 0, none⟩) n cap) n (qcells at_ E (upd τ i v) n) := by
  have h1 := ((((h.stored (i * 3) (.int .i64 (at_ v))).1).stored (i * 3 + 1) (.int .u64 v)).1.stored (i * 3 + 2) (.iface 45 (.pointer (some ⟨E v, 0, none⟩)))).1
  rw [qcells_set] at h1
  exact h1

theorem row0 {w : World} {base g n cap : Nat} {at_ : Nat → Int} {E τ : Nat → Nat} (h : w.ownsRow base 44 3 (.slice (some ⟨g, 0, none⟩) n cap) n (qcells at_ E τ n)) {j : Nat} (hj : j < n) : w.cell? ⟨g, j * 3, none⟩ = some (.int .i64 (at_ (τ j))) := by
  rw [h.cellAt _ (by omega), qcells_get _ _ _ _ _ (by omega), cellf0]
theorem row1 {w : World} {base g n cap : Nat} {at_ : Nat → Int} {E τ : Nat → Nat} (h : w.ownsRow base 44 3 (.slice (some ⟨g, 0, none⟩) n cap) n (qcells at_ E τ n)) {j : Nat} (hj : j < n) : w.cell? ⟨g, j * 3 + 1, none⟩ = some (.int .u64 (τ j)) := by
  rw [h.cellAt _ (by omega), qcells_get _ _ _ _ _ (by omega), cellf1]
theorem row2 {w : World} {base g n cap : Nat} {at_ : Nat → Int} {E τ : Nat → Nat} (h : w.ownsRow base 44 3 (.slice (some ⟨g, 0, none⟩) n cap) n (qcells at_ E τ n)) {j : Nat} (hj : j < n) : w.cell? ⟨g, j * 3 + 2, none⟩ = some (.iface 45 (.pointer (some ⟨E (τ j), 0, none⟩))) := by
  rw [h.cellAt _ (by omega), qcells_get _ _ _ _ _ (by omega), cellf2]
end Go.Proofs.Ybulkdbds
