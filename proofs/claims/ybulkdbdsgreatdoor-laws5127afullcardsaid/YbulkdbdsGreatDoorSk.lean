import Derived.Test.YbulkdbdsGreatDoorRow
namespace Go.Proofs.YbulkdbdsGreatDoor
open Go.RowKit Go.HeadTail

theorem pow_bd (ip : Int) : ((2 ^ sb ip : Nat) : Int) < 18446744073709551616 := by
  have h2 : 2 ^ sb ip < 2 ^ 64 := Nat.pow_lt_pow_right (by omega) (sb_bd ip)
  have : ((2 ^ sb ip : Nat) : Int) < ((2 ^ 64 : Nat) : Int) := by exact_mod_cast h2
  simpa using this
theorem isSet_iff (v ip : Int) (h0 : 0 ≤ v) (h1 : v < 18446744073709551616) : isSet v ip = v.toNat.testBit (sb ip) := by
  unfold isSet
  rw [u64_and v _ h0 h1 (Int.natCast_nonneg _) (pow_bd ip), Int.toNat_natCast]
  cases h : v.toNat.testBit (sb ip)
  · have hz : v.toNat &&& 2 ^ sb ip = 0 := by
      apply Nat.eq_of_testBit_eq
      intro i
      rw [Nat.testBit_and, Nat.testBit_two_pow]
      by_cases hi : sb ip = i
      · subst hi; simp [h]
      · simp [hi]
    rw [hz]; rfl
  · have ht : (v.toNat &&& 2 ^ sb ip).testBit (sb ip) = true := by rw [Nat.testBit_and, Nat.testBit_two_pow]; simp [h]
    have ne : v.toNat &&& 2 ^ sb ip ≠ 0 := by intro h0; rw [h0] at ht; simp at ht
    simp only [bne_iff_ne, ne_eq]
    omega
theorem or_bd (v ip : Int) (h0 : 0 ≤ v) (h1 : v < 18446744073709551616) : 0 ≤ bits .or .u64 v ((2 ^ sb ip : Nat) : Int) ∧ bits .or .u64 v ((2 ^ sb ip : Nat) : Int) < 18446744073709551616 := by
  rw [u64_or v _ h0 h1 (Int.natCast_nonneg _) (pow_bd ip), Int.toNat_natCast]
  have h2 : v.toNat ||| 2 ^ sb ip < 2 ^ 64 := Nat.or_lt_two_pow (by omega) (Nat.pow_lt_pow_right (by omega) (sb_bd ip))
  omega
theorem isSet_or (v ip ip' : Int) (h0 : 0 ≤ v) (h1 : v < 18446744073709551616) : isSet (bits .or .u64 v ((2 ^ sb ip : Nat) : Int)) ip' = (isSet v ip' || decide (sb ip = sb ip')) := by
  have hb := or_bd v ip h0 h1
  rw [isSet_iff _ _ hb.1 hb.2, isSet_iff v ip' h0 h1, u64_or v _ h0 h1 (Int.natCast_nonneg _) (pow_bd ip), Int.toNat_natCast, Int.toNat_natCast, Nat.testBit_or, Nat.testBit_two_pow]

def upd (s : Nat → Int) (j : Nat) (v : Int) : Nat → Int := fun i => if i = j then v else s i
structure SkOk (s : Nat → Int) (L : List E) : Prop where
  bd : ∀ j, 0 ≤ s j ∧ s j < 18446744073709551616
  on : ∀ e ∈ L, isSet (s (sw e.ip)) e.ip = true
theorem SkOk.zero : SkOk (fun _ => 0) [] := ⟨fun _ => by omega, by simp⟩
def smark (s : Nat → Int) (ip : Int) : Nat → Int := upd s (sw ip) (bits .or .u64 (s (sw ip)) ((2 ^ sb ip : Nat) : Int))
theorem SkOk.mark {s : Nat → Int} {L : List E} (h : SkOk s L) (e : E) : SkOk (smark s e.ip) (L ++ [e]) := by
  have hb := h.bd (sw e.ip)
  constructor
  · intro j
    unfold smark upd
    split
    · exact or_bd _ _ hb.1 hb.2
    · exact h.bd j
  · intro x hx
    unfold smark upd
    by_cases hj : sw x.ip = sw e.ip
    · rw [if_pos hj, isSet_or _ _ _ hb.1 hb.2]
      rcases List.mem_append.1 hx with hx | hx
      · have := h.on x hx; rw [hj] at this; rw [this]; rfl
      · simp at hx; subst hx; simp
    · rw [if_neg hj]
      rcases List.mem_append.1 hx with hx | hx
      · exact h.on x hx
      · simp at hx; subst hx; exact absurd rfl hj
theorem SkOk.sub {s : Nat → Int} {L M : List E} (h : SkOk s L) (hM : ∀ e ∈ M, ∃ x ∈ L, x.ip = e.ip) : SkOk s M := ⟨h.bd, fun e he => by
  obtain ⟨x, hx, hi⟩ := hM e he
  have := h.on x hx
  rwa [hi] at this⟩

theorem skv_set (s : Nat → Int) (j : Nat) (hj : j < 8) (v : Int) : (skv s).setIfInBounds j (.int .u64 v) = skv (upd s j v) := by
  rcases j with _ | _ | _ | _ | _ | _ | _ | _ | j
  all_goals first | omega | kernel_rfl
theorem skv_at (s : Nat → Int) (j : Nat) (hj : j < 8) : (skv s)[j]? = some (.int .u64 (s j)) := by
  rcases j with _ | _ | _ | _ | _ | _ | _ | _ | j
  all_goals first | omega | kernel_rfl
theorem tab_setw (sa sb k : Int) (cv : Value) (least most mu : Int) (bs : Value) (s : Nat → Int) (j : Nat) (hj : j < 8) (v : Int) :
    (tabv sa sb k cv least most mu bs s).setIfInBounds (34 + j) (.int .u64 v) = tabv sa sb k cv least most mu bs (upd s j v) := by
  rcases j with _ | _ | _ | _ | _ | _ | _ | _ | j
  all_goals first | omega | kernel_rfl
theorem tab_w (sa sb k : Int) (cv : Value) (least most mu : Int) (bs : Value) (s : Nat → Int) (j : Nat) (hj : j < 8) :
    (tabv sa sb k cv least most mu bs s)[34 + j]? = some (.int .u64 (s j)) := by
  rcases j with _ | _ | _ | _ | _ | _ | _ | _ | j
  all_goals first | omega | kernel_rfl
end Go.Proofs.YbulkdbdsGreatDoor
