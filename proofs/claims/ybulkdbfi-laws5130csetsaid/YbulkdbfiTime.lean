import Derived.Test.YbulkdbfiProg
import Derived.Test.YbulkdbfiKit
import Derived.Test.YbulkdbfiBits
import Derived.KernelRfl
namespace Go.Proofs.Ybulkdbfi
open Go.RowKit

theorem nsec_any (b o : Nat) (n : Int) (w : World) (h0 : 0 ≤ n) (h1 : n < 1000000000) (hc : w.cell? ⟨b, o, none⟩ = some (.int .u64 n)) :
    Calls Yba.prog 11 #[.pointer (some ⟨b, o, none⟩)] w fun e w' => e = .returned (.int .i32 n) ∧ w' = w := by
  have hb := b_and n h0 h1
  go_enter Yba.func11, Yba.ntmps11
  go_wp2
  go_ret
  exact ⟨rfl, rfl⟩

/-- what addSec leaves in ext -/
def addS (x d : Int) : Int := if decide (x < wrap64 (x + d)) = decide (0 < d) then wrap64 (x + d) else if 0 < d then 9223372036854775807 else -9223372036854775807

theorem addSec_any (b o : Nat) (n x d : Int) (w : World) (h0 : 0 ≤ n) (h1 : n < 1000000000) (hc : w.cell? ⟨b, o, none⟩ = some (.int .u64 n)) (hx : w.cell? ⟨b, o + 1, none⟩ = some (.int .i64 x)) (hf : w.frozen? ⟨b, o + 1, none⟩ = false) :
    Calls Yba.prog 12 #[.pointer (some ⟨b, o, none⟩), .int .i64 d] w fun e w' => e = .returned (.tuple #[]) ∧ w' = w.setCell ⟨b, o + 1, none⟩ (.int .i64 (addS x d)) := by
  have hb := b_mono n h0 h1
  go_enter Yba.func12, Yba.ntmps12
  go_wp2
  · have e : addS x d = wrap64 (x + d) := by unfold addS; rw [if_pos]; have : (decide (x < wrap64 (x + d)) == decide (0 < d)) = true := by assumption
                                             simpa using this
    rw [e]
    go_end0
    exact ⟨rfl, rfl⟩
  · have e : addS x d = 9223372036854775807 := by
      have h1 : (decide (x < wrap64 (x + d)) == decide (0 < d)) = false := by assumption
      have h2 : 0 < d := by assumption
      unfold addS; rw [if_neg (by intro h; rw [h] at h1; simp at h1), if_pos h2]
    rw [e]
    go_end0
    exact ⟨rfl, rfl⟩
  · have e : addS x d = -9223372036854775807 := by
      have h1 : (decide (x < wrap64 (x + d)) == decide (0 < d)) = false := by assumption
      have h2 : d ≤ 0 := by assumption
      unfold addS; rw [if_neg (by intro h; rw [h] at h1; simp at h1), if_neg (by omega)]
    rw [e]
    go_end0
    exact ⟨rfl, rfl⟩

theorem tm_bd (d : Int) : -1000000000 < d.tmod 1000000000 ∧ d.tmod 1000000000 < 1000000000 := by
  rcases Int.le_total 0 d with h | h
  · rw [Int.tmod_eq_emod_of_nonneg h]; omega
  · obtain ⟨e, rfl⟩ : ∃ e, d = -e := ⟨-d, by omega⟩
    rw [Int.neg_tmod, Int.tmod_eq_emod_of_nonneg (by omega)]; omega
theorem td_bd (d : Int) (h0 : -9223372036854775808 ≤ d) (h1 : d ≤ 9223372036854775807) : -10000000000 < d.tdiv 1000000000 ∧ d.tdiv 1000000000 < 10000000000 := by
  rcases Int.le_total 0 d with h | h
  · rw [Int.tdiv_eq_ediv_of_nonneg h]; omega
  · obtain ⟨e, rfl⟩ : ∃ e, d = -e := ⟨-d, by omega⟩
    rw [Int.neg_tdiv, Int.tdiv_eq_ediv_of_nonneg (by omega)]; omega

/-- the new time's nanoseconds and seconds -/
def addN (n d : Int) : Int := if 1000000000 ≤ n + d.tmod 1000000000 then n + d.tmod 1000000000 - 1000000000 else if n + d.tmod 1000000000 < 0 then n + d.tmod 1000000000 + 1000000000 else n + d.tmod 1000000000
def addD (n d : Int) : Int := if 1000000000 ≤ n + d.tmod 1000000000 then d.tdiv 1000000000 + 1 else if n + d.tmod 1000000000 < 0 then d.tdiv 1000000000 - 1 else d.tdiv 1000000000

theorem addN_bd (n d : Int) (h0 : 0 ≤ n) (h1 : n < 1000000000) : 0 ≤ addN n d ∧ addN n d < 1000000000 := by
  have := tm_bd d
  unfold addN
  split
  · omega
  · split <;> omega

set_option maxHeartbeats 1600000 in
theorem add_lo (n x d : Int) (w : World) (h0 : 0 ≤ n) (h1 : n < 1000000000) (hd0 : -9223372036854775808 ≤ d) (hd1 : d ≤ 9223372036854775807) (hm : ¬ 1000000000 ≤ n + d.tmod 1000000000) (hm0 : ¬ n + d.tmod 1000000000 < 0) :
    Calls Yba.prog 7 #[.agg #[.int .u64 n, .int .i64 x, .pointer none], .int .i64 d] w fun e w' => e = .returned (.agg #[.int .u64 (n + d.tmod 1000000000), .int .i64 (addS x (d.tdiv 1000000000)), .pointer none]) ∧ Kept (fun _ => False) w w' := by
  have t1 := (tm_bd d).1
  have t2 := (tm_bd d).2
  have t3 := (td_bd d hd0 hd1).1
  have t4 := (td_bd d hd0 hd1).2
  have k1 := b_andNot n h0 h1
  have k2 := b_or (n + d.tmod 1000000000) (by omega) (by omega)
  have k3 := b_mono (n + d.tmod 1000000000) (by omega) (by omega)
  go_enter Yba.func7, Yba.ntmps7
  go_wp2_with fail
  refine (nsec_any _ _ n _ h0 h1 (by simp)).mono ?_
  rintro e w' ⟨rfl, rfl⟩
  go_wp2_with fail
  refine (addSec_any _ _ (n + d.tmod 1000000000) x _ _ (by omega) (by omega) (by simp) (by simp) (by simp)).mono ?_
  rintro e w' ⟨rfl, rfl⟩
  go_wp2
  refine bodyPost_ret (v := .agg #[.int .u64 (n + d.tmod 1000000000), .int .i64 (addS x (d.tdiv 1000000000)), .pointer none]) (by simp [results, Yba.results7, go_sem]) rfl ⟨rfl, ?_⟩
  repeat (first | exact Kept.refl _ _ | refine Kept.alloc ?_ _ | refine Kept.drew ?_ | refine Kept.set ?_ (fun h => absurd h (by simp)) _)
set_option maxHeartbeats 1600000 in
theorem add_hi (n x d : Int) (w : World) (h0 : 0 ≤ n) (h1 : n < 1000000000) (hd0 : -9223372036854775808 ≤ d) (hd1 : d ≤ 9223372036854775807) (hm : 1000000000 ≤ n + d.tmod 1000000000) :
    Calls Yba.prog 7 #[.agg #[.int .u64 n, .int .i64 x, .pointer none], .int .i64 d] w fun e w' => e = .returned (.agg #[.int .u64 (n + d.tmod 1000000000 - 1000000000), .int .i64 (addS x (d.tdiv 1000000000 + 1)), .pointer none]) ∧ Kept (fun _ => False) w w' := by
  have t1 := (tm_bd d).1
  have t2 := (tm_bd d).2
  have t3 := (td_bd d hd0 hd1).1
  have t4 := (td_bd d hd0 hd1).2
  have k1 := b_andNot n h0 h1
  have k2 := b_or (n + d.tmod 1000000000 - 1000000000) (by omega) (by omega)
  have k3 := b_mono (n + d.tmod 1000000000 - 1000000000) (by omega) (by omega)
  go_enter Yba.func7, Yba.ntmps7
  go_wp2_with fail
  refine (nsec_any _ _ n _ h0 h1 (by simp)).mono ?_
  rintro e w' ⟨rfl, rfl⟩
  go_wp2_with fail
  refine (addSec_any _ _ (n + d.tmod 1000000000 - 1000000000) x _ _ (by omega) (by omega) (by simp) (by simp) (by simp)).mono ?_
  rintro e w' ⟨rfl, rfl⟩
  go_wp2
  refine bodyPost_ret (v := .agg #[.int .u64 (n + d.tmod 1000000000 - 1000000000), .int .i64 (addS x (d.tdiv 1000000000 + 1)), .pointer none]) (by simp [results, Yba.results7, go_sem]) rfl ⟨rfl, ?_⟩
  repeat (first | exact Kept.refl _ _ | refine Kept.alloc ?_ _ | refine Kept.drew ?_ | refine Kept.set ?_ (fun h => absurd h (by simp)) _)
set_option maxHeartbeats 1600000 in
theorem add_ne (n x d : Int) (w : World) (h0 : 0 ≤ n) (h1 : n < 1000000000) (hd0 : -9223372036854775808 ≤ d) (hd1 : d ≤ 9223372036854775807) (hm0 : n + d.tmod 1000000000 < 0) :
    Calls Yba.prog 7 #[.agg #[.int .u64 n, .int .i64 x, .pointer none], .int .i64 d] w fun e w' => e = .returned (.agg #[.int .u64 (n + d.tmod 1000000000 + 1000000000), .int .i64 (addS x (d.tdiv 1000000000 - 1)), .pointer none]) ∧ Kept (fun _ => False) w w' := by
  have t1 := (tm_bd d).1
  have t2 := (tm_bd d).2
  have t3 := (td_bd d hd0 hd1).1
  have t4 := (td_bd d hd0 hd1).2
  have k1 := b_andNot n h0 h1
  have k2 := b_or (n + d.tmod 1000000000 + 1000000000) (by omega) (by omega)
  have k3 := b_mono (n + d.tmod 1000000000 + 1000000000) (by omega) (by omega)
  go_enter Yba.func7, Yba.ntmps7
  go_wp2_with fail
  refine (nsec_any _ _ n _ h0 h1 (by simp)).mono ?_
  rintro e w' ⟨rfl, rfl⟩
  go_wp2_with fail
  refine (addSec_any _ _ (n + d.tmod 1000000000 + 1000000000) x _ _ (by omega) (by omega) (by simp) (by simp) (by simp)).mono ?_
  rintro e w' ⟨rfl, rfl⟩
  go_wp2
  refine bodyPost_ret (v := .agg #[.int .u64 (n + d.tmod 1000000000 + 1000000000), .int .i64 (addS x (d.tdiv 1000000000 - 1)), .pointer none]) (by simp [results, Yba.results7, go_sem]) rfl ⟨rfl, ?_⟩
  repeat (first | exact Kept.refl _ _ | refine Kept.alloc ?_ _ | refine Kept.drew ?_ | refine Kept.set ?_ (fun h => absurd h (by simp)) _)

theorem add_any (n x d : Int) (w : World) (h0 : 0 ≤ n) (h1 : n < 1000000000) (hd0 : -9223372036854775808 ≤ d) (hd1 : d ≤ 9223372036854775807) :
    Calls Yba.prog 7 #[.agg #[.int .u64 n, .int .i64 x, .pointer none], .int .i64 d] w fun e w' => e = .returned (.agg #[.int .u64 (addN n d), .int .i64 (addS x (addD n d)), .pointer none]) ∧ Kept (fun _ => False) w w' := by
  unfold addN addD
  by_cases hm : 1000000000 ≤ n + d.tmod 1000000000
  · rw [if_pos hm, if_pos hm]; exact add_hi n x d w h0 h1 hd0 hd1 hm
  · rw [if_neg hm, if_neg hm]
    by_cases hm0 : n + d.tmod 1000000000 < 0
    · rw [if_pos hm0, if_pos hm0]; exact add_ne n x d w h0 h1 hd0 hd1 hm0
    · rw [if_neg hm0, if_neg hm0]; exact add_lo n x d w h0 h1 hd0 hd1 hm hm0
end Go.Proofs.Ybulkdbfi
