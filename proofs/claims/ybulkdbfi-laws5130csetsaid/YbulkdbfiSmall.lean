import Derived.Test.YbulkdbfiTime
import Derived.Test.YbulkdbfiOrders
namespace Go.Proofs.Ybulkdbfi
open Go.RowKit Go.HeadTail

attribute [local go_sem] yields yUpon

structure Ck where
  n : Int
  d : Int
  p : Int
  e : Int
structure Ck.ok (k : Ck) : Prop where
  n0 : 0 ≤ k.n
  n1 : k.n < 256
  d0 : 0 ≤ k.d
  d1 : k.d < 256
  p0 : 0 ≤ k.p
  p1 : k.p < 256
  e0 : -9223372036854775808 ≤ k.e
  e1 : k.e ≤ 9223372036854775807
def Ck.cells (k : Ck) : Array Value := #[.int .u8 k.n, .int .u8 k.d, .int .u8 k.p, .int .i64 k.e]
def same (a b : Ck) : Bool := a.n % 4 == b.n % 4 && a.d % 3 == b.d % 3 && a.p % 3 == b.p % 3
def exps (k : Ck) (m : Int) : Bool := decide (k.e ≠ 0) && decide (k.e ≤ m)

theorem wrap_small (x : Int) (h0 : 0 ≤ x) (h1 : x < 256) : IntKind.i64.wrap x = x := by
  rw [IntKind.wrap_i64]; omega

set_option maxHeartbeats 1600000 in
theorem same_any (a b : Ck) (ha : a.ok) (hb : b.ok) (w : World) :
    Calls Yba.prog 4 #[.agg a.cells, .agg b.cells] w fun e w' => e = .returned (.bool (same a b)) ∧ Kept (fun _ => False) w w' := by
  obtain ⟨an, ad, ap, ae⟩ := a
  obtain ⟨bn, bd, bp, be⟩ := b
  obtain ⟨a1, a2, a3, a4, a5, a6, a7, a8⟩ := ha
  obtain ⟨b1, b2, b3, b4, b5, b6, b7, b8⟩ := hb
  simp only at a1 a2 a3 a4 a5 a6 a7 a8 b1 b2 b3 b4 b5 b6 b7 b8
  simp only [Ck.cells, same]
  have u1 := wrap_small an a1 a2
  have u2 := wrap_small ad a3 a4
  have u3 := wrap_small ap a5 a6
  have v1 := wrap_small bn b1 b2
  have v2 := wrap_small bd b3 b4
  have v3 := wrap_small bp b5 b6
  go_enter Yba.func4, Yba.ntmps4
  go_wp2
  all_goals (go_ret; exact ⟨by simp [*], ((Kept.refl _ _).alloc _).alloc _⟩)

theorem cexp_any (a : Ck) (m : Int) (w : World) :
    Calls Yba.prog 8 #[.agg a.cells, .int .i64 m] w fun e w' => e = .returned (.bool (exps a m)) ∧ Kept (fun _ => False) w w' := by
  obtain ⟨an, ad, ap, ae⟩ := a
  simp only [Ck.cells, exps]
  go_enter Yba.func8, Yba.ntmps8
  go_wp2
  all_goals (go_ret; exact ⟨by simp [*], (Kept.refl _ _).alloc _⟩)

/-- The time d nanoseconds behind the zero time. -/
def tN (d : Int) : Int := addN 0 d
def tX (d : Int) : Int := addS 0 (addD 0 d)
theorem t_eq (d : Int) (h0 : -9223372036854775808 ≤ d) (h1 : d ≤ 9223372036854775807) : 0 ≤ tN d ∧ tN d < 1000000000 ∧ tX d * 1000000000 + tN d = d := by
  have hb := addN_bd 0 d (by omega) (by omega)
  refine ⟨hb.1, hb.2, ?_⟩
  have h2 := td_bd d h0 h1
  have h3 := tm_bd d
  have h4 := Int.tdiv_mul_add_tmod d 1000000000
  have hS : ∀ y : Int, -100000000000 < y → y < 100000000000 → addS 0 y = y := fun y l u => by
    have hw : wrap64 (0 + y) = y := by unfold wrap64; omega
    unfold addS
    rw [hw, if_pos rfl]
  unfold tX
  rw [hS _ (by unfold addD; split; omega; split <;> omega) (by unfold addD; split; omega; split <;> omega)]
  unfold tN addN addD
  split
  · omega
  · split <;> omega
theorem tN0 : tN 0 = 0 := by decide
theorem tX0 : tX 0 = 0 := by
  have h := t_eq 0 (by omega) (by omega)
  rw [tN0] at h
  omega

theorem zadd_any (d : Int) (w : World) (h0 : -9223372036854775808 ≤ d) (h1 : d ≤ 9223372036854775807) :
    Calls Yba.prog 7 #[.agg #[.int .u64 0, .int .i64 0, .pointer none], .int .i64 d] w fun e w' => e = .returned (.agg #[.int .u64 (tN d), .int .i64 (tX d), .pointer none]) ∧ Kept (fun _ => False) w w' :=
  add_any 0 0 d w (by omega) (by omega) h0 h1

theorem sec_any (b : Nat) (n x : Int) (w : World) (h0 : 0 ≤ n) (h1 : n < 1000000000) (hc : w.cell? ⟨b, 0, none⟩ = some (.int .u64 n)) (hx : w.cell? ⟨b, 1, none⟩ = some (.int .i64 x)) :
    Calls Yba.prog 18 #[.pointer (some ⟨b, 0, none⟩)] w fun e w' => e = .returned (.int .i64 x) ∧ w' = w := by
  have hb := b_mono n h0 h1
  go_enter Yba.func18, Yba.ntmps18
  go_wp2
  go_ret
  exact ⟨rfl, rfl⟩

theorem isZero_any (n x : Int) (v : Value) (w : World) :
    Calls Yba.prog 19 #[.agg #[.int .u64 n, .int .i64 x, v]] w fun e w' => e = .returned (.bool (decide (n = 0) && decide (x = 0))) ∧ Kept (fun _ => False) w w' := by
  go_enter Yba.func19, Yba.ntmps19
  go_wp2
  all_goals (go_ret; refine ⟨?_, (Kept.refl _ _).alloc _⟩)
  all_goals (simp [*])
  all_goals (exact Bool.eq_iff_iff.2 (by simp))

theorem after_any (n x m y : Int) (w : World) (h0 : 0 ≤ n) (h1 : n < 1000000000) (g0 : 0 ≤ m) (g1 : m < 1000000000) :
    Calls Yba.prog 20 #[.agg #[.int .u64 n, .int .i64 x, .pointer none], .agg #[.int .u64 m, .int .i64 y, .pointer none]] w fun e w' => e = .returned (.bool (decide (y * 1000000000 + m < x * 1000000000 + n))) ∧ Kept (fun _ => False) w w' := by
  have hb : bits .and .u64 (bits .and .u64 n m) 9223372036854775808 = 0 := by
    have : 0 ≤ bits .and .u64 n m ∧ bits .and .u64 n m ≤ n := by
      rw [u64_and n m h0 (by omega) g0 (by omega)]
      have := @Nat.and_le_left n.toNat m.toNat
      omega
    exact b_mono _ this.1 (by omega)
  go_enter Yba.func20, Yba.ntmps20
  go_wp2_with fail
  refine (sec_any _ n x _ h0 h1 (by simp) (by simp)).mono ?_
  rintro e w' ⟨rfl, rfl⟩
  go_wp2_with fail
  refine (sec_any _ m y _ g0 g1 (by simp) (by simp)).mono ?_
  rintro e w' ⟨rfl, rfl⟩
  rcases Int.lt_trichotomy x y with hxy | hxy | hxy
  · have h1 : ¬ y < x := by omega
    have h2 : ¬ x = y := by omega
    go_wp2
    go_ret
    exact ⟨by simp; omega, ((Kept.refl _ _).alloc _).alloc _⟩
  · subst hxy
    have h1 : ¬ x < x := by omega
    go_wp2_with fail
    refine (nsec_any _ _ n _ h0 ‹_› (by simp)).mono ?_
    rintro e w' ⟨rfl, rfl⟩
    go_wp2_with fail
    refine (nsec_any _ _ m _ g0 g1 (by simp)).mono ?_
    rintro e w' ⟨rfl, rfl⟩
    go_wp2
    go_ret
    exact ⟨by simp, ((Kept.refl _ _).alloc _).alloc _⟩
  · go_wp2
    go_ret
    exact ⟨by simp; omega, ((Kept.refl _ _).alloc _).alloc _⟩

end Go.Proofs.Ybulkdbfi
