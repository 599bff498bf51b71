import Derived.Test.YbulkdbeuProg
import Derived.Test.YbulkdbeuKit
import Derived.Laws.Externs
import Derived.KernelRfl
namespace Go.Proofs.Ybulkdbeu
open Go.RowKit

/-- the low word and the carry -/
def lo (s : Int) : Int := s % 18446744073709551616
def hi (s : Int) : Int := s / 18446744073709551616
/-- the borrow -/
def bor (s : Int) : Int := if s < 0 then 1 else 0

def Word (x : Int) : Prop := 0 ≤ x ∧ x < 18446744073709551616

theorem lo_word (s : Int) : Word (lo s) := by unfold lo Word; omega

theorem add64 (x y c : Int) (hx : 0 ≤ x) (hy : 0 ≤ y) (hc0 : 0 ≤ c) (hc : c ≤ 1) (w : World) : (callFunc 11 #[.int .u64 x, .int .u64 y, .int .u64 c]).run Yba.prog w =
    .ok (.value (.tuple #[.int .u64 (lo (x + y + c)), .int .u64 (hi (x + y + c))])) w := by
  rw [run_callFunc_extern Yba.func11 (by kernel_rfl) (by kernel_rfl) (by kernel_rfl) (e := add64Entry) (by kernel_rfl), run_add64 x y c hx hy hc0 hc]
  rfl
theorem add64_0 (x y : Int) (hx : 0 ≤ x) (hy : 0 ≤ y) (w : World) : (callFunc 11 #[.int .u64 x, .int .u64 y, .int .u64 0]).run Yba.prog w =
    .ok (.value (.tuple #[.int .u64 (lo (x + y)), .int .u64 (hi (x + y))])) w := by
  simpa using add64 x y 0 hx hy (Int.le_refl 0) (by decide) w

def subEntry : Array Value → Sem Value := fun args => do
  let (x, y, b) ← Extern.MathBitsCarry.three "Sub64" args
  pure (Extern.MathBitsCarry.pair ((x + Extern.MathBitsCarry.m64 - y - b) % Extern.MathBitsCarry.m64) (if x < y + b then 1 else 0))
theorem run_sub64 (x y b : Nat) (hb : b ≤ 1) (w : World) :
    (subEntry #[.int .u64 x, .int .u64 y, .int .u64 b]).run Yba.prog w =
      .ok (.tuple #[.int .u64 (((x + 18446744073709551616 - y - b) % 18446744073709551616 : Nat) : Int), .int .u64 ((if x < y + b then 1 else 0 : Nat) : Int)]) w := by
  have : b = 0 ∨ b = 1 := by omega
  rcases this with rfl | rfl <;> rfl
theorem sub64 (x y b : Int) (hx : Word x) (hy : Word y) (hb0 : 0 ≤ b) (hb : b ≤ 1) (w : World) : (callFunc 12 #[.int .u64 x, .int .u64 y, .int .u64 b]).run Yba.prog w =
    .ok (.value (.tuple #[.int .u64 (lo (x - y - b)), .int .u64 (bor (x - y - b))])) w := by
  obtain ⟨hx0, hx1⟩ := hx
  obtain ⟨hy0, hy1⟩ := hy
  obtain ⟨x, rfl⟩ := Int.eq_ofNat_of_zero_le hx0
  obtain ⟨y, rfl⟩ := Int.eq_ofNat_of_zero_le hy0
  obtain ⟨b, rfl⟩ := Int.eq_ofNat_of_zero_le hb0
  have e1 : (((x + 18446744073709551616 - y - b) % 18446744073709551616 : Nat) : Int) = lo ((x : Int) - y - b) := by unfold lo; omega
  have e2 : ((if x < y + b then 1 else 0 : Nat) : Int) = bor ((x : Int) - y - b) := by unfold bor; split <;> split <;> omega
  rw [run_callFunc_extern Yba.func12 (by kernel_rfl) (by kernel_rfl) (by kernel_rfl) (e := subEntry) (by kernel_rfl), run_sub64 x y b (by omega), e1, e2]
  rfl
theorem sub64_0 (x y : Int) (hx : Word x) (hy : Word y) (w : World) : (callFunc 12 #[.int .u64 x, .int .u64 y, .int .u64 0]).run Yba.prog w =
    .ok (.value (.tuple #[.int .u64 (lo (x - y)), .int .u64 (bor (x - y))])) w := by
  simpa using sub64 x y 0 hx hy (Int.le_refl 0) (by decide) w

theorem hi_bd (x y c : Int) (hx : Word x) (hy : Word y) (hc0 : 0 ≤ c) (hc : c ≤ 1) : 0 ≤ hi (x + y + c) ∧ hi (x + y + c) ≤ 1 := by unfold hi Word at *; omega
theorem hi_bd0 (x y : Int) (hx : Word x) (hy : Word y) : 0 ≤ hi (x + y) ∧ hi (x + y) ≤ 1 := by unfold hi Word at *; omega
theorem bor_bd (s : Int) : 0 ≤ bor s ∧ bor s ≤ 1 := by unfold bor; split <;> omega

set_option maxHeartbeats 1600000 in
theorem plus_any (x0 x1 x2 x3 y0 y1 y2 y3 : Int) (hx0 : Word x0) (hx1 : Word x1) (hx2 : Word x2) (hx3 : Word x3) (hy0 : Word y0) (hy1 : Word y1) (hy2 : Word y2) (hy3 : Word y3) (w : World) :
    Calls Yba.prog 7 #[.agg #[.int .u64 x0, .int .u64 x1, .int .u64 x2, .int .u64 x3], .agg #[.int .u64 y0, .int .u64 y1, .int .u64 y2, .int .u64 y3]] w fun e w' =>
      e = .returned (.agg #[.int .u64 (lo (x0 + y0)), .int .u64 (lo (x1 + y1 + hi (x0 + y0))), .int .u64 (lo (x2 + y2 + hi (x1 + y1 + hi (x0 + y0)))), .int .u64 (lo (x3 + y3 + hi (x2 + y2 + hi (x1 + y1 + hi (x0 + y0)))))]) ∧ Kept (fun _ => False) w w' := by
  have b0 := hi_bd0 x0 y0 hx0 hy0
  have b1 := hi_bd x1 y1 _ hx1 hy1 b0.1 b0.2
  have b2 := hi_bd x2 y2 _ hx2 hy2 b1.1 b1.2
  have e0 := add64_0 x0 y0 hx0.1 hy0.1
  have e1 := add64 x1 y1 _ hx1.1 hy1.1 b0.1 b0.2
  have e2 := add64 x2 y2 _ hx2.1 hy2.1 b1.1 b1.2
  have e3 := add64 x3 y3 _ hx3.1 hy3.1 b2.1 b2.2
  clear b0 b1 b2 hx0 hx1 hx2 hx3 hy0 hy1 hy2 hy3
  go_enter Yba.func7, Yba.ntmps7
  go_wp2
  refine bodyPost_ret (v := .agg #[.int .u64 (lo (x0 + y0)), .int .u64 (lo (x1 + y1 + hi (x0 + y0))), .int .u64 (lo (x2 + y2 + hi (x1 + y1 + hi (x0 + y0)))), .int .u64 (lo (x3 + y3 + hi (x2 + y2 + hi (x1 + y1 + hi (x0 + y0)))))]) (by simp [results, Yba.results7, go_sem]) rfl ⟨rfl, ?_⟩
  repeat (first | exact Kept.refl _ _ | refine Kept.alloc ?_ _ | refine Kept.drew ?_ | refine Kept.set ?_ (fun h => absurd h (by simp)) _)

set_option maxHeartbeats 1600000 in
theorem minus_any (x0 x1 x2 x3 y0 y1 y2 y3 : Int) (hx0 : Word x0) (hx1 : Word x1) (hx2 : Word x2) (hx3 : Word x3) (hy0 : Word y0) (hy1 : Word y1) (hy2 : Word y2) (hy3 : Word y3) (w : World) :
    Calls Yba.prog 9 #[.agg #[.int .u64 x0, .int .u64 x1, .int .u64 x2, .int .u64 x3], .agg #[.int .u64 y0, .int .u64 y1, .int .u64 y2, .int .u64 y3]] w fun e w' =>
      e = .returned (.agg #[.int .u64 (lo (x0 - y0)), .int .u64 (lo (x1 - y1 - bor (x0 - y0))), .int .u64 (lo (x2 - y2 - bor (x1 - y1 - bor (x0 - y0)))), .int .u64 (lo (x3 - y3 - bor (x2 - y2 - bor (x1 - y1 - bor (x0 - y0)))))]) ∧ Kept (fun _ => False) w w' := by
  have e0 := sub64_0 x0 y0 hx0 hy0
  have e1 := sub64 x1 y1 _ hx1 hy1 (bor_bd (x0 - y0)).1 (bor_bd (x0 - y0)).2
  have e2 := sub64 x2 y2 _ hx2 hy2 (bor_bd (x1 - y1 - bor (x0 - y0))).1 (bor_bd _).2
  have e3 := sub64 x3 y3 _ hx3 hy3 (bor_bd (x2 - y2 - bor (x1 - y1 - bor (x0 - y0)))).1 (bor_bd _).2
  clear hx0 hx1 hx2 hx3 hy0 hy1 hy2 hy3
  go_enter Yba.func9, Yba.ntmps9
  go_wp2
  refine bodyPost_ret (v := .agg #[.int .u64 (lo (x0 - y0)), .int .u64 (lo (x1 - y1 - bor (x0 - y0))), .int .u64 (lo (x2 - y2 - bor (x1 - y1 - bor (x0 - y0)))), .int .u64 (lo (x3 - y3 - bor (x2 - y2 - bor (x1 - y1 - bor (x0 - y0)))))]) (by simp [results, Yba.results9, go_sem]) rfl ⟨rfl, ?_⟩
  repeat (first | exact Kept.refl _ _ | refine Kept.alloc ?_ _ | refine Kept.drew ?_ | refine Kept.set ?_ (fun h => absurd h (by simp)) _)
end Go.Proofs.Ybulkdbeu
