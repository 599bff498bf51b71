import Derived.Test.YbulkdbeuPlus
import Derived.Laws.MathBits
import Derived.Laws.BitsAllLaws
namespace Go.Proofs.Ybulkdbeu
open Go.RowKit

def l32 (x : Int) : Int := x % 4294967296
def h32 (x : Int) : Int := x / 4294967296
def cc (A B : Nat → Int) : Nat → Int
  | 0 => 0
  | k + 1 => hi (A k + B k + cc A B k)
def zz (A B : Nat → Int) (k : Nat) : Int := lo (A k + B k + cc A B k)
def S0 (A B : Nat → Int) (k : Nat) : Int := l32 (A k) + l32 (B k) + cc A B k
def S1 (A B : Nat → Int) (k : Nat) : Int := h32 (A k) + h32 (B k) + h32 (S0 A B k)

theorem cc_bd (A B : Nat → Int) (hA : ∀ k, k < 4 → Word (A k)) (hB : ∀ k, k < 4 → Word (B k)) : ∀ k, k ≤ 4 → 0 ≤ cc A B k ∧ cc A B k ≤ 1
  | 0, _ => by simp [cc]
  | k + 1, h => by
    have := cc_bd A B hA hB k (by omega)
    exact hi_bd _ _ _ (hA k (by omega)) (hB k (by omega)) this.1 this.2

theorem l32_bd (x : Int) : 0 ≤ l32 x ∧ l32 x < 4294967296 := by unfold l32; omega
theorem h32_bd (x : Int) (h : Word x) : 0 ≤ h32 x ∧ h32 x < 4294967296 := by unfold h32 Word at *; omega

/-- the two half steps make one whole step -/
theorem carry_eq (A B : Nat → Int) (k : Nat) : h32 (S1 A B k) = cc A B (k + 1) := by
  show h32 (S1 A B k) = hi (A k + B k + cc A B k)
  unfold S1 S0 h32 l32 hi; omega
theorem word_eq (A B : Nat → Int) (k : Nat) : l32 (S0 A B k) + l32 (S1 A B k) * 4294967296 = zz A B k := by
  unfold S1 S0 zz h32 l32 lo; omega

theorem mask_eq (x : Int) (h : Word x) : bits .and .u64 x 4294967295 = l32 x := and_low32 x h.1 h.2
theorem mask_lt (x : Int) (h0 : 0 ≤ x) (h1 : x < 4294967296) : bits .and .u64 x 4294967295 = x := by
  rw [and_low32 x h0 (by omega)]; omega
theorem wrap_lt (x : Int) (h0 : 0 ≤ x) (h1 : x < 18446744073709551616) : IntKind.u64.wrap x = x := by rw [IntKind.wrap_u64]; omega
theorem or_zero (x : Int) (h0 : 0 ≤ x) (h1 : x < 4294967296) : bits .or .u64 0 x = x := by
  rw [u64_or 0 x (by omega) (by omega) h0 (by omega)]; simp only [Int.toNat_zero, Nat.zero_or]; omega
theorem or_hi (x y : Int) (h0 : 0 ≤ x) (h1 : x < 4294967296) (h2 : 0 ≤ y) (h3 : y < 4294967296) : bits .or .u64 x (y * 4294967296) = x + y * 4294967296 := by
  rw [u64_or x _ h0 (by omega) (by omega) (by omega)]
  have e1 : (y * 4294967296).toNat = 2 ^ 32 * y.toNat := by omega
  rw [e1, Nat.or_comm, ← Nat.two_pow_add_eq_or_of_lt (by omega)]
  omega

def arr4 (O : Nat → Int) : Array Value := #[.int .u64 (O 0), .int .u64 (O 1), .int .u64 (O 2), .int .u64 (O 3)]
def updI (O : Nat → Int) (k : Nat) (v : Int) : Nat → Int := fun j => if j = k then v else O j
theorem arr4_get (O : Nat → Int) (k : Nat) (h : k < 4) : (arr4 O)[k]? = some (.int .u64 (O k)) := by
  match k, h with
  | 0, _ => rfl
  | 1, _ => rfl
  | 2, _ => rfl
  | 3, _ => rfl
theorem arr4_set (O : Nat → Int) (k : Nat) (v : Int) (h : k < 4) : (arr4 O).setIfInBounds k (.int .u64 v) = arr4 (updI O k v) := by
  match k, h with
  | 0, _ => simp [arr4, updI]
  | 1, _ => simp [arr4, updI]
  | 2, _ => simp [arr4, updI]
  | 3, _ => simp [arr4, updI]

structure MInv (w : World) (A B : Nat → Int) (i : Nat) (c : Int) (O : Nat → Int) (wr : World) : Prop where
  bA : Blk wr w.heap.size (arr4 A) 25
  bB : Blk wr (w.heap.size + 1) (arr4 B) 25
  bR : Blk wr (w.heap.size + 1 + 1) (arr4 fun _ => 0) 25
  bO : Blk wr (w.heap.size + 1 + 1 + 1) (arr4 O) 25
  done : ∀ j, j < i / 2 → O j = zz A B j
  todo : ∀ j, i / 2 < j → O j = 0
  even : i % 2 = 0 → c = cc A B (i / 2) ∧ O (i / 2) = 0
  odd : i % 2 = 1 → c = h32 (S0 A B (i / 2)) ∧ O (i / 2) = l32 (S0 A B (i / 2))
  kept : Kept (fun _ => False) w wr

theorem minv_set {w : World} {A B : Nat → Int} {i : Nat} {c : Int} {O : Nat → Int} {wr : World} (h : MInv w A B i c O wr) (k : Nat) (v : Int) (hk : k < 4) :
    Blk (wr.setCell ⟨w.heap.size + 1 + 1 + 1, k, none⟩ (.int .u64 v)) w.heap.size (arr4 A) 25 ∧ Blk (wr.setCell ⟨w.heap.size + 1 + 1 + 1, k, none⟩ (.int .u64 v)) (w.heap.size + 1) (arr4 B) 25 ∧
      Blk (wr.setCell ⟨w.heap.size + 1 + 1 + 1, k, none⟩ (.int .u64 v)) (w.heap.size + 1 + 1) (arr4 fun _ => 0) 25 ∧ Blk (wr.setCell ⟨w.heap.size + 1 + 1 + 1, k, none⟩ (.int .u64 v)) (w.heap.size + 1 + 1 + 1) (arr4 (updI O k v)) 25 ∧
      Kept (fun _ => False) w (wr.setCell ⟨w.heap.size + 1 + 1 + 1, k, none⟩ (.int .u64 v)) := by
  refine ⟨h.bA.setOther _ _ (by show w.heap.size ≠ w.heap.size + 1 + 1 + 1; omega), h.bB.setOther _ _ (by show w.heap.size + 1 ≠ w.heap.size + 1 + 1 + 1; omega), h.bR.setOther _ _ (by show w.heap.size + 1 + 1 ≠ w.heap.size + 1 + 1 + 1; omega), ?_, h.kept.set (fun hl => absurd hl (by show ¬ w.heap.size + 1 + 1 + 1 < _; omega)) _⟩
  have := h.bO.set k (.int .u64 v)
  rwa [arr4_set _ _ _ hk] at this

theorem minv_even {w : World} {A B : Nat → Int} {i : Nat} {c : Int} {O : Nat → Int} {wr : World} (h : MInv w A B i c O wr) (hi : i < 8) (hp : i % 2 = 0) :
    MInv w A B (i + 1) (h32 (S0 A B (i / 2))) (updI O (i / 2) (l32 (S0 A B (i / 2)))) (wr.setCell ⟨w.heap.size + 1 + 1 + 1, i / 2, none⟩ (.int .u64 (l32 (S0 A B (i / 2))))) := by
  obtain ⟨h1, h2, h3, h4, h5⟩ := minv_set h (i / 2) (l32 (S0 A B (i / 2))) (by omega)
  have e : (i + 1) / 2 = i / 2 := by omega
  refine ⟨h1, h2, h3, h4, fun j hj => ?_, fun j hj => ?_, fun hm => absurd hm (by omega), fun _ => ?_, h5⟩
  · rw [e] at hj; rw [updI, if_neg (by omega)]; exact h.done j hj
  · rw [e] at hj; rw [updI, if_neg (by omega)]; exact h.todo j hj
  · rw [e]; exact ⟨rfl, by simp [updI]⟩
theorem minv_odd {w : World} {A B : Nat → Int} {i : Nat} {c : Int} {O : Nat → Int} {wr : World} (h : MInv w A B i c O wr) (hi : i < 8) (hp : i % 2 = 1) :
    MInv w A B (i + 1) (h32 (S1 A B (i / 2))) (updI O (i / 2) (l32 (S0 A B (i / 2)) + l32 (S1 A B (i / 2)) * 4294967296)) (wr.setCell ⟨w.heap.size + 1 + 1 + 1, i / 2, none⟩ (.int .u64 (l32 (S0 A B (i / 2)) + l32 (S1 A B (i / 2)) * 4294967296))) := by
  obtain ⟨h1, h2, h3, h4, h5⟩ := minv_set h (i / 2) (l32 (S0 A B (i / 2)) + l32 (S1 A B (i / 2)) * 4294967296) (by omega)
  have e : (i + 1) / 2 = i / 2 + 1 := by omega
  refine ⟨h1, h2, h3, h4, fun j hj => ?_, fun j hj => ?_, fun _ => ?_, fun hm => absurd hm (by omega), h5⟩
  · rw [e] at hj
    by_cases hji : j = i / 2
    · rw [updI, if_pos hji, hji]; exact word_eq A B _
    · rw [updI, if_neg hji]; exact h.done j (by omega)
  · rw [e] at hj; rw [updI, if_neg (by omega)]; exact h.todo j (by omega)
  · rw [e, updI, if_neg (by omega)]; exact ⟨carry_eq A B _, h.todo _ (by omega)⟩

set_option maxHeartbeats 3200000 in
set_option maxRecDepth 100000 in
theorem model_any (A B : Nat → Int) (hA : ∀ k, k < 4 → Word (A k)) (hB : ∀ k, k < 4 → Word (B k)) (w : World) :
    Calls Yba.prog 8 #[.agg #[.int .u64 (A 0), .int .u64 (A 1), .int .u64 (A 2), .int .u64 (A 3)], .agg #[.int .u64 (B 0), .int .u64 (B 1), .int .u64 (B 2), .int .u64 (B 3)]] w fun e w' =>
      e = .returned (.agg #[.int .u64 (zz A B 0), .int .u64 (zz A B 1), .int .u64 (zz A B 2), .int .u64 (zz A B 3)]) ∧ Kept (fun _ => False) w w' := by
  have HA := hide hA
  have HB := hide hB
  clear hA hB
  go_enter Yba.func8, Yba.ntmps8
  go_wp2_with fail
  go_loopw [6, 7] (fun cv iv wr => ∃ (i : Nat) (c : Int) (O : Nat → Int), i ≤ 8 ∧ iv = .int .i64 i ∧ cv = .int .u64 c ∧ MInv w A B i c O wr) (fun _ iv _ => 8 - (intOf iv).toNat)
  case atStart =>
    refine ⟨0, 0, fun _ => 0, by omega, rfl, rfl, ?_⟩
    exact ⟨(((Blk.new _ (arr4 A) 25).alloc _).alloc _).alloc _, ((Blk.new' (arr4 B) 25 (by simp)).alloc _).alloc _, (Blk.new' (arr4 fun _ => 0) 25 (by simp)).alloc _, Blk.new' (arr4 fun _ => 0) 25 (by simp), fun j hj => absurd hj (by omega), fun _ _ => rfl, fun _ => ⟨rfl, rfl⟩, fun h => absurd h (by omega), ((((Kept.refl _ _).alloc _).alloc _).alloc _).alloc _⟩
  case round =>
    obtain ⟨i, c, O, hi, rfl, rfl, inv⟩ := hrel
    by_cases hlt : i < 8
    · obtain ⟨k, hk⟩ : ∃ k, k = i / 2 := ⟨_, rfl⟩
      have hk4 : k < 4 := by omega
      have hdiv : (i : Int) / 2 = (k : Int) := by omega
      have hki : (k : Int) < 4 := by omega
      have cA : wr.cell? ⟨w.heap.size, k, none⟩ = some (.int .u64 (A k)) := (inv.bA.cell k).trans (arr4_get A k hk4)
      have cB : wr.cell? ⟨w.heap.size + 1, k, none⟩ = some (.int .u64 (B k)) := (inv.bB.cell k).trans (arr4_get B k hk4)
      have fO : wr.frozen? ⟨w.heap.size + 1 + 1 + 1, k, none⟩ = false := inv.bO.frozen k
      have wA := HA.out k hk4
      have wB := HB.out k hk4
      have hcc := cc_bd A B HA.out HB.out k (by omega)
      by_cases hpar : i % 2 = 0
      · have hmod : (i : Int) % 2 = 0 := by omega
        obtain ⟨hc, hO⟩ := inv.even hpar
        have cO : wr.cell? ⟨w.heap.size + 1 + 1 + 1, k, none⟩ = some (.int .u64 0) := by rw [← hO, ← hk]; exact (inv.bO.cell k).trans (arr4_get O k hk4)
        have inv' := minv_even inv hlt hpar
        rw [← hk] at inv' hc
        have bA := l32_bd (A k)
        have bB := l32_bd (B k)
        have e1 := mask_eq (A k) wA
        have e2 := mask_eq (B k) wB
        have e3 := wrap_lt (l32 (A k) + l32 (B k)) (by omega) (by omega)
        have e4 : IntKind.u64.wrap (l32 (A k) + l32 (B k) + cc A B k) = S0 A B k := wrap_lt _ (by omega) (by omega)
        have bS : 0 ≤ S0 A B k ∧ S0 A B k < 18446744073709551616 := by unfold S0; omega
        have e5 := mask_eq (S0 A B k) bS
        have e6 := or_zero (l32 (S0 A B k)) (l32_bd _).1 (l32_bd _).2
        have e7 : S0 A B k / 4294967296 = h32 (S0 A B k) := rfl
        have e8 := wrap_lt (l32 (S0 A B k)) (l32_bd _).1 (by have := (l32_bd (S0 A B k)).2; omega)
        subst hc
        clear hk hO inv wA wB hcc bA bB bS
        go_wp2
        go_roundw
        case rel => exact ⟨i + 1, _, _, by omega, by go_num, rfl, inv'⟩
        case measure => simp [intOf]; omega
      · have hmod : (i : Int) % 2 = 1 := by omega
        obtain ⟨hc, hO⟩ := inv.odd (by omega)
        have cO : wr.cell? ⟨w.heap.size + 1 + 1 + 1, k, none⟩ = some (.int .u64 (l32 (S0 A B k))) := by rw [hk, ← hO]; exact (inv.bO.cell _).trans (arr4_get O _ (by omega))
        have inv' := minv_odd inv hlt (by omega)
        rw [← hk] at inv' hc
        have bA := h32_bd (A k) wA
        have bB := h32_bd (B k) wB
        have bA' := l32_bd (A k)
        have bB' := l32_bd (B k)
        have bS : 0 ≤ h32 (S0 A B k) ∧ h32 (S0 A B k) ≤ 2 := by unfold S0 h32; omega
        have e1 := mask_lt (h32 (A k)) bA.1 bA.2
        have e2 := mask_lt (h32 (B k)) bB.1 bB.2
        have e3 := wrap_lt (h32 (A k) + h32 (B k)) (by omega) (by omega)
        have e4 : IntKind.u64.wrap (h32 (A k) + h32 (B k) + h32 (S0 A B k)) = S1 A B k := wrap_lt _ (by omega) (by omega)
        have bT : 0 ≤ S1 A B k ∧ S1 A B k < 18446744073709551616 := by unfold S1; omega
        have e5 := mask_eq (S1 A B k) bT
        have e6 := or_hi (l32 (S0 A B k)) (l32 (S1 A B k)) (l32_bd _).1 (l32_bd _).2 (l32_bd _).1 (l32_bd _).2
        have e7 : S1 A B k / 4294967296 = h32 (S1 A B k) := rfl
        have e8 : A k / 4294967296 = h32 (A k) := rfl
        have e9 : B k / 4294967296 = h32 (B k) := rfl
        have e10 := wrap_lt (l32 (S1 A B k) * 4294967296) (by have := (l32_bd (S1 A B k)).1; omega) (by have := (l32_bd (S1 A B k)).2; omega)
        subst hc
        clear hk hO inv wA wB hcc bA bB bA' bB' bS bT
        go_wp2
        go_roundw
        case rel => exact ⟨i + 1, _, _, by omega, by go_num, rfl, inv'⟩
        case measure => simp [intOf]; omega
    · have hi8 : i = 8 := by omega
      subst hi8
      have d0 : wr.cell? ⟨w.heap.size + 1 + 1 + 1, 0, none⟩ = some (.int .u64 (zz A B 0)) := by rw [← inv.done 0 (by omega)]; exact inv.bO.cell 0
      have d1 : wr.cell? ⟨w.heap.size + 1 + 1 + 1, 1, none⟩ = some (.int .u64 (zz A B 1)) := by rw [← inv.done 1 (by omega)]; exact inv.bO.cell 1
      have d2 : wr.cell? ⟨w.heap.size + 1 + 1 + 1, 2, none⟩ = some (.int .u64 (zz A B 2)) := by rw [← inv.done 2 (by omega)]; exact inv.bO.cell 2
      have d3 : wr.cell? ⟨w.heap.size + 1 + 1 + 1, 3, none⟩ = some (.int .u64 (zz A B 3)) := by rw [← inv.done 3 (by omega)]; exact inv.bO.cell 3
      have r0 : wr.cell? ⟨w.heap.size + 1 + 1, 0, none⟩ = some (.int .u64 0) := inv.bR.cell 0
      have r1 : wr.cell? ⟨w.heap.size + 1 + 1, 1, none⟩ = some (.int .u64 0) := inv.bR.cell 1
      have r2 : wr.cell? ⟨w.heap.size + 1 + 1, 2, none⟩ = some (.int .u64 0) := inv.bR.cell 2
      have r3 : wr.cell? ⟨w.heap.size + 1 + 1, 3, none⟩ = some (.int .u64 0) := inv.bR.cell 3
      have f0 := inv.bR.frozen 0
      have f1 := inv.bR.frozen 1
      have f2 := inv.bR.frozen 2
      have f3 := inv.bR.frozen 3
      have bF : Blk ((((wr.setCell ⟨w.heap.size + 1 + 1, 0, none⟩ (.int .u64 (zz A B 0))).setCell ⟨w.heap.size + 1 + 1, 1, none⟩ (.int .u64 (zz A B 1))).setCell ⟨w.heap.size + 1 + 1, 2, none⟩ (.int .u64 (zz A B 2))).setCell ⟨w.heap.size + 1 + 1, 3, none⟩ (.int .u64 (zz A B 3))) (w.heap.size + 1 + 1) #[.int .u64 (zz A B 0), .int .u64 (zz A B 1), .int .u64 (zz A B 2), .int .u64 (zz A B 3)] 25 :=
        (((inv.bR.set 0 _).set 1 _).set 2 _).set 3 _
      have kk := inv.kept
      clear inv
      go_wp2
      refine bodyPost_ret (v := .agg #[.int .u64 (zz A B 0), .int .u64 (zz A B 1), .int .u64 (zz A B 2), .int .u64 (zz A B 3)]) ?_ rfl ⟨rfl, ?_⟩
      · exact results_cell_row Yba.results8 _ _ (w.heap.size + 1 + 1) 25 _ (0, 0) _ rfl bF Yba.underlying25 rfl (by kernel_rfl)
      · exact (((kk.set (fun hl => absurd hl (by show ¬ w.heap.size + 1 + 1 < _; omega)) _).set (fun hl => absurd hl (by show ¬ w.heap.size + 1 + 1 < _; omega)) _).set (fun hl => absurd hl (by show ¬ w.heap.size + 1 + 1 < _; omega)) _).set (fun hl => absurd hl (by show ¬ w.heap.size + 1 + 1 < _; omega)) _
end Go.Proofs.Ybulkdbeu
