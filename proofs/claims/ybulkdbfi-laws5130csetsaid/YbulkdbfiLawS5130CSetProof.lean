import Derived.Test.YbulkdbfiRows
import Derived.Test.YbulkdbfiMain
import Derived.WalkKit
import Derived.ProofKit
import Derived.OpenShut
import Derived.ChangeOld
import Derived.Below
import Derived.Deep.Slices
import Derived.Lib.SmallJoins
namespace Go.Proofs.Ybulkdbfi.lawS5130CSet
open Go.ChangeShapes Go.WideShapes Go.ChangeAt Go.RowKit Go.Deep
set_option linter.unusedVariables false

theorem own : ownKnob Yba.prog.godebug = none := by kernel_rfl
theorem laidOut : laidOutB Yba.prog = true := by kernel_rfl
theorem cells24 : Yba.prog.cellsOf 24 = 4 := by kernel_rfl
theorem cells5 : Yba.prog.cellsOf 5 = 1 := by kernel_rfl
theorem cells2 : Yba.prog.cellsOf 2 = 1 := by kernel_rfl

theorem ck_ok {a b c d : Int} (ha : (Lit.int .u8 a).wf = true) (hb : (Lit.int .u8 b).wf = true) (hc : (Lit.int .u8 c).wf = true) (hd : (Lit.int .i64 d).wf = true) : Ck.ok ⟨a, b, c, d⟩ := by
  have h1 := bounds_u8 ha
  have h2 := bounds_u8 hb
  have h3 := bounds_u8 hc
  have h4 := bounds_i64 hd
  constructor <;> simp only <;> omega

/-- the four cells of one element -/
theorem ck_of {H : Type} {enc : TypeId × Value → H} {w : World} {base : Nat} {spare : Nat → Bool} {held : Bool} {fuel : Nat} {cs : List Value} {x : DataW H × List MemPlace} (h : DataW.trod enc Yba.prog w base spare held fuel 24 cs = some x) : ∃ k : Ck, k.ok ∧ cs = k.cells.toList := by
  obtain ⟨y0, y1, y2, y3, n, _, hl, h0, h1, h2, h3⟩ := Go.Joins.trod_struct4 Yba.underlying24 h
  rw [cells24] at hl
  match cs, hl with
  | [v0, v1, v2, v3], _ =>
    simp [cells5, cells2] at h0 h1 h2 h3
    obtain ⟨a, e0, _, w0⟩ := DataW.trod_int Yba.underlying5 h0
    obtain ⟨b, e1, _, w1⟩ := DataW.trod_int Yba.underlying5 h1
    obtain ⟨c, e2, _, w2⟩ := DataW.trod_int Yba.underlying5 h2
    obtain ⟨d, e3, _, w3⟩ := DataW.trod_int Yba.underlying2 h3
    simp at e0 e1 e2 e3
    subst e0; subst e1; subst e2; subst e3
    exact ⟨⟨a, b, c, d⟩, ck_ok w0 w1 w2 w3, rfl⟩

theorem at_of {W : World} {x : Addr} {i : Nat} {v : Value} (h : W.cell? (x.add i) = some v) (h0 : ∃ u, W.cell? (x.add 0) = some u) : ∃ b o, x = ⟨b, o, none⟩ ∧ b < W.heap.size ∧ W.cell? ⟨b, o + i, none⟩ = some v := by
  obtain ⟨u, h0⟩ := h0
  obtain ⟨b, off, spot⟩ := x
  have hspot : spot = none := by simpa [Addr.add] using World.cell?_spot h0
  subst hspot
  rw [Go.WideShapes.add_plain] at h
  exact ⟨b, off, rfl, World.block_lt_of_cell? W _ h, h⟩

/-- THE SLICE THAT CAME IN, OPENED. -/
theorem old_of {H : Type} {enc : TypeId × Value → H} {W : World} {base : Nat} {held : Bool} {fuel : Nat} {a : Option Addr} {len cap : Nat} {x : DataW H × List MemPlace} (h : DataW.trod enc Yba.prog W base (fun _ => true) held fuel 22 [.slice a len cap] = some x) :
    ∃ os : List Ck, os.length = len ∧ Old W a os := by
  rcases open_slice Yba.underlying22 h with ⟨hcs, _⟩ | ⟨y, l, c, m, n, D, Pl, hcs, _, hl, _, hm, _, hel⟩
  · simp at hcs
    obtain ⟨rfl, rfl, rfl⟩ := hcs
    exact ⟨[], rfl, ⟨fun i hi => absurd hi (by simp), fun i hi => absurd hi (by simp)⟩⟩
  · simp at hcs
    obtain ⟨rfl, rfl, rfl⟩ := hcs
    simp at hm
    rw [cells24] at hel
    have inst : Inhabited Ck := ⟨ck0⟩
    obtain ⟨K, hK⟩ := choose_lt (α := Ck) (p := fun i k => k.ok ∧ ∀ j, j < 4 → W.cell? (y.add (i * 4 + j)) = k.cells.toList[j]?) (n := len) (fun i hi => by
      obtain ⟨cs', h1, h2⟩ := hel i (by omega)
      obtain ⟨k, hk, rfl⟩ := ck_of h2
      obtain ⟨_, _, hc⟩ := World.cells?_some h1
      exact ⟨k, hk, fun j hj => by have := hc j hj; rwa [add_add] at this⟩)
    have hat : ∀ i, i < len → kAt ((List.range len).map K) i = K i := fun i hi => by
      unfold kAt
      rw [List.getD_eq_getElem?_getD, List.getElem?_map, List.getElem?_range hi]; rfl
    refine ⟨(List.range len).map K, by simp, ⟨fun i hi => ?_, fun i hi => ?_⟩⟩
    · simp at hi
      rw [hat i hi]
      have h00 : ∃ u, W.cell? (y.add 0) = some u := ⟨_, by have := (hK 0 (by omega)).2 0 (by omega); simpa [Ck.cells] using this⟩
      have e0 := (hK i hi).2 0 (by omega)
      have e1 := (hK i hi).2 1 (by omega)
      have e2 := (hK i hi).2 2 (by omega)
      have e3 := (hK i hi).2 3 (by omega)
      simp only [Ck.cells] at e0 e1 e2 e3
      obtain ⟨b, o, rfl, hb, c0⟩ := at_of e0 h00
      rw [Go.WideShapes.add_plain] at e1 e2 e3
      exact ⟨b, o, rfl, hb, c0, e1, e2, e3⟩
    · simp at hi
      rw [hat i hi]
      exact (hK i hi).1

set_option maxRecDepth 100000 in
theorem far_any (a : Option Addr) (len cap : Nat) (v : Array Value) (m : Int) (w : World) (hlen : ¬ len ≤ 1024) :
    Calls Yba.prog 3 #[.slice a len cap, .agg v, .int .i64 m] w fun e w' => e = .returned (.bool true) ∧ Kept (fun _ => False) w w' := by
  have hc1 : (1024 : Int) < len := by omega
  go_enter Yba.func3, Yba.ntmps3
  go_wp2
  go_ret
  exact ⟨rfl, (Kept.refl _ _).alloc _⟩

theorem walk (a : Option Addr) (len cap : Nat) (os : List Ck) (nw : Ck) (m : Int) (w : World) (hl : os.length = len) (ho : Old w a os) (hn : nw.ok) (hm : (Lit.int .i64 m).wf = true) :
    Calls Yba.prog 3 #[.slice a len cap, .agg nw.cells, .int .i64 m] w fun e w' => e = .returned (.bool true) ∧ Below w.heap.size w w' := by
  have b := bounds_i64 hm
  subst hl
  by_cases hlen : os.length ≤ 1024
  · exact (law_any os a cap nw hn m (by omega) (by omega) w ho hlen).mono fun e w' ⟨he, hk⟩ => ⟨he, hk.below (Nat.le_refl _) (fun _ _ => id)⟩
  · exact (far_any a os.length cap nw.cells m w hlen).mono fun e w' ⟨he, hk⟩ => ⟨he, hk.below (Nat.le_refl _) (fun _ _ => id)⟩

set_option maxRecDepth 100000 in
theorem lifted (os : Os) (started : os.Started) (H : Type) (enc : TypeId × Value → H) :
    ReturnsInHanded {} Yba.checked os 3 .any (Rows.lawS5130CSetSpec.pre6 enc Yba.prog Yba.f3 Rows.lawS5130CSetRow.domain false) (Rows.lawS5130CSetSpec.post enc Yba.prog Yba.f3 false true false false) := by
  refine returnsInHanded_of_change (C := Yba.checked) own started (by kernel_rfl) Yba.func3
    (ChangeSpec.witness6 (enc := enc) (C := Yba.checked) false ⟨#[], #[.slice none 0 0, .agg #[.int .u8 0, .int .u8 0, .int .u8 0, .int .i64 0], .int .i64 0], []⟩ 8 (by kernel_rfl) (by kernel_rfl) (by kernel_rfl) (by kernel_rfl)) ?_
  intro W base args ds gs before hval0 hW hcnd _
  have hval : ∀ (j : Nat) t v, Yba.f3.params[j]? = some t → args[j]? = some v → Value.okWide Yba.prog W .any base t v := hval0
  have hW' := hW
  obtain ⟨p, q, hA0, hV, rfl, hfz, hnd⟩ := hW
  have hA : DataW.TrodAll enc Yba.prog W 0 (fun _ => true) true Yba.f3.params.toList args.toList ds p := hA0
  rw [Yba.params3] at hA hval
  obtain ⟨v0, vs0, d0, ds0, p0, q0, hargs, rfl, rfl, h0, r0⟩ := trodAll_cons hA
  obtain ⟨v1, vs1, d1, ds1, p1, q1, rfl, rfl, rfl, h1, r1⟩ := trodAll_cons r0
  obtain ⟨v2, vs2, d2, ds2, p2, q2, rfl, rfl, rfl, h2, r2⟩ := trodAll_cons r1
  obtain ⟨rfl, rfl, rfl⟩ := trodAll_nil r2
  obtain rfl : args = #[v0, v1, v2] := by cases args; simp_all
  obtain ⟨rfl, rfl⟩ := trodVars_none hV
  obtain ⟨a0, len0, cap0, rfl⟩ := okWide_slice Yba.underlying22 (hval 0 22 v0 rfl rfl)
  obtain ⟨a2, rfl, rfl, rfl, w2⟩ := open_int Yba.underlying2 (hval 2 2 v2 rfl rfl) h2
  have k0 := h0
  have k1 := h1
  have lt0 : ∀ x ∈ p0, x.block < W.heap.size := by obtain ⟨m, hm⟩ := k0; exact DataW.trod_lt m _ _ _ hm
  have lt1 : ∀ x ∈ p1, x.block < W.heap.size := by obtain ⟨m, hm⟩ := k1; exact DataW.trod_lt m _ _ _ hm
  obtain ⟨L, hL, hold⟩ : ∃ L : List Ck, L.length = len0 ∧ Old W a0 L := by
    obtain ⟨fuel, hf⟩ := h0
    exact old_of hf
  obtain ⟨nw, hnw, rfl⟩ : ∃ nw : Ck, nw.ok ∧ v1 = .agg nw.cells := by
    obtain ⟨c0, c1, c2, c3, y0, y1, y2, y3, n, e, _, _, t0, t1, t2, t3⟩ := Go.Joins.open_agg4 Yba.underlying24 (by kernel_rfl) cells24 (hval 1 24 v1 rfl rfl) h1
    obtain ⟨z0, e0, _, w0⟩ := DataW.trod_int Yba.underlying5 t0
    obtain ⟨z1, e1, _, w1⟩ := DataW.trod_int Yba.underlying5 t1
    obtain ⟨z2, e2, _, w2'⟩ := DataW.trod_int Yba.underlying5 t2
    obtain ⟨z3, e3, _, w3⟩ := DataW.trod_int Yba.underlying2 t3
    simp at e0 e1 e2 e3
    subst e0; subst e1; subst e2; subst e3
    exact ⟨⟨z0, z1, z2, z3⟩, ck_ok w0 w1 w2' w3, e⟩
  clear hA0 hval0
  refine (walk a0 len0 cap0 L nw a2 W hL hold hnw w2).mono fun e W' ⟨he, bel⟩ => ?_
  subst he
  exact ⟨_, rfl, _, _, _, [], _, [], hW', trodAll_mk1 (shut_bool Yba.underlying4 _), (trodAll_cons_mk (Below.trod laidOut (by kernel_rfl) (of_decide_eq_true (by kernel_rfl)) k0 bel lt0) (trodAll_cons_mk (Below.trod laidOut (by kernel_rfl) (of_decide_eq_true (by kernel_rfl)) k1 bel lt1) (trodAll_cons_mk (shut_int Yba.underlying2 w2) trodAll_mk0))), rfl, bel.frame _, fun h => by cases h⟩

theorem over : Rows.lawS5130CSetRow.holds Yba.pinned (OpenSpec.ofChange Rows.lawS5130CSetSpec) :=
  OpenClaim.holds_of_wide 3 Yba.f3 rfl rfl rfl rfl rfl rfl rfl ⟨rfl, rfl, rfl, rfl, rfl⟩ rfl rfl rfl rfl rfl (by kernel_rfl) Yba.func3 (by kernel_rfl)
    (of_decide_eq_true (by kernel_rfl)) (by unfold Func.isWrapper; first | (rw [if_pos (by decide +kernel)]; kernel_rfl) | (rw [if_neg (by decide +kernel)]; exact ⟨rfl, rfl⟩))
    (fun os started H enc _ => lifted os started H enc)

/-- ████ THE STATEMENT ████ -/
theorem proved : Rows.LawS5130CSetSaid := over
#print axioms proved
end Go.Proofs.Ybulkdbfi.lawS5130CSet
