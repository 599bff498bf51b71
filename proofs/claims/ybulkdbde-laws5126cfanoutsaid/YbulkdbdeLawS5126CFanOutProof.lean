import Derived.Test.YbulkdbdeRows
import Derived.Test.YbulkdbdeFan
import Derived.WalkKit
import Derived.ProofKit
import Derived.OpenShut
import Derived.ShutString
import Derived.ChangeOld
import Derived.Below
import Derived.SliceStrings
namespace Go.Proofs.Ybulkdbde.lawS5126CFanOut
open Go.ChangeShapes Go.WideShapes Go.ChangeAt Go.RowKit
open Go.ChangeMaps (open_string shut_string)
set_option linter.unusedVariables false

theorem own : ownKnob Yba.prog.godebug = none := by kernel_rfl
theorem laidOut : laidOutB Yba.prog = true := by kernel_rfl
theorem cells9 : Yba.prog.cellsOf 9 = 1 := by kernel_rfl

theorem far_any (n : Int) (a : Option Addr) (len cap : Nat) (m u r kd : ByteArray) (st d wt ra : Int) (w : World) (hlen : ¬ len ≤ 256) :
    Calls Yba.prog 5 #[.int .u8 n, .slice a len cap, .string m, .string u, .string r, .string kd, .int .i64 st, .int .i64 d, .int .i64 wt, .int .i64 ra] w fun e w' =>
      e = .returned (.bool true) ∧ Below w.heap.size w w' := by
  have hc1 : (256 : Int) < len := by omega
  go_enter Yba.func5, Yba.ntmps5
  go_wp2
  go_ret
  exact ⟨rfl, Below.refl _ _⟩

theorem at_of {W : World} {x : Addr} {i : Nat} {v : Value} (h : W.cell? (x.add i) = some v) (h0 : ∃ u, W.cell? (x.add 0) = some u) : ∃ b o, x = ⟨b, o, none⟩ ∧ b < W.heap.size ∧ W.cell? ⟨b, o + i, none⟩ = some v := by
  obtain ⟨u, h0⟩ := h0
  obtain ⟨b, off, spot⟩ := x
  have hspot : spot = none := by simpa [Addr.add] using World.cell?_spot h0
  subst hspot
  rw [Go.WideShapes.add_plain] at h
  exact ⟨b, off, rfl, World.block_lt_of_cell? W _ h, h⟩

theorem walk (a0 : Int) (a : Option Addr) (len cap : Nat) (ss : Nat → ByteArray) (m u r kd : ByteArray) (st d wt ra : Int) (w : World) (w0 : (Lit.int .u8 a0).wf = true)
    (hss : ∀ i, i < len → ∃ b o, a = some ⟨b, o, none⟩ ∧ b < w.heap.size ∧ w.cell? ⟨b, o + i, none⟩ = some (.string (ss i))) :
    Calls Yba.prog 5 #[.int .u8 a0, .slice a len cap, .string m, .string u, .string r, .string kd, .int .i64 st, .int .i64 d, .int .i64 wt, .int .i64 ra] w fun e w' =>
      e = .returned (.bool true) ∧ Below w.heap.size w w' := by
  have hb := bounds_u8 w0
  obtain ⟨n, rfl⟩ := Int.eq_ofNat_of_zero_le hb.1
  by_cases hlen : len ≤ 256
  · exact fan_any n a len cap ss m u r kd st d wt ra w (by omega) hlen hss
  · exact far_any n a len cap m u r kd st d wt ra w hlen

set_option maxRecDepth 100000 in
theorem lifted (os : Os) (started : os.Started) (H : Type) (enc : TypeId × Value → H) :
    ReturnsInHanded {} Yba.checked os 5 .any (Rows.lawS5126CFanOutSpec.pre6 enc Yba.prog Yba.f5 Rows.lawS5126CFanOutRow.domain false) (Rows.lawS5126CFanOutSpec.post enc Yba.prog Yba.f5 false true false false) := by
  refine returnsInHanded_of_change (C := Yba.checked) own started (by kernel_rfl) Yba.func5
    (ChangeSpec.witness6 (enc := enc) (C := Yba.checked) false ⟨#[], #[.int .u8 0, .slice none 0 0, .string ⟨#[]⟩, .string ⟨#[]⟩, .string ⟨#[]⟩, .string ⟨#[]⟩, .int .i64 0, .int .i64 0, .int .i64 0, .int .i64 0], []⟩ 8 (by kernel_rfl) (by kernel_rfl) (by kernel_rfl) (by kernel_rfl)) ?_
  intro W base args ds gs before hval0 hW hcnd _
  have hval : ∀ (j : Nat) t v, Yba.f5.params[j]? = some t → args[j]? = some v → Value.okWide Yba.prog W .any base t v := hval0
  have hW' := hW
  obtain ⟨p, q, hA0, hV, rfl, hfz, hnd⟩ := hW
  have hA : DataW.TrodAll enc Yba.prog W 0 (fun _ => true) true Yba.f5.params.toList args.toList ds p := hA0
  rw [Yba.params5] at hA hval
  obtain ⟨v0, vs0, d0, ds0, p0, q0, hargs, rfl, rfl, h0, r0⟩ := trodAll_cons hA
  obtain ⟨v1, vs1, d1, ds1, p1, q1, rfl, rfl, rfl, h1, r1⟩ := trodAll_cons r0
  obtain ⟨v2, vs2, d2, ds2, p2, q2, rfl, rfl, rfl, h2, r2⟩ := trodAll_cons r1
  obtain ⟨v3, vs3, d3, ds3, p3, q3, rfl, rfl, rfl, h3, r3⟩ := trodAll_cons r2
  obtain ⟨v4, vs4, d4, ds4, p4, q4, rfl, rfl, rfl, h4, r4⟩ := trodAll_cons r3
  obtain ⟨v5, vs5, d5, ds5, p5, q5, rfl, rfl, rfl, h5, r5⟩ := trodAll_cons r4
  obtain ⟨v6, vs6, d6, ds6, p6, q6, rfl, rfl, rfl, h6, r6⟩ := trodAll_cons r5
  obtain ⟨v7, vs7, d7, ds7, p7, q7, rfl, rfl, rfl, h7, r7⟩ := trodAll_cons r6
  obtain ⟨v8, vs8, d8, ds8, p8, q8, rfl, rfl, rfl, h8, r8⟩ := trodAll_cons r7
  obtain ⟨v9, vs9, d9, ds9, p9, q9, rfl, rfl, rfl, h9, r9⟩ := trodAll_cons r8
  obtain ⟨rfl, rfl, rfl⟩ := trodAll_nil r9
  obtain rfl : args = #[v0, v1, v2, v3, v4, v5, v6, v7, v8, v9] := by cases args; simp_all
  obtain ⟨rfl, rfl⟩ := trodVars_none hV
  obtain ⟨a0, rfl, rfl, rfl, w0⟩ := open_int Yba.underlying5 (hval 0 5 v0 rfl rfl) h0
  obtain ⟨a1, len1, cap1, rfl⟩ := okWide_slice Yba.underlying28 (hval 1 28 v1 rfl rfl)
  obtain ⟨s2, rfl, rfl, rfl, w2⟩ := open_string Yba.underlying9 (hval 2 9 v2 rfl rfl) h2
  obtain ⟨s3, rfl, rfl, rfl, w3⟩ := open_string Yba.underlying9 (hval 3 9 v3 rfl rfl) h3
  obtain ⟨s4, rfl, rfl, rfl, w4⟩ := open_string Yba.underlying9 (hval 4 9 v4 rfl rfl) h4
  obtain ⟨s5, rfl, rfl, rfl, w5⟩ := open_string Yba.underlying9 (hval 5 9 v5 rfl rfl) h5
  obtain ⟨a6, rfl, rfl, rfl, w6⟩ := open_int Yba.underlying3 (hval 6 3 v6 rfl rfl) h6
  obtain ⟨a7, rfl, rfl, rfl, w7⟩ := open_int Yba.underlying2 (hval 7 2 v7 rfl rfl) h7
  obtain ⟨a8, rfl, rfl, rfl, w8⟩ := open_int Yba.underlying2 (hval 8 2 v8 rfl rfl) h8
  obtain ⟨a9, rfl, rfl, rfl, w9⟩ := open_int Yba.underlying2 (hval 9 2 v9 rfl rfl) h9
  have k1 := h1
  have lt1 : ∀ x ∈ p1, x.block < W.heap.size := by obtain ⟨m, hm⟩ := k1; exact DataW.trod_lt m _ _ _ hm
  obtain ⟨ss, hss⟩ : ∃ ss : Nat → ByteArray, ∀ i, i < len1 → ∃ b o, a1 = some ⟨b, o, none⟩ ∧ b < W.heap.size ∧ W.cell? ⟨b, o + i, none⟩ = some (.string (ss i)) := by
    obtain ⟨fuel, hf⟩ := h1
    rcases open_strings Yba.underlying28 Yba.underlying9 cells9 hf with ⟨hcs, _⟩ | ⟨x, l, c, zs, hcs, _, hl, hm, hz, _, hcell, _⟩
    · simp [Value.cells] at hcs
      obtain ⟨rfl, rfl, rfl⟩ := hcs
      exact ⟨fun _ => ByteArray.empty, fun i hi => absurd hi (by omega)⟩
    · simp [Value.cells] at hcs
      obtain ⟨rfl, rfl, rfl⟩ := hcs
      have hz' : zs.length = cap1 := by simpa using hz
      refine ⟨fun i => zs.getD i ByteArray.empty, fun i hi => ?_⟩
      obtain ⟨b, o, rfl, h1, h2⟩ := at_of (hcell i (by omega)) ⟨_, hcell 0 (by omega)⟩
      exact ⟨b, o, rfl, h1, h2⟩
  clear hA0 hval0
  refine (walk a0 a1 len1 cap1 ss s2 s3 s4 s5 a6 a7 a8 a9 W w0 hss).mono fun e W' ⟨he, bel⟩ => ?_
  subst he
  exact ⟨_, rfl, _, _, _, [], _, [], hW', trodAll_mk1 (shut_bool Yba.underlying4 _), (trodAll_cons_mk (shut_int Yba.underlying5 w0) (trodAll_cons_mk (Below.trod laidOut (by kernel_rfl) (of_decide_eq_true (by kernel_rfl)) k1 bel lt1) (trodAll_cons_mk (shut_string Yba.underlying9 w2) (trodAll_cons_mk (shut_string Yba.underlying9 w3) (trodAll_cons_mk (shut_string Yba.underlying9 w4) (trodAll_cons_mk (shut_string Yba.underlying9 w5) (trodAll_cons_mk (shut_int Yba.underlying3 w6) (trodAll_cons_mk (shut_int Yba.underlying2 w7) (trodAll_cons_mk (shut_int Yba.underlying2 w8) (trodAll_cons_mk (shut_int Yba.underlying2 w9) trodAll_mk0)))))))))), rfl, bel.frame _, fun h => by cases h⟩

theorem over : Rows.lawS5126CFanOutRow.holds Yba.pinned (OpenSpec.ofChange Rows.lawS5126CFanOutSpec) :=
  OpenClaim.holds_of_wide 5 Yba.f5 rfl rfl rfl rfl rfl rfl rfl ⟨rfl, rfl, rfl, rfl, rfl⟩ rfl rfl rfl rfl rfl (by kernel_rfl) Yba.func5 (by kernel_rfl)
    (of_decide_eq_true (by kernel_rfl)) (by unfold Func.isWrapper; first | (rw [if_pos (by decide +kernel)]; kernel_rfl) | (rw [if_neg (by decide +kernel)]; exact ⟨rfl, rfl⟩))
    (fun os started H enc _ => lifted os started H enc)

theorem proved : Rows.LawS5126CFanOutSaid := over
#print axioms proved
end Go.Proofs.Ybulkdbde.lawS5126CFanOut
