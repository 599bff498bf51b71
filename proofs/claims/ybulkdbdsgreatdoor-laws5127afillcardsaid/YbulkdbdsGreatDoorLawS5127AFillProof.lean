import Derived.Test.YbulkdbdsGreatDoorRows
import Derived.Test.YbulkdbdsGreatDoorTie
import Derived.Test.YbulkdbdsGreatDoorCards
import Derived.Test.YbulkdbdsGreatDoorLaid
import Derived.Test.YbulkdbdsGreatDoorFill
import Derived.WalkKit
import Derived.ProofKit
import Derived.OpenShut
import Derived.ChangeOld
import Derived.Below
import Derived.Deep.Slices
import Derived.Deep.Strs
import Derived.Lib.SmallJoins
import Derived.Stop.Joined
import Derived.SevenTiedAt
namespace Go.Proofs.YbulkdbdsGreatDoor.lawS5127AFill
open Go.ChangeShapes Go.WideShapes Go.ChangeAt Go.RowKit Go.Deep

theorem own : ownKnob Ybaz.prog.godebug = none := by kernel_rfl
theorem laidOut : laidOutB Ybaz.prog = true := by kernel_rfl
theorem cells38 : Ybaz.prog.cellsOf 38 = 3 := by kernel_rfl
theorem cells5 : Ybaz.prog.cellsOf 5 = 1 := by kernel_rfl
theorem cells36 : Ybaz.prog.cellsOf 36 = 1 := by kernel_rfl

/-- a variable's cells laid -/
def lay (h : Array Obj) (i : Nat) (cs : Array Value) : Array Obj := h.modify i fun
  | .cells _ t fr => .cells cs t fr
  | o => o
def t32 : Array Value := ([0, 1, 28, 2, 29, 14, 24, 3, 30, 22, 20, 15, 25, 17, 4, 8, 31, 27, 13, 23, 21, 19, 16, 7, 26, 12, 18, 6, 11, 5, 10, 9].map fun n => Value.int .u8 n).toArray
def t64 : Array Value := ([0, 1, 56, 2, 57, 49, 28, 3, 61, 58, 42, 50, 38, 29, 17, 4, 62, 47, 59, 36, 45, 43, 51, 22, 53, 39, 33, 30, 24, 18, 12, 5, 63, 55, 48, 27, 60, 41, 37, 16, 46, 35, 44, 21, 52, 32, 23, 11, 54, 26, 40, 15, 34, 20, 31, 10, 25, 14, 19, 9, 13, 8, 7, 6].map fun n => Value.int .u8 n).toArray
def tpow : Array Value := ([1, 10, 100, 1000, 10000, 100000, 1000000, 10000000, 100000000, 1000000000, 10000000000, 100000000000, 1000000000000, 10000000000000, 100000000000000, 1000000000000000, 10000000000000000, 100000000000000000, 1000000000000000000, 10000000000000000000].map fun n => Value.int .u64 n).toArray
/-- a world that meets the row's condition -/
def lw (w0 : World) : World :=
  { w0 with heap := ((lay (lay (lay (lay (lay w0.heap 0 #[.pointer (some ⟨12, 0, none⟩)]) 3 #[.pointer (some ⟨13, 0, none⟩)]) 4 tpow) 5 t32) 6 t64).push (.cells #[.bool false, .string ByteArray.empty] 184)).push (.cells #[.bool true, .string ByteArray.empty] 184) }
theorem laid_met (os : Os) (args : Array Value) : laidMetH Ybaz.prog Rows.lawS5127AFillRow.laid ((lw (World.holding Ybaz.prog os ⟨#[], #[], []⟩)).forCall (fun _ _ => 0) ⟨#[], args, []⟩).memory :=
  laidMet_of_run' (P := Ybaz.prog) (l := Rows.lawS5127AFillRow.laid) 8 (by kernel_rfl) (by kernel_rfl)

theorem three_of {cs : List Value} (h : cs.length = 3) : ∃ a b c, cs = [a, b, c] := by
  match cs, h with
  | [a, b, c], _ => exact ⟨a, b, c, rfl⟩
/-- the three cells of one step -/
theorem st_of {H : Type} {enc : TypeId × Value → H} {w : World} {base : Nat} {spare : Nat → Bool} {held : Bool} {fuel : Nat} {cs : List Value} {x : DataW H × List MemPlace} (h : DataW.trod enc Ybaz.prog w base spare held fuel 38 cs = some x) :
    ∃ q : Int × Int × Int, ((0 ≤ q.1 ∧ q.1 < 256) ∧ (0 ≤ q.2.1 ∧ q.2.1 < 256) ∧ (0 ≤ q.2.2 ∧ q.2.2 < 65536)) ∧ cs = [.int .u8 q.1, .int .u8 q.2.1, .int .u16 q.2.2] := by
  obtain ⟨y0, y1, y2, n, _, hl, h0, h1, h2⟩ := trod_struct3 Ybaz.underlying38 h
  rw [cells38] at hl
  obtain ⟨v0, v1, v2, rfl⟩ := three_of hl
  simp [cells5, cells36] at h0 h1 h2
  obtain ⟨a, e0, _, w0⟩ := DataW.trod_int Ybaz.underlying5 h0
  obtain ⟨b, e1, _, w1⟩ := DataW.trod_int Ybaz.underlying5 h1
  obtain ⟨c, e2, _, w2⟩ := DataW.trod_int Ybaz.underlying36 h2
  simp at e0 e1 e2
  subst e0; subst e1; subst e2
  have b0 := bounds_u8 w0
  have b1 := bounds_u8 w1
  have b2 := bounds_u16 w2
  exact ⟨(a, b, c), ⟨by constructor <;> simp only <;> omega, by constructor <;> simp only <;> omega, by constructor <;> simp only <;> omega⟩, rfl⟩

theorem at_of {W : World} {x : Addr} {i : Nat} {v : Value} (h : W.cell? (x.add i) = some v) (h0 : ∃ u, W.cell? (x.add 0) = some u) : ∃ b o, x = ⟨b, o, none⟩ ∧ b < W.heap.size ∧ W.cell? ⟨b, o + i, none⟩ = some v := by
  obtain ⟨u, h0⟩ := h0
  obtain ⟨b, off, spot⟩ := x
  have hspot : spot = none := by simpa [Addr.add] using World.cell?_spot h0
  subst hspot
  rw [Go.WideShapes.add_plain] at h
  exact ⟨b, off, rfl, World.block_lt_of_cell? W _ h, h⟩

theorem old_of {H : Type} {enc : TypeId × Value → H} {W : World} {base : Nat} {held : Bool} {fuel : Nat} {a : Option Addr} {len cap : Nat} {x : DataW H × List MemPlace} (h : DataW.trod enc Ybaz.prog W base (fun _ => true) held fuel 22 [.slice a len cap] = some x) :
    ∃ q : Nat → Int × Int × Int, ∀ i, i < len → ∃ b o, a = some ⟨b, o, none⟩ ∧ b < W.heap.size ∧ W.cell? ⟨b, o + i * 3, none⟩ = some (.int .u8 (q i).1) ∧ W.cell? ⟨b, o + i * 3 + 1, none⟩ = some (.int .u8 (q i).2.1) ∧ W.cell? ⟨b, o + i * 3 + 2, none⟩ = some (.int .u16 (q i).2.2) ∧
      (0 ≤ (q i).1 ∧ (q i).1 < 256) ∧ (0 ≤ (q i).2.1 ∧ (q i).2.1 < 256) ∧ (0 ≤ (q i).2.2 ∧ (q i).2.2 < 65536) := by
  rcases open_slice Ybaz.underlying22 h with ⟨hcs, _⟩ | ⟨y, l, c, m, n, D, Pl, hcs, _, hl, _, hm, _, hel⟩
  · simp at hcs
    obtain ⟨rfl, rfl, rfl⟩ := hcs
    exact ⟨fun _ => (0, 0, 0), fun i hi => absurd hi (by simp)⟩
  · simp at hcs
    obtain ⟨rfl, rfl, rfl⟩ := hcs
    simp at hm
    rw [cells38] at hel
    have hex : ∀ i, ∃ k : Int × Int × Int, i < len → ((0 ≤ k.1 ∧ k.1 < 256) ∧ (0 ≤ k.2.1 ∧ k.2.1 < 256) ∧ (0 ≤ k.2.2 ∧ k.2.2 < 65536)) ∧ ∀ j, j < 3 → W.cell? (y.add (i * 3 + j)) = [Value.int .u8 k.1, .int .u8 k.2.1, .int .u16 k.2.2][j]? := by
      intro i
      by_cases hi : i < len
      · obtain ⟨cs', h1, h2⟩ := hel i (by omega)
        obtain ⟨k, hk, rfl⟩ := st_of h2
        obtain ⟨_, _, hc⟩ := World.cells?_some h1
        exact ⟨k, fun _ => ⟨hk, fun j hj => by have := hc j hj; rwa [add_add] at this⟩⟩
      · exact ⟨(0, 0, 0), fun h => absurd h hi⟩
    have hK := fun i => Classical.choose_spec (hex i)
    obtain ⟨K, hKe⟩ : ∃ K : Nat → Int × Int × Int, ∀ i, K i = Classical.choose (hex i) := ⟨fun i => Classical.choose (hex i), fun _ => rfl⟩
    simp only [← hKe] at hK
    refine ⟨K, fun i hi => ?_⟩
    obtain ⟨⟨r1, r2, r3⟩, hc⟩ := hK i hi
    have h00 : ∃ u, W.cell? (y.add 0) = some u := ⟨_, by have := (hK 0 (by omega)).2 0 (by omega); simpa using this⟩
    have e0 := hc 0 (by omega)
    have e1 := hc 1 (by omega)
    have e2 := hc 2 (by omega)
    simp at e0 e1 e2
    obtain ⟨b, o, rfl, hb, c0⟩ := at_of e0 h00
    rw [Go.WideShapes.add_plain] at e1 e2
    exact ⟨b, o, rfl, hb, c0, e1, e2, r1, r2, r3⟩

set_option maxRecDepth 100000 in
theorem lifted (os : Os) (started : os.Started) (H : Type) (enc : TypeId × Value → H) :
    ReturnsInHanded {} Ybaz.checked os 3 .any (fun w args => (Rows.lawS5127AFillSpec.pre enc Ybaz.prog Ybaz.f3 [] false w args ∧ laidMetH Ybaz.prog Rows.lawS5127AFillRow.laid w) ∧ sizedMet enc Ybaz.prog Ybaz.f3 (OpenSpec.ofChange Rows.lawS5127AFillSpec) false w args)
      (Rows.lawS5127AFillSpec.post enc Ybaz.prog Ybaz.f3 false true false false) := by
  refine returnsInHanded_of_change_and (C := Ybaz.checked) (X := fun w _ => laidMetH Ybaz.prog Rows.lawS5127AFillRow.laid w) (fun _ _ _ hh h => h.of_heap hh) own started (by kernel_rfl) Ybaz.func3
    (ChangeSpec.witness_shaped (enc := enc) (C := Ybaz.checked) (os := os) (X := fun w _ => laidMetH Ybaz.prog Rows.lawS5127AFillRow.laid w) false (lw (World.holding Ybaz.prog os ⟨#[], #[], []⟩)) #[.int .u8 0, .slice none 0 0] 8 rfl (World.shaped_of_RefB (by kernel_rfl) (by kernel_rfl)) (by kernel_rfl) (by kernel_rfl) (by kernel_rfl) (laid_met os _)) ?_
  intro W base args ds gs before hval0 hW _ _ hL _
  have hL' : laidMet Ybaz.prog Rows.lawS5127AFillRow.laid W := hL
  obtain ⟨z4, z6, g⟩ := gl_of_laid hL' (by kernel_rfl) (by kernel_rfl) (by kernel_rfl)
  clear hL hL'
  have hval : ∀ (j : Nat) t v, Ybaz.f3.params[j]? = some t → args[j]? = some v → Value.okWide Ybaz.prog W .any base t v := hval0
  have hW' := hW
  obtain ⟨p, q, hA0, hV, rfl, hfz, hnd⟩ := hW
  have hA : DataW.TrodAll enc Ybaz.prog W 0 (fun _ => true) true Ybaz.f3.params.toList args.toList ds p := hA0
  rw [Ybaz.params3] at hA hval
  obtain ⟨v0, vs0, d0, ds0, p0, q0, hargs, rfl, rfl, h0, r0⟩ := trodAll_cons hA
  obtain ⟨v1, vs1, d1, ds1, p1, q1, rfl, rfl, rfl, h1, r1⟩ := trodAll_cons r0
  obtain ⟨rfl, rfl, rfl⟩ := trodAll_nil r1
  obtain rfl : args = #[v0, v1] := by cases args; simp_all
  obtain ⟨rfl, rfl⟩ := trodVars_none hV
  obtain ⟨a0, rfl, rfl, rfl, w0⟩ := open_int Ybaz.underlying5 (hval 0 5 v0 rfl rfl) h0
  obtain ⟨a1, len1, cap1, rfl⟩ := okWide_slice Ybaz.underlying22 (hval 1 22 v1 rfl rfl)
  have k1 := h1
  have lt1 : ∀ x ∈ p1, x.block < W.heap.size := by obtain ⟨m, hm⟩ := k1; exact DataW.trod_lt m _ _ _ hm
  obtain ⟨qf, hqf⟩ : ∃ q : Nat → Int × Int × Int, ∀ i, i < len1 → ∃ b o, a1 = some ⟨b, o, none⟩ ∧ b < W.heap.size ∧ W.cell? ⟨b, o + i * 3, none⟩ = some (.int .u8 (q i).1) ∧ W.cell? ⟨b, o + i * 3 + 1, none⟩ = some (.int .u8 (q i).2.1) ∧ W.cell? ⟨b, o + i * 3 + 2, none⟩ = some (.int .u16 (q i).2.2) ∧
      (0 ≤ (q i).1 ∧ (q i).1 < 256) ∧ (0 ≤ (q i).2.1 ∧ (q i).2.1 < 256) ∧ (0 ≤ (q i).2.2 ∧ (q i).2.2 < 65536) := by
    obtain ⟨fuel, hf⟩ := h1
    exact old_of hf
  have b0 := bounds_u8 w0
  clear hA0 hval0
  refine (fill_main a0 a1 len1 cap1 qf W g ⟨by omega, by omega⟩ hqf).mono fun e W' ⟨he, bel⟩ => ?_
  subst he
  exact ⟨_, rfl, _, _, _, [], _, [], hW', trodAll_mk1 (shut_bool Ybaz.underlying4 _), (trodAll_cons_mk (shut_int Ybaz.underlying5 w0) (trodAll_cons_mk (Below.trod laidOut (by kernel_rfl) (of_decide_eq_true (by kernel_rfl)) k1 bel lt1) trodAll_mk0)), rfl, bel.frame _, fun h => by cases h⟩

theorem over : Rows.LawS5127AFillSaid :=
  OpenClaim.holds_of_wide 3 Ybaz.f3 rfl rfl rfl rfl rfl rfl rfl ⟨rfl, rfl, rfl, rfl, rfl⟩ rfl rfl rfl rfl rfl (by kernel_rfl) Ybaz.func3 (by kernel_rfl)
    (of_decide_eq_true (by kernel_rfl)) (by unfold Func.isWrapper; first | (rw [if_pos (by decide +kernel)]; kernel_rfl) | (rw [if_neg (by decide +kernel)]; exact ⟨rfl, rfl⟩))
    (fun os started H enc _ => lifted os started H enc)

/-- ████ THE STATEMENT: the tied card ████ -/
theorem proved : Rows.LawS5127AFillCardSaid :=
  Claim7.holds_tied_plain_at .later [] [.data, .data, .data, .called, .called, .zero] true (true, "0b16a3f204f36838e2d316cc709b09a97e3bdc81848779ed7e0d17a6a0b607ed") false
    over (fun _ h => by cases h) (by kernel_rfl) (fun _ h => by cases h) lawS5127AFill_row_tie rfl ⟨rfl, rfl⟩ (by kernel_rfl) rfl
    (fun f fn hf hfn => by
      obtain rfl : 3 = f := Option.some.inj ((by kernel_rfl : Ybaz.prog.funcNamed Rows.lawS5127AFillRow.func = some 3).symm.trans hf)
      obtain rfl : fn = Ybaz.f3 := (Option.some.inj (Ybaz.func3.symm.trans hfn)).symm
      exact ⟨by kernel_rfl, fun j t ht => by
        rw [Ybaz.params3] at ht
        have h3 : t = 5 ∨ t = 22 := by
          rcases j with _ | _ | j
          · exact .inl (by simpa using ht.symm)
          · exact .inr (by simpa using ht.symm)
          · simp at ht
        rcases h3 with rfl | rfl
        · exact (show Ybaz.prog.wantsStandIn 5 = false by kernel_rfl)
        · exact (show Ybaz.prog.wantsStandIn 22 = false by kernel_rfl)⟩)
    (by kernel_rfl)
#print axioms proved
end Go.Proofs.YbulkdbdsGreatDoor.lawS5127AFill
