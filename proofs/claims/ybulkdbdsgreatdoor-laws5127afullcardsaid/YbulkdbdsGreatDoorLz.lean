import Derived.Test.YbulkdbdsGreatDoorTime
namespace Go.Proofs.YbulkdbdsGreatDoor
open Go.RowKit Go.HeadTail
attribute [local go_sem] yields yUpon
theorem tab8 (T : ByteArray) (hall : ((List.range 256).all fun n => match T.data[n]? with | some v => decide (v.toNat ≤ 8) && (decide (n < 128) || decide (v.toNat = 8)) | none => false) = true) (n : Nat) (h : n < 256) (hn : n < T.size) :
    0 ≤ RowKit.wrap64 ((T[n]'hn).toNat : Int) ∧ RowKit.wrap64 ((T[n]'hn).toNat : Int) ≤ 8 ∧ (128 ≤ n → RowKit.wrap64 ((T[n]'hn).toNat : Int) = 8) := by
  have := List.all_eq_true.1 hall n (by simpa using h)
  have hd : n < T.data.size := hn
  rw [Array.getElem?_eq_getElem hd] at this
  simp only [Bool.and_eq_true, Bool.or_eq_true, decide_eq_true_eq] at this
  have e : T[n]'hn = T.data[n]'hd := rfl
  rw [e]
  have hw : RowKit.wrap64 ((T.data[n]'hd).toNat : Int) = ((T.data[n]'hd).toNat : Int) := by unfold RowKit.wrap64; omega
  rw [hw]
  omega
set_option maxRecDepth 100000 in
theorem len8_any (n : Nat) (h : n < 256) (w : World) : Calls Ybaz.prog 74 #[.int .u8 n] w fun e w' => ∃ r : Int, e = .returned (.int .i64 r) ∧ w' = w ∧ 0 ≤ r ∧ r ≤ 8 ∧ (128 ≤ n → r = 8) := by
  have h' : (n : Int) < 256 := by omega
  go_enter Ybaz.func74, Ybaz.ntmps74
  go_wp2
  go_ret
  exact ⟨_, rfl, rfl, tab8 _ (by kernel_rfl) n h _⟩
set_option maxRecDepth 100000 in
theorem lz8_any (n : Nat) (h : n < 256) (w : World) : Calls Ybaz.prog 55 #[.int .u8 n] w fun e w' => ∃ r : Int, e = .returned (.int .i64 r) ∧ w' = w ∧ 0 ≤ r ∧ r ≤ 8 ∧ (128 ≤ n → r = 0) := by
  go_enter Ybaz.func55, Ybaz.ntmps55
  go_wp2_with fail
  refine (len8_any n h _).mono ?_
  rintro e w' ⟨r, rfl, rfl, h1, h2, h3⟩
  go_wp2
  go_ret
  exact ⟨8 - r, rfl, rfl, by omega, by omega, fun h => by rw [h3 h]; rfl⟩
end Go.Proofs.YbulkdbdsGreatDoor
