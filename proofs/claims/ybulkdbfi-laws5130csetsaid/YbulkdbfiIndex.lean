import Derived.Test.YbulkdbfiExp
namespace Go.Proofs.Ybulkdbfi
open Go.RowKit Go.HeadTail

attribute [local go_sem] yields yUpon

def ck0 : Ck := ⟨0, 0, 0, 0⟩
def pAt (es : List Nat) (i : Nat) : Nat := es.getD i 0
def kAt (ks : List Ck) (i : Nat) : Ck := ks.getD i ck0
def ptrs (es : List Nat) : List Value := es.map fun b => .pointer (some ⟨b, 0, none⟩)
theorem ptr_at (es : List Nat) (i : Nat) (h : i < es.length) : (ptrs es)[i]? = some (.pointer (some ⟨pAt es i, 0, none⟩)) := by
  simp [ptrs, pAt, h]
structure Cks (w : World) (es : List Nat) (ks : List Ck) : Prop where
  len : es.length = ks.length
  blk : ∀ i, i < ks.length → Blk w (pAt es i) (ckCells (kAt ks i)) 58
  ok : ∀ i, i < ks.length → (kAt ks i).ok
theorem Cks.kept {S : Nat → Prop} {w w' : World} {es : List Nat} {ks : List Ck} (h : Cks w es ks) (k : Kept S w w') (hs : ∀ i, i < ks.length → ¬ S (pAt es i)) : Cks w' es ks :=
  ⟨h.len, fun i hi => k.blk (h.blk i hi) (hs i hi), h.ok⟩

set_option maxHeartbeats 1600000 in
theorem index_any (ks : List Ck) (es : List Nat) (c : Ck) (hc : c.ok) (cb cx base : Nat) (v : Value) (w : World) (ho : w.ownsRow base 40 1 v ks.length (ptrs es)) (hk : Cks w es ks) (hcb : Blk w cb (ckCells c) 58) (hx : Blk w cx #[.pointer (some ⟨cb, 0, none⟩)] 40) (hn : ks.length ≤ 1024) :
    Calls Yba.prog 14 #[v, .func (.func 15) #[] #[.pointer (some ⟨cx, 0, none⟩)]] w fun e w' => ∃ z : Int, e = .returned (.int .i64 z) ∧ ((z = -1 ∧ ∀ j, j < ks.length → same (kAt ks j) c = false) ∨ ∃ i : Nat, i < ks.length ∧ z = i ∧ same (kAt ks i) c = true) ∧ Kept (fun _ => False) w w' := by
  obtain ⟨a, cap, rfl, ha⟩ := own_form ho
  generalize hnn : ks.length = n at *
  go_enter Yba.func14, Yba.ntmps14
  go_wp2_with fail
  go_loopw [8] (fun iv wr => ∃ i : Nat, iv = .int .i64 i ∧ i ≤ n ∧ (∀ j, j < i → same (kAt ks j) c = false) ∧ Kept (fun _ => False) w wr) (fun iv _ => n - (intOf iv).toNat)
  case atStart => exact ⟨0, rfl, Nat.zero_le _, fun j hj => absurd hj (by omega), Kept.refl _ _⟩
  case round =>
    obtain ⟨i, rfl, hin, hj, kr⟩ := hrel
    by_cases hlt : i < n
    · obtain ⟨g, rfl⟩ := ha (by omega)
      have cI : wr.cell? ⟨g, i, none⟩ = some (.pointer (some ⟨pAt es i, 0, none⟩)) := own_cell (kr.own ho (fun _ _ h => h)) (ptr_at es i (by rw [hk.len]; omega))
      have hlti : (i : Int) < n := by omega
      go_wp2_with fail
      refine (clo_any (kAt ks i) c (hk.ok i (by omega)) hc (pAt es i) cb cx wr (kr.blk (hk.blk i (by omega)) id) (kr.blk hcb id) (kr.blk hx id)).mono ?_
      rintro r w1 ⟨rfl, k1⟩
      have kr1 := kr.trans k1
      cases hs : same (kAt ks i) c with
      | true =>
        have HS := hide hs
        clear hs kr k1 cI
        go_wp2
        go_ret
        exact ⟨(i : Int), rfl, .inr ⟨i, hlt, rfl, HS.out⟩, kr1⟩
      | false =>
        have HS := hide hs
        clear hs kr k1 cI
        go_wp2
        go_roundw
        case rel =>
          refine ⟨i + 1, by go_num, by omega, fun j h => ?_, kr1⟩
          rcases Nat.lt_succ_iff_lt_or_eq.1 h with h | rfl
          · exact hj j h
          · exact HS.out
        case measure => simp [intOf]; omega
    · have hin' : i = n := by omega
      subst hin'
      go_wp2
      go_ret
      exact ⟨-1, rfl, .inl ⟨rfl, hj⟩, kr⟩

end Go.Proofs.Ybulkdbfi
