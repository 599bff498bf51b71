import Derived.Test.YbulkdbdsGreatDoorRow
namespace Go.Proofs.YbulkdbdsGreatDoor
open Go.RowKit Go.HeadTail
attribute [local go_sem] yields yUpon

def E.hit (a b : Int) (e : E) : Bool := e.a == a && e.b == b
/-- what find answers -/
def Found (L : List E) (a b r : Int) : Prop := (∃ (j : Nat) (e : E), r = j ∧ L[j]? = some e ∧ e.hit a b = true ∧ ∀ i e', i < j → L[i]? = some e' → e'.hit a b = false) ∨ (r = -1 ∧ ∀ e ∈ L, e.hit a b = false)

set_option maxRecDepth 100000 in
set_option maxHeartbeats 1600000 in
theorem find_any (base bb : Nat) (L : List E) (sa : Option Addr) (n cap : Nat) (a b : Int) (w : World) (hn : n ≤ 1000)
    (hc : w.cell? ⟨bb, 0, none⟩ = some (.slice sa n cap)) (ho : w.ownsRow base 90 41 (.slice sa n cap) n (flat L)) :
    Calls Ybaz.prog 15 #[.pointer (some ⟨bb, 0, none⟩), .agg (idv a b)] w fun e w' => ∃ r, e = .returned (.int .i64 r) ∧ Found L a b r ∧ Kept (fun _ => False) w w' := by
  have hln : L.length = n := by have := ho.1; rw [flat_length] at this; omega
  have hcW := cell_alloc hc (.cells (idv a b) 24)
  obtain ⟨sa', cap', hsv, hsa⟩ := own_form ho
  have hsa : 0 < n → ∃ g, sa = some ⟨g, 0, none⟩ := by cases hsv; exact hsa
  clear hsv
  go_enter Ybaz.func15, Ybaz.ntmps15
  go_wp2_with fail
  generalize hW : w.alloc (.cells (idv a b) 24) = W
  have kW : Kept (fun _ => False) w W := by rw [← hW]; exact (Kept.refl _ _).alloc _
  have bI : Blk W w.heap.size (idv a b) 24 := by rw [← hW]; exact Blk.new _ _ _
  have oW := kW.own ho (fun _ _ h => h)
  clear hW hcW hc
  replace kW := hide kW
  go_loopw [12] (fun iv wr => ∃ k : Nat, iv = .int .i64 k ∧ k ≤ n ∧ (∀ i e', i < k → L[i]? = some e' → e'.hit a b = false) ∧ Kept (fun _ => False) W wr) (fun iv _ => n - (intOf iv).toNat)
  case atStart => exact ⟨0, rfl, by omega, fun i _ h => absurd h (by omega), Kept.refl _ _⟩
  case round =>
    obtain ⟨k, rfl, hk, hno, kr⟩ := hrel
    by_cases hlt : k < n
    · have hli : (k : Int) < n := by omega
      obtain ⟨g, rfl⟩ := hsa (by omega)
      obtain ⟨cur, bG, _, _, _, _, hext⟩ := own_blk (kr.own oW (fun _ _ h => h))
      obtain ⟨x, hx⟩ : ∃ x, L[k]? = some x := ⟨L[k]'(by omega), List.getElem?_eq_getElem (by omega)⟩
      have hcut := hext k x hx
      have bI1 := kr.blk bI id
      have heq : ∀ w', (Op.equalIn 10000 24 (.agg (idv x.a x.b)) (.agg (idv a b))).run Ybaz.prog w' = .ok (x.hit a b) w' := fun w' => eq24 9998 ..
      replace hno := hide hno
      replace kr := hide kr
      clear hext
      have hfr : ∀ o : Obj, Blk (wr.alloc o) w.heap.size (idv a b) 24 := fun o => bI1.alloc o
      cases hh : x.hit a b with
      | true =>
        rw [hh] at heq
        go_wp2_with (first | refine wpList_load_blk rfl 90 _ rfl g (k * 41) 41 rfl bG x.v hcut (by kernel_rfl) (by kernel_rfl) ?_ | refine wpList_store_new rfl 90 _ _ rfl (x.v) rfl rfl (by kernel_rfl) (by kernel_rfl) (by kernel_rfl) ?_ | refine wpList_load_blk rfl 24 _ rfl (wr.heap.size) 0 20 rfl (Blk.new wr x.v 90) (idv x.a x.b) (by kernel_rfl) (by kernel_rfl) (by kernel_rfl) ?_ | refine wpList_load_blk rfl 24 _ rfl (w.heap.size) 0 20 rfl (hfr _) (idv a b) (by kernel_rfl) (by kernel_rfl) (by kernel_rfl) ?_)
        go_ret
        exact ⟨k, rfl, .inl ⟨k, x, rfl, hx, hh, hno.out⟩, kW.out.trans (kr.out.alloc _)⟩
      | false =>
        rw [hh] at heq
        go_wp2_with (first | refine wpList_load_blk rfl 90 _ rfl g (k * 41) 41 rfl bG x.v hcut (by kernel_rfl) (by kernel_rfl) ?_ | refine wpList_store_new rfl 90 _ _ rfl (x.v) rfl rfl (by kernel_rfl) (by kernel_rfl) (by kernel_rfl) ?_ | refine wpList_load_blk rfl 24 _ rfl (wr.heap.size) 0 20 rfl (Blk.new wr x.v 90) (idv x.a x.b) (by kernel_rfl) (by kernel_rfl) (by kernel_rfl) ?_ | refine wpList_load_blk rfl 24 _ rfl (w.heap.size) 0 20 rfl (hfr _) (idv a b) (by kernel_rfl) (by kernel_rfl) (by kernel_rfl) ?_)
        go_roundw
        case rel =>
          refine ⟨k + 1, by go_num, by omega, fun i e' hi he => ?_, kr.out.alloc _⟩
          rcases Nat.lt_or_ge i k with h | h
          · exact hno.out i e' h he
          · have hik : i = k := by omega
            subst hik
            rw [hx] at he; cases he; exact hh
        case measure => simp [intOf]; omega
    · have hkn : k = n := by omega
      subst hkn
      go_wp2
      go_ret
      refine ⟨-1, rfl, .inr ⟨rfl, fun e he => ?_⟩, kW.out.trans kr⟩
      obtain ⟨i, hi, rfl⟩ := List.getElem_of_mem he
      exact hno i _ (by omega) (List.getElem?_eq_getElem hi)
end Go.Proofs.YbulkdbdsGreatDoor
