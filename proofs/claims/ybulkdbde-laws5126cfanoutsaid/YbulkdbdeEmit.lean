import Derived.Test.YbulkdbdeState
namespace Go.Proofs.Ybulkdbde
open Go.RowKit Go.RwLone Go.Conc.Locks

theorem method_receive (s : String) (a : Addr) (w : World) (h : (method 209 47 (.pointer (some a)) s).run Yba.prog w = .ok (69, .pointer (some a)) w) : (method 209 47 (.pointer (some a)) s).run Yba.prog w = .ok (69, .pointer (some a)) w := h

structure EmInv (w : World) (hb lb base n m Eb : Nat) (rv : Value) (R : Nat → Nat) (ls : List Value) (ev : Array Value) (k : Nat) (wr : World) : Prop where
  hub : Blk wr hb (hubCells 0 1 rv) 44
  box : Blk wr Eb ev 57
  own : wr.ownsRow base 60 1 rv n (rlist R n)
  recs : Recs wr lb R n
  log : Logd wr base lb (m + k) (ls ++ ents ev.toList k)
  kept : Kept (EmS hb lb base w) w wr

theorem em_step {w : World} {hb lb base n m Eb : Nat} {rv : Value} {R : Nat → Nat} {ls : List Value} {ev : Array Value} {k : Nat} {wr wr' : World} {v : Value} {g cap : Nat} (h : EmInv w hb lb base n m Eb rv R ls ev k wr)
    (hl : Blk wr lb #[v] 45) (hv : wr.ownsRow base 62 13 v (m + k) (ls ++ ents ev.toList k))
    (hl' : Blk wr' lb #[.slice (some ⟨g, 0, none⟩) (m + k + 1) cap] 45) (hv' : wr'.ownsRow base 62 13 (.slice (some ⟨g, 0, none⟩) (m + k + 1) cap) (m + k + 1) ((ls ++ ents ev.toList k) ++ (.int .i64 k :: ev.toList)))
    (hk : Kept (fun x => x = lb ∨ v.ownBlock = some x) wr wr') : EmInv w hb lb base n m Eb rv R ls ev (k + 1) wr' := by
  have hk' : Kept (EmS hb lb base wr) wr wr' := hk.mono fun x _ hx => by
    rcases hx with h1 | h1
    · exact .inr (.inl h1)
    · exact .inr (.inr (own_ty hv h1))
  have n1 : ∀ {b : Nat} {cs : Array Value} {t : TypeId}, Blk wr b cs t → t ≠ 45 → t ≠ 62 → Blk wr' b cs t := fun hb h1 h2 => hk.blk hb (by
    rintro (e | e)
    · exact hb.ne hl h1 e
    · exact own_ne hv hb h2 e)
  refine ⟨n1 h.hub (by decide) (by decide), n1 h.box (by decide) (by decide), ?_, fun i hi => n1 (h.recs i hi) (by decide) (by decide), ⟨_, hl', ?_⟩, ems_trans h.kept hk'⟩
  · exact ems_own hk' h.own (by decide) (own_ne h.own h.hub (by decide)) (own_ne h.own hl (by decide))
  · rw [ents_succ, ← List.append_assoc]; exact hv'

set_option maxHeartbeats 3200000 in
set_option maxRecDepth 100000 in
theorem emit_any (hb lb n m base : Nat) (rv : Value) (R : Nat → Nat) (ls : List Value) (w : World)
    (s0 s2 s3 s5 s9 s10 s11 : ByteArray) (e1 e4 e6 e7 e8 : Int)
    (hh : Blk w hb (hubCells 0 0 rv) 44) (hown : w.ownsRow base 60 1 rv n (rlist R n)) (hrec : Recs w lb R n) (hlog : Logd w base lb m ls) (hn : n < 1000) (hm : m < 100000) (hbase : base ≤ w.heap.size) :
    Calls Yba.prog 10 #[.pointer (some ⟨hb, 0, none⟩), .agg #[.string s0, .int .i64 e1, .string s2, .string s3, .int .i64 e4, .string s5, .int .i64 e6, .int .i64 e7, .int .i64 e8, .string s9, .string s10, .string s11]] w fun e w' => e = .returned (.tuple #[]) ∧
      Blk w' hb (hubCells 0 0 rv) 44 ∧ Logd w' base lb (m + n) (ls ++ ents [.string s0, .int .i64 e1, .string s2, .string s3, .int .i64 e4, .string s5, .int .i64 e6, .int .i64 e7, .int .i64 e8, .string s9, .string s10, .string s11] n) ∧ Kept (EmS hb lb base w) w w' := by
  obtain ⟨a, cap, rfl, hg⟩ := own_form hown
  go_enter_defers Yba.func10, Yba.ntmps10
  go_wp2_with fail
  generalize hW : w.alloc (.cells #[.string s0, .int .i64 e1, .string s2, .string s3, .int .i64 e4, .string s5, .int .i64 e6, .int .i64 e7, .int .i64 e8, .string s9, .string s10, .string s11] 57) = W
  have bH : Blk W w.heap.size #[.string s0, .int .i64 e1, .string s2, .string s3, .int .i64 e4, .string s5, .int .i64 e6, .int .i64 e7, .int .i64 e8, .string s9, .string s10, .string s11] 57 := by rw [← hW]; exact Blk.new _ _ _
  have kW : Kept (EmS hb lb base w) w W := by rw [← hW]; exact (Kept.refl _ _).alloc _
  have hhW : Blk W hb (hubCells 0 0 (.slice a n cap)) 44 := by rw [← hW]; exact hh.alloc _
  refine (rlock_hub hb _ W hhW).mono ?_
  rintro e w1 ⟨rfl, hh1, k1⟩
  have c6 : w1.cell? ⟨hb, 6, none⟩ = some (.slice a n cap) := hh1.cell 6
  have inv0 : EmInv w hb lb base n m w.heap.size (.slice a n cap) R ls #[.string s0, .int .i64 e1, .string s2, .string s3, .int .i64 e4, .string s5, .int .i64 e6, .int .i64 e7, .int .i64 e8, .string s9, .string s10, .string s11] 0 w1 := by
    have kk : Kept (EmS hb lb base w) w w1 := kW.trans (k1.mono fun _ _ h => .inl h)
    obtain ⟨v, hl, hv⟩ := hlog
    have hlh := hh.ne hl (by decide)
    have hlW : Blk W lb #[v] 45 := by rw [← hW]; exact hl.alloc _
    refine ⟨hh1, k1.blk bH (fun e => by have := hh.lt; omega), ?_, ems_recs kk hrec hh hl, ⟨v, k1.blk hlW (Ne.symm hlh), ?_⟩, kk⟩
    · exact ems_own kk hown (by decide) (own_ne hown hh (by decide)) (own_ne hown hl (by decide))
    · have o1 : W.ownsRow base 62 13 v m ls := by rw [← hW]; exact hv.alloc _
      simpa [ents] using k1.own o1 (fun k e h => own_ne hv hh (by decide) (h ▸ e))
  clear hh hown hrec hlog hhW bH kW k1 hW hh1
  go_wp2_with fail
  go_loopw [18] (fun i wr => ∃ k : Nat, k ≤ n ∧ i = .int .i64 k ∧ EmInv w hb lb base n m w.heap.size (.slice a n cap) R ls #[.string s0, .int .i64 e1, .string s2, .string s3, .int .i64 e4, .string s5, .int .i64 e6, .int .i64 e7, .int .i64 e8, .string s9, .string s10, .string s11] k wr) (fun i _ => n - (intOf i).toNat)
  case atStart => exact ⟨0, Nat.zero_le _, rfl, inv0⟩
  case round =>
    obtain ⟨k, hk, rfl, inv⟩ := hrel
    by_cases hlt : k < n
    · obtain ⟨g, rfl⟩ := hg (by omega)
      have ck : wr.cell? ⟨g, k, none⟩ = some (.iface 47 (.pointer (some ⟨R k, 0, none⟩))) := own_cell inv.own (rlist_get R n k hlt)
      have t0 := inv.box.cell 0
      have t1 := inv.box.cell 1
      have t2 := inv.box.cell 2
      have t3 := inv.box.cell 3
      have t4 := inv.box.cell 4
      have t5 := inv.box.cell 5
      have t6 := inv.box.cell 6
      have t7 := inv.box.cell 7
      have t8 := inv.box.cell 8
      have t9 := inv.box.cell 9
      have t10 := inv.box.cell 10
      have t11 := inv.box.cell 11
      go_wp2_with fail
      rw [method_receive]
      rotate_left
      · kernel_rfl
      go_wp2_with fail
      obtain ⟨v, hl, hv⟩ := inv.log
      refine (receive_any (R k) lb (m + k) k v _ base wr s0 s2 s3 s5 s9 s10 s11 e1 e4 e6 e7 e8 (inv.recs k hlt) hl hv (by omega) (Nat.le_trans hbase inv.kept.size) (own_ne hv (inv.recs k hlt) (by decide)) (own_ne hv hl (by decide))).mono ?_
      rintro e w2 ⟨rfl, g', cap', hl', hv', _, hk'⟩
      have inv' := em_step inv hl hv hl' hv' hk'
      clear hl' hv' hk' hl hv inv ck t0 t1 t2 t3 t4 t5 t6 t7 t8 t9 t10 t11 inv0
      go_wp2
      go_roundw
      case rel => exact ⟨k + 1, by omega, by go_num, inv'⟩
      case measure => simp [intOf]; omega
    · have hkn : k = n := by omega
      subst hkn
      clear inv0
      go_wp2
      refine leaves_cons (f := 18) (args := #[.pointer (some ⟨hb, 0, none⟩)]) (by simp) (by simp [go_sem]) ?_
      refine (runlock_hub hb _ .returning _ inv.hub).mono ?_
      rintro e u' w3 ⟨rfl, rfl, hh3, k3⟩
      obtain ⟨v, hl, hv⟩ := inv.log
      have hlh := inv.hub.ne hl (by decide)
      exact ⟨_, results_none rfl _ _ _, rfl, hh3, ⟨v, k3.blk hl (Ne.symm hlh), k3.own hv (fun k e h => own_ne hv inv.hub (by decide) (h ▸ e))⟩, inv.kept.trans (k3.mono fun _ _ h => .inl h)⟩
#print axioms emit_any
end Go.Proofs.Ybulkdbde
