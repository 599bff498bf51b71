import Derived.Test.YbulkdbdeFanB
import Derived.LaidEql
import Derived.BigQuiet
import Derived.Deep.QuietTactic
namespace Go.Proofs.Ybulkdbde
open Go.RowKit

theorem comp47 : (Yba.prog.info? 47).map (fun i => i.comparable) = some true := by kernel_rfl
theorem some50 : (Yba.prog.info? 50).isSome = true := by kernel_rfl
theorem neq_iface (a : Addr) (w : World) : (binOp .neq 60 (.iface 47 (.pointer (some a))) (.iface 47 (.pointer (some a)))).run Yba.prog w = .ok (.bool false) w := by
  obtain ⟨i, hi, hc⟩ := Option.map_eq_some_iff.1 comp47
  obtain ⟨j, hj⟩ := Option.isSome_iff_exists.1 some50
  simp only [binOp]
  simp [Op.equal, Op.maxDepth, run_equalIn_iface_ptr_same (P := Yba.prog) w 9998 a Yba.underlying60 Yba.underlying47 hi hc hj]

theorem mul_fact {LN len n : Nat} (h : LN = len * n) (hb : LN ≤ 65536) : ((LN : Int) != wrap64 ((len : Int) * (n : Int))) = false := by
  have e : (len : Int) * (n : Int) = (LN : Int) := by rw [h]; simp
  rw [e]
  have : wrap64 (LN : Int) = (LN : Int) := by unfold wrap64; omega
  rw [this]; simp

set_option maxHeartbeats 6400000 in
set_option maxRecDepth 100000 in
theorem fan_any (n : Nat) (a : Option Addr) (len cap : Nat) (ss : Nat → ByteArray) (m u r kd : ByteArray) (st d wt ra : Int) (w : World) (hn : n < 256) (hlen : len ≤ 256)
    (hss : ∀ i, i < len → ∃ b o, a = some ⟨b, o, none⟩ ∧ b < w.heap.size ∧ w.cell? ⟨b, o + i, none⟩ = some (.string (ss i))) :
    Calls Yba.prog 5 #[.int .u8 n, .slice a len cap, .string m, .string u, .string r, .string kd, .int .i64 st, .int .i64 d, .int .i64 wt, .int .i64 ra] w fun e w' =>
      e = .returned (.bool true) ∧ Below w.heap.size w w' := by
  obtain ⟨i0, hi0, hz0, hz1, hz2⟩ := info_parts info47
  have hc1 : ¬ (256 : Int) < len := by omega
  go_enter Yba.func5, Yba.ntmps5
  go_wp2_with (at_make; refine wpList_make_full _ rfl _ _ 46 rfl w.heap.size 47 i0 (.pointer none) 1 Yba.underlying46 hi0 hz0 hz1 _ _ _ _ n rfl rfl ?c1 ?c2 ?c3 ?c4 ?c5 ?_)
  case c1 => rfl
  case c2 => rfl
  case c3 => omega
  case c4 => unfold maxLen; omega
  case c5 => omega
  intro w0 own0 grow0
  have inv0 := l1_start w n (by simpa using own0.1) own0 grow0
  generalize (madeCells #[Value.pointer none] n).toList.toArray = cur0 at inv0
  clear own0 grow0 hi0 hz0 hz1 hz2 i0
  go_wp2_with fail
  go_loopw [44] (fun i wr => ∃ k : Nat, k ≤ n ∧ i = .int .i64 k ∧ ∃ R rv cur, L1 w n k R rv cur wr) (fun i _ => n - (intOf i).toNat)
  case atStart => exact ⟨0, Nat.zero_le _, rfl, _, _, _, inv0⟩
  case round =>
    obtain ⟨k, hk, rfl, R, rv, cur, inv⟩ := hrel
    clear inv0
    by_cases hlt : k < n
    · have crow : wr.cell? ⟨w.heap.size + 1 + 1, k, none⟩ = some cur[k]! := by
        have := inv.row.cell k
        rw [Array.getElem?_eq_getElem (by rw [inv.size]; exact hlt)] at this
        simpa [inv.size, hlt] using this
      have frow : wr.frozen? ⟨w.heap.size + 1 + 1, k, none⟩ = false := inv.row.frozen k
      have hsz := inv.row.lt
      have hne : w.heap.size + 1 + 1 ≠ wr.heap.size := by omega
      go_wp2_with fail
      have own2 : ((wr.setCell ⟨w.heap.size + 1 + 1, k, none⟩ (.pointer (some ⟨wr.heap.size, 0, none⟩))).alloc (.cells #[.int .i64 k, .pointer (some ⟨w.heap.size + 1, 0, none⟩)] 50)).ownsRow w.heap.size 60 1 rv k (rlist R k) :=
        (own_set inv.own _ _ (own_ne inv.own inv.row (by decide))).alloc _
      refine (add_any w.heap.size wr.heap.size k w.heap.size rv (rlist R k) _ ((inv.hub.setOther _ _ (inv.hub.ne inv.row (by decide))).alloc _) own2 (by omega) (by have := inv.bel.size; simp; omega) (own_ne inv.own inv.hub (by decide))).mono ?_
      rintro e w3 ⟨rfl, g, cp, hh3, ho3, _, hk3⟩
      have inv' := l1_step inv hlt hh3 ho3 hk3
      clear hh3 ho3 hk3 own2 inv crow frow hsz hne
      go_wp2
      go_roundw
      case rel => exact ⟨k + 1, by omega, by go_num, _, _, _, inv'⟩
      case measure => simp [intOf]; omega
    · have hkn : n = k := by omega
      subst hkn
      have inv2 := l2_start (fun j => (evV ss m u r kd st d wt ra j).toList) inv
      clear inv
      go_wp2_with fail
      go_loopw [63] (fun i wr => ∃ j : Nat, j ≤ len ∧ i = .int .i64 j ∧ L2 w n R rv cur (fun j => (evV ss m u r kd st d wt ra j).toList) j wr) (fun i _ => len - (intOf i).toNat)
      case atStart => exact ⟨0, Nat.zero_le _, rfl, inv2⟩
      case round =>
        obtain ⟨j, hj, rfl, inv⟩ := hrel
        clear inv2
        by_cases hltj : j < len
        · obtain ⟨b, o, rfl, hb, hc⟩ := hss j hltj
          have cj : wr.cell? ⟨b, o + j, none⟩ = some (.string (ss j)) := (inv.bel.cell (by exact hb)).trans hc
          go_wp2_with fail
          refine (mk_any _ _ _ _ _ _ _ _ _ _ _).mono ?_
          rintro e w2 ⟨rfl, hk2⟩
          have invm := l2_kept inv hk2
          go_wp2_with fail
          refine (emit_any w.heap.size (w.heap.size + 1) n (j * n) w.heap.size rv R _ w2 _ _ _ _ _ _ _ _ _ _ _ _ invm.hub invm.own invm.recs invm.log (by omega) ?_ invm.bel.size).mono ?_
          · have : j * n ≤ 256 * 256 := Nat.mul_le_mul (by omega) (by omega)
            omega
          rintro e w3 ⟨rfl, hh3, hl3, hk3⟩
          have inv' := l2_step invm hh3 hl3 hk3
          clear hh3 hl3 hk3 invm hk2 inv cj hc
          go_wp2
          go_roundw
          case rel => exact ⟨j + 1, by omega, by go_num, inv'⟩
          case measure => simp [intOf]; omega
        · have hjn : len = j := by omega
          subst hjn
          obtain ⟨ao, cp, rfl, hform⟩ := own_form inv.own
          have c6 : wr.cell? ⟨w.heap.size, 6, none⟩ = some (.slice ao n cp) := inv.hub.cell 6
          go_wp2_with fail
          go_loopw [27] (fun i wr => ∃ j : Nat, j ≤ n ∧ i = .int .i64 j ∧ L2 w n R (.slice ao n cp) cur (fun j => (evV ss m u r kd st d wt ra j).toList) len wr) (fun i _ => n - (intOf i).toNat)
          case atStart => exact ⟨0, Nat.zero_le _, rfl, inv⟩
          case round =>
            clear inv c6
            obtain ⟨j, hj, rfl, inv⟩ := hrel
            by_cases hltj : j < n
            · obtain ⟨g, rfl⟩ := hform (by omega)
              have c6 : wr.cell? ⟨w.heap.size, 6, none⟩ = some (.slice (some ⟨g, 0, none⟩) n cp) := inv.hub.cell 6
              have cg : wr.cell? ⟨g, j, none⟩ = some (.iface 47 (.pointer (some ⟨R j, 0, none⟩))) := own_cell inv.own (rlist_get R n j hltj)
              have cr : wr.cell? ⟨w.heap.size + 1 + 1, j, none⟩ = some (.pointer (some ⟨R j, 0, none⟩)) := (inv.row.cell j).trans (inv.at_ j hltj)
              have hq := neq_iface ⟨R j, 0, none⟩
              have hji : (j : Int) < (n : Int) := by omega
              go_wp2_with fail
              go_quiet (fail)
              have inv' := l2_kept inv (wr' := wr.drewN nq) ⟨rfl, rfl, rfl, Nat.le_refl _, fun _ _ _ => rfl⟩
              clear inv c6 cg cr hq
              go_wp2
              go_roundw
              case rel => exact ⟨j + 1, by omega, by go_num, inv'⟩
              case measure => simp [intOf]; omega
            · have hlog := inv.log
              obtain ⟨v, hl, hv⟩ := hlog
              obtain ⟨av, cv, rfl, hvform⟩ := own_form hv
              obtain ⟨LN, hLN⟩ : ∃ LN, LN = len * n := ⟨_, rfl⟩
              have hLNb : LN ≤ 65536 := by rw [hLN]; exact Nat.le_trans (Nat.mul_le_mul hlen (show n ≤ 256 by omega)) (by omega)
              have hmul : ((LN : Int) != wrap64 ((len : Int) * (n : Int))) = false := mul_fact hLN hLNb
              have c1 : wr.cell? ⟨w.heap.size + 1, 0, none⟩ = some (.slice av LN cv) := by rw [hLN]; exact hl.cell 0
              have HLN := hide hLN
              clear hl hv hvform hform hLN
              go_wp2_with fail
              go_loopw [119, 28] (fun jv kv wr => ∃ j K : Nat, j ≤ len ∧ jv = .int .i64 j ∧ kv = .int .i64 K ∧ Hid (K = j * n) ∧ L2 w n R (.slice ao n cp) cur (fun j => (evV ss m u r kd st d wt ra j).toList) len wr) (fun jv _ _ => len - (intOf jv).toNat)
              case atStart => exact ⟨0, 0, Nat.zero_le _, rfl, rfl, by simp [Hid], inv⟩
              case round =>
                clear inv c1 hmul hj hltj
                obtain ⟨j, K, hj, rfl, rfl, hK, inv⟩ := hrel
                by_cases hltj : j < len
                · obtain ⟨b, o, rfl, hb, hc⟩ := hss j hltj
                  have cj : wr.cell? ⟨b, o + j, none⟩ = some (.string (ss j)) := (inv.bel.cell (by exact hb)).trans hc
                  have hKb : K ≤ 65536 := by rw [hK.out]; exact Nat.le_trans (Nat.mul_le_mul (show j ≤ 256 by omega) (show n ≤ 256 by omega)) (by omega)
                  go_wp2_with fail
                  refine (mk_any _ _ _ _ _ _ _ _ _ _ _).mono ?_
                  rintro e w2 ⟨rfl, hk2⟩
                  have invm := l2_kept inv hk2
                  clear inv hk2 cj
                  have bw : Blk (w2.alloc (.cells (evV ss m u r kd st d wt ra j) 57)) w2.heap.size (evV ss m u r kd st d wt ra j) 57 := Blk.new _ _ _
                  have invw := l2_kept invm ((Kept.refl _ _).alloc (.cells (evV ss m u r kd st d wt ra j) 57))
                  clear invm
                  go_wp2_with fail
                  go_loopw [28, 32] (fun kv iv wr => ∃ i K : Nat, i ≤ n ∧ iv = .int .i64 i ∧ kv = .int .i64 K ∧ Hid (K = j * n + i) ∧ L2 w n R (.slice ao n cp) cur (fun j => (evV ss m u r kd st d wt ra j).toList) len wr ∧ Blk wr w2.heap.size (evV ss m u r kd st d wt ra j) 57) (fun _ iv _ => n - (intOf iv).toNat)
                  case atStart => exact ⟨0, K, Nat.zero_le _, rfl, rfl, by simpa [Hid] using hK, invw, bw⟩
                  case round =>
                    clear invw bw hK hKb
                    obtain ⟨i, K', hi, rfl, rfl, hK, inv, bw⟩ := hrel
                    by_cases hlti : i < n
                    · have hKlt : K' < LN := by
                        rw [hK.out, HLN.out]
                        exact Nat.lt_of_lt_of_le (show j * n + i < (j + 1) * n by rw [Nat.succ_mul]; omega) (Nat.mul_le_mul_right n (by omega))
                      have hKli : (K' : Int) < (LN : Int) := by omega
                      obtain ⟨v, hl, hv⟩ := inv.log
                      obtain ⟨av, cv, rfl, hvform⟩ := own_form hv
                      obtain ⟨g, rfl⟩ := hvform (by have := HLN.out; omega)
                      have c1 : wr.cell? ⟨w.heap.size + 1, 0, none⟩ = some (.slice (some ⟨g, 0, none⟩) LN cv) := by rw [HLN.out]; exact hl.cell 0
                      have hcell : ∀ c, c < 13 → wr.cell? ⟨g, K' * 13 + c, none⟩ = ((.int .i64 i : Value) :: (evV ss m u r kd st d wt ra j).toList)[c]? := fun c hc => by
                        have e := allE_get (fun j => (evV ss m u r kd st d wt ra j).toList) n len j i c (fun _ => rfl) hltj hlti hc
                        rw [← hK.out] at e
                        cases hx : ((.int .i64 i : Value) :: (evV ss m u r kd st d wt ra j).toList)[c]? with
                        | none => simp at hx; omega
                        | some x => rw [hx] at e; exact own_cell hv e
                      have d0 : wr.cell? ⟨g, K' * 13, none⟩ = some (.int .i64 i) := hcell 0 (by omega)
                      have d1 : wr.cell? ⟨g, K' * 13 + 1, none⟩ = some (.string (ss j)) := hcell 1 (by omega)
                      have d2 : wr.cell? ⟨g, K' * 13 + 2, none⟩ = some (.int .i64 j) := hcell 2 (by omega)
                      have d3 : wr.cell? ⟨g, K' * 13 + 3, none⟩ = some (.string m) := hcell 3 (by omega)
                      have d4 : wr.cell? ⟨g, K' * 13 + 4, none⟩ = some (.string u) := hcell 4 (by omega)
                      have d5 : wr.cell? ⟨g, K' * 13 + 5, none⟩ = some (.int .i64 (wrap64 (st + j))) := hcell 5 (by omega)
                      have d6 : wr.cell? ⟨g, K' * 13 + 6, none⟩ = some (.string kd) := hcell 6 (by omega)
                      have d7 : wr.cell? ⟨g, K' * 13 + 7, none⟩ = some (.int .i64 d) := hcell 7 (by omega)
                      have d8 : wr.cell? ⟨g, K' * 13 + 8, none⟩ = some (.int .i64 wt) := hcell 8 (by omega)
                      have d9 : wr.cell? ⟨g, K' * 13 + 9, none⟩ = some (.int .i64 ra) := hcell 9 (by omega)
                      have d10 : wr.cell? ⟨g, K' * 13 + 10, none⟩ = some (.string r) := hcell 10 (by omega)
                      have d11 : wr.cell? ⟨g, K' * 13 + 11, none⟩ = some (.string ⟨#[]⟩) := hcell 11 (by omega)
                      have d12 : wr.cell? ⟨g, K' * 13 + 12, none⟩ = some (.string ⟨#[]⟩) := hcell 12 (by omega)
                      have hbl := bw.lt
                      have hbne : w2.heap.size ≠ wr.heap.size := by omega
                      have q0 := bw.cell 0
                      have q1 := bw.cell 1
                      have q2 := bw.cell 2
                      have q3 := bw.cell 3
                      have q4 := bw.cell 4
                      have q5 := bw.cell 5
                      have q6 := bw.cell 6
                      have q7 := bw.cell 7
                      have q8 := bw.cell 8
                      have q9 := bw.cell 9
                      have q10 := bw.cell 10
                      have q11 := bw.cell 11
                      clear hcell hvform
                      go_wp2_with fail
                      refine (same_any _ _ _ _ _ _ _ _ _ _ _ _ _).mono ?_
                      rintro e w4 ⟨rfl, hk4⟩
                      have k4 := ((Kept.refl (fun _ => False) wr).alloc _).trans hk4
                      have inv' := l2_kept inv k4
                      have bw' := k4.blk bw id
                      clear inv bw k4 hk4 d0 d1 d2 d3 d4 d5 d6 d7 d8 d9 d10 d11 d12 q0 q1 q2 q3 q4 q5 q6 q7 q8 q9 q10 q11 hl hv c1
                      go_wp2
                      go_roundw
                      case rel => exact ⟨i + 1, K' + 1, by omega, by go_num, by go_num, (by have := hK.out; show K' + 1 = j * n + (i + 1); omega), inv', bw'⟩
                      case measure => simp [intOf]; omega
                    · have hin := hide (show n = i by omega)
                      go_wp2
                      go_roundw
                      case rel => exact ⟨j + 1, K', by omega, by go_num, rfl, (by have := hK.out; have := hin.out; show K' = (j + 1) * n; rw [Nat.succ_mul]; omega), inv⟩
                      case measure => simp [intOf]; omega
                · go_wp2
                  go_ret
                  exact ⟨rfl, inv.bel⟩
#print axioms fan_any
end Go.Proofs.Ybulkdbde
