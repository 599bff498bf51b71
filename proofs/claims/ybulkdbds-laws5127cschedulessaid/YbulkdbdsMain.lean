import Derived.Test.YbulkdbdsMainA
import Derived.Test.YbulkdbdsEq
import Derived.Deep.DeepCutAuto
import Derived.BigQuiet
import Derived.Deep.QuietTactic
namespace Go.Proofs.Ybulkdbds
open Go.RowKit Go.HeadTail

attribute [local go_sem] yields yUpon

theorem info35 : (Yba.prog.info? 35).map (fun i => (i.zero, i.size, i.bytes)) = some (some .nilIface, 1, 16) := by kernel_rfl

theorem eq_nilptr (d : Nat) (w : World) : (Op.equalIn (d + 1) 24 (.pointer none) (.pointer none)).run Yba.prog w = .ok true w := by
  simp [Op.equalIn, run_underlying Yba.underlying24]

theorem own_blk {w : World} {base : Nat} {e : TypeId} {g n : Nat} {xs : List Value} (h : w.ownsRow base e 1 (.slice (some ⟨g, 0, none⟩) n n) n xs) : Blk w g xs.toArray e := by
  rcases h.2 with ⟨h1, _⟩ | ⟨g', cap, cur, hv, _, hg, _, _, hs, ht⟩
  · cases h1
  · simp at hv
    obtain ⟨rfl, rfl⟩ := hv
    have : cur = xs.toArray := by
      rw [← ht, Nat.mul_one, List.take_of_length_le (by simp; omega)]
    rw [← this]; exact hg

set_option maxHeartbeats 6400000 in
set_option maxRecDepth 100000 in
theorem sched_main (a0 e0 : Int) (a : Option Addr) (len cap : Nat) (ds : Nat → Int) (w : World) (h0 : -9223372036854775808 ≤ a0) (h1 : a0 ≤ 9223372036854775807) (g0 : -9223372036854775808 ≤ e0) (g1 : e0 ≤ 9223372036854775807) (hlen : len ≤ 1024)
    (hds : ∀ i, i < len → ∃ b o, a = some ⟨b, o, none⟩ ∧ b < w.heap.size ∧ w.cell? ⟨b, o + i, none⟩ = some (.int .i64 (ds i)) ∧ -9223372036854775808 ≤ ds i ∧ ds i ≤ 9223372036854775807) :
    Calls Yba.prog 3 #[.int .i64 a0, .int .i64 e0, .slice a len cap] w fun e w' => e = .returned (.bool true) ∧ Below w.heap.size w w' := by
  obtain ⟨i0, hi0, hz0, hz1, hz2⟩ := info_parts info35
  have hc1 : ¬ (1024 : Int) < len := by omega
  go_enter Yba.func3, Yba.ntmps3
  go_upto_if 31 with (fail)
  go_cut [1] from 30 to 33 (fun ev w' => ∃ e : Int, ev = .int .i64 e ∧ 0 ≤ e ∧ e ≤ 9223372036854775807 ∧ w' = w)
  case first =>
    go_wp2
    · go_meet
      case rel =>
        have hneg : e0 < 0 := by assumption
        exact ⟨-1 - e0, by rw [not_neg e0 g0 hneg], by omega, by omega, rfl⟩
    · go_meet
      case rel =>
        have hpos : 0 ≤ e0 := by assumption
        exact ⟨e0, rfl, hpos, g1, rfl⟩
  case rest =>
    obtain ⟨e, rfl, he0, he1, rfl⟩ := hcut
    go_wp2_with fail
    refine (add_any 0 0 a0 _ (by omega) (by omega) h0 h1).mono ?_
    rintro r w1 ⟨rfl, k1⟩
    have hn1 := addN_bd 0 a0 (by omega) (by omega)
    generalize addN 0 a0 = n1 at hn1
    generalize addS 0 (addD 0 a0) = x1
    go_wp2_with fail
    refine (newClock_any n1 x1 _).mono ?_
    rintro r w2 ⟨cb, rfl, hcb, bcb, k2⟩
    go_wp2_with fail
    refine (moveTo_any cb n1 x1 e _ _ _ _ _ _ _ w2 hn1.1 hn1.2 (by omega) he1 bcb).mono ?_
    rintro r w3 ⟨rfl, bcb3, k3⟩
    have bs : Blk (w1.alloc (.cells #[.int .u64 n1, .int .i64 x1, .pointer none] 26)) w1.heap.size #[.int .u64 n1, .int .i64 x1, .pointer none] 26 := Blk.new _ _ _
    have bs3 := k3.blk (k2.blk bs id) (fun h => by have := bs.lt; omega)
    have bel3 : Below wc.heap.size wc w3 := by
      have b1 := k1.below (Nat.le_refl _) (fun _ _ => id)
      have b2 := b1.trans ((((Kept.refl (fun _ => False) w1).alloc (.cells #[.int .u64 n1, .int .i64 x1, .pointer none] 26)).trans k2).below b1.size (fun _ _ => id))
      refine b2.trans (k3.below b2.size (fun x hx e => ?_))
      have := b1.size
      simp at hcb; omega
    have hcbB : wc.heap.size ≤ cb := by have := k1.size; simp at hcb; omega
    clear k1 k2 k3 bcb bs hcb
    go_wp2_with (at_make; refine wpList_make_full _ rfl _ _ 33 rfl wc.heap.size 35 i0 .nilIface 1 Yba.underlying33 hi0 hz0 hz1 _ _ _ _ len rfl rfl ?c1 ?c2 ?c3 ?c4 ?c5 ?_)
    case c1 => rfl
    case c2 => rfl
    case c3 => rw [hz2]; omega
    case c4 => unfold maxLen; omega
    case c5 => have := bel3.size; simp; omega
    intro w4 own4 grow4
    have inv0 : S1 wc cb w1.heap.size w3.heap.size (w3.heap.size + 1) n1 x1 (addN n1 e) (addS x1 (addD n1 e)) e ds len 0 (fun _ => 0) (fun _ => 0) (fun _ => 0) (.slice none 0 0) (madeCells #[Value.nilIface] len).toList.toArray (.slice none 0 0) w4 := by
      have kg : Kept (fun _ => False) (w3.alloc (.cells #[.slice none 0 0] 32)) w4 := (Kept.refl _ _).grown grow4 (fun _ _ e => by cases e)
      have bt := own_blk own4
      have hb3 := bel3.size
      refine ⟨kg.blk (bcb3.alloc _) id, World.ownsRow_nil _ _ _ _, heap_zero _ _, fun i hi => absurd hi (by omega), fun i hi => absurd hi (by omega), kg.blk (Blk.new _ _ _) id, kg.blk (bs3.alloc _) id, by simpa using bt, ?_, fun i hi => absurd hi (by omega), hcbB, by omega, ?_⟩
      · have := own4.1; simpa using this
      · exact (bel3.alloc hb3 _).trans (kg.below (by simp; omega) (fun _ _ => id))
    generalize (madeCells #[Value.nilIface] len).toList.toArray = cur0 at inv0
    generalize hn2 : addN n1 e = n2 at inv0
    generalize hx2 : addS x1 (addD n1 e) = x2 at inv0
    have Hn2 := hide hn2
    have Hx2 := hide hx2
    clear hn2 hx2
    generalize w1.heap.size = sb at inv0
    have hlbB : wc.heap.size ≤ w3.heap.size := bel3.size
    generalize w3.heap.size = lb at inv0 hlbB
    clear own4 grow4 bel3 bs3 bcb3 hi0 hz0 hz1 hz2 i0
    go_wp2_with fail
    go_loopw [12] (fun i wr => ∃ k : Nat, k ≤ len ∧ i = .int .i64 k ∧ ∃ E KB σ qv cur, S1 wc cb sb lb (lb + 1) n1 x1 n2 x2 e ds len k E KB σ qv cur (.slice none 0 0) wr) (fun i _ => len - (intOf i).toNat)
    case atStart => exact ⟨0, Nat.zero_le _, rfl, _, _, _, _, _, inv0⟩
    case round =>
      obtain ⟨k, hk, rfl, E, KB, σ, qv, cur, inv⟩ := hrel
      clear inv0
      by_cases hlt : k < len
      · obtain ⟨b, o, rfl, hb, hc, hd0, hd1⟩ := hds k hlt
        have ck : wr.cell? ⟨b, o + k, none⟩ = some (.int .i64 (ds k)) := (inv.bel.cell (by exact hb)).trans hc
        have cka : ∀ ob, (wr.alloc ob).cell? ⟨b, o + k, none⟩ = some (.int .i64 (ds k)) := fun ob => by
          rw [World.cell?_alloc_some wr _ ob (by rw [ck]; rfl)]; exact ck
        go_wp2_with fail
        refine (after_any cb wc.heap.size k (fun i => laterf e (ds i)) (upd E k (wr.heap.size + 1)) σ e (ds k) _ _ _ _ _ _ qv _ _ _ _ (inv.clock.alloc _) ((row_upd inv.row inv.heap.lt rfl).alloc _) inv.heap (by omega) (by have := inv.bel.size; simp; omega) he0 he1 hd0 hd1 rfl (by simp [upd])).mono ?_
        rintro r w5 ⟨rfl, g, cp, σ', hc5, hq5, hh5, hE5, hk5⟩
        have inv' := s1_step inv hlt hc5 hq5 hh5 (by simpa using hE5) hk5
        have ht5 : Blk w5 (lb + 1) cur 35 := hk5.blk (inv.tim.alloc _) (by
          rintro (h | h)
          · exact inv.tim.ne inv.clock (by decide) h
          · exact own_ne inv.row inv.tim (by decide) h)
        have ct5 : w5.cell? ⟨lb + 1, k, none⟩ = some cur[k]! := by
          have := ht5.cell k
          rw [Array.getElem?_eq_getElem (by rw [inv.size]; exact hlt)] at this
          simpa [inv.size, hlt] using this
        have ft5 : w5.frozen? ⟨lb + 1, k, none⟩ = false := ht5.frozen k
        clear hc5 hq5 hh5 hE5 hk5 inv ht5 ck cka hc
        go_wp2
        go_roundw
        case rel => exact ⟨k + 1, by omega, by go_num, _, _, _, _, _, by simpa using inv'⟩
        case measure => simp [intOf]; omega
      · have hkn : len = k := by omega
        subst hkn
        go_wp2_with fail
        obtain ⟨X, f, hne, hf, hto⟩ := cls (Kept (fun _ => False) wr) wr.drew (Kept.refl _ _).drew
        obtain ⟨aq, cq, rfl, hqf⟩ := own_form inv.row
        have Hto := hide hto
        have t6 := fun x => ((hf x).blk inv.clock id).cell 6
        have t7 := fun x => ((hf x).blk inv.clock id).cell 7
        have t8 := fun x => ((hf x).blk inv.clock id).cell 8
        have t9 := fun x => ((hf x).blk inv.clock id).cell 9
        have t3 := fun x => ((hf x).blk inv.clock id).cell 3
        have t4 := fun x => ((hf x).blk inv.clock id).cell 4
        have t5 := fun x => ((hf x).blk inv.clock id).cell 5
        have s0 := fun x => ((hf x).blk inv.start id).cell 0
        have s1 := fun x => ((hf x).blk inv.start id).cell 1
        have s2 := fun x => ((hf x).blk inv.start id).cell 2
        have hCw : ∃ x, wr.drew = f x := Hto.out _ (Kept.refl _ _).drew
        have HCw := hide hCw
        have hwr : IntKind.u64.wrap (len : Int) = (len : Int) := by rw [IntKind.wrap_u64]; omega
        clear hto hf hCw
        refine wp_region_seq (fun w' => ∃ x, w' = f x) ((List.range 30).map (fun i => (true, i)) ++ (false, 30) :: (List.range' 31 11).map (fun i => (true, i))) (by kernel_rfl) (by kernel_rfl) (fun _ _ _ _ _ h => h) ?_
        simp only [List.range, List.range.loop, List.range', List.map_cons, List.map_nil, List.cons_append, List.nil_append, pickS, List.getElem?_cons_zero, List.getElem?_cons_succ]
        iterate 30
          refine wpSeq_quiet HCw.out (fun K hK => ?_)
          go_simp
          refine hK _ ?_
          clear hK K
        refine wpSeq_forced (fun K hK => ?_)
        go_simp
        refine (add_any n1 x1 e _ hn1.1 hn1.2 (by omega) he1).mono ?_
        rintro r w6 ⟨rfl, k6⟩
        rw [Hn2.out, Hx2.out]
        have hC6 : ∃ x, w6 = f x := Hto.out _ ((Kept.refl (fun _ => False) wr).drew.trans k6)
        have HC6 := hide hC6
        have inv6 := s1_kept inv ((Kept.refl (fun _ => False) wr).drew.trans k6)
        refine hK _ _ HC6.out ?_
        clear hK K inv k6 hC6 HCw
        have hpn := eq_nilptr 9998
        iterate 11
          refine wpSeq_quiet HC6.out (fun K hK => ?_)
          go_simp
          refine hK _ ?_
          clear hK K
        refine wpSeq_nil ?_
        clear t3 t4 t5 t6 t7 t8 t9 s0 s1 s2 Hto HC6 hne hpn
        obtain ⟨j0, hj0, hy0, hy1, hy2⟩ := info_parts info3
        go_wp2_with (at_make; refine wpList_make_full _ rfl _ _ 32 rfl wc.heap.size 3 j0 (.int .i64 0) 1 Yba.underlying32 hj0 hy0 hy1 _ _ _ _ len rfl rfl ?m1 ?m2 ?m3 ?m4 ?m5 ?_)
        case m1 => rfl
        case m2 => rfl
        case m3 => rw [hy2]; omega
        case m4 => unfold maxLen; omega
        case m5 => have := inv6.bel.size; omega
        intro w7 own7 grow7
        have kg7 : Kept (fun _ => False) w6 w7 := (Kept.refl _ _).grown grow7 (fun _ _ e => by cases e)
        have inv7 := s1_kept inv6 kg7
        have bp7 := own_blk own7
        have hs7 : (madeCells #[Value.int IntKind.i64 0] len).toList.toArray.size = len := by have := own7.1; simpa using this
        have hKB : ∀ i, i < len → KB i < w6.heap.size := fun i hi => (inv6.ks i hi).lt
        have hpB : wc.heap.size ≤ w6.heap.size := inv6.bel.size
        generalize (madeCells #[Value.int IntKind.i64 0] len).toList.toArray = pos0 at bp7 hs7
        generalize w6.heap.size = pb at bp7 hKB hpB
        clear inv6 kg7 own7 grow7 hj0 hy0 hy1 hy2
        have HKB := hide hKB
        have Hqf := hide hqf
        clear hKB hqf
        go_wp2_with fail
        go_loopw [15] (fun i wr => ∃ (k : Nat) (pos : Array Value), k ≤ len ∧ i = .int .i64 k ∧ S1 wc cb sb lb (lb + 1) n1 x1 n2 x2 e ds len len E KB σ (.slice aq len cq) cur (.slice none 0 0) wr ∧ Blk wr pb pos 3 ∧ pos.size = len ∧ ∀ i, i < k → pos[i]? = some (.int .i64 (-1))) (fun i _ => len - (intOf i).toNat)
        case atStart => exact ⟨0, pos0, Nat.zero_le _, rfl, inv7, bp7, hs7, fun i hi => absurd hi (by omega)⟩
        case round =>
          clear inv7 bp7 hs7
          obtain ⟨k, pos, hk, rfl, inv, bp, hps, hpos⟩ := hrel
          by_cases hltk : k < len
          · have cp : wr.cell? ⟨pb, k, none⟩ = some pos[k]! := by
              have := bp.cell k
              rw [Array.getElem?_eq_getElem (by rw [hps]; exact hltk)] at this
              simpa [hps, hltk] using this
            have fp : wr.frozen? ⟨pb, k, none⟩ = false := bp.frozen k
            have inv' := s1_pos inv bp (fun i hi => Nat.ne_of_lt (HKB.out i hi)) hpB k (.int .i64 (-1))
            have bp' := bp.set k (.int .i64 (-1))
            have hpos' : ∀ i, i < k + 1 → (pos.setIfInBounds k (.int .i64 (-1)))[i]? = some (.int .i64 (-1)) := fun i hi => by
              by_cases hik : i = k
              · subst hik; simp [hps, hltk]
              · rw [Array.getElem?_setIfInBounds_ne (by omega)]; exact hpos i (by omega)
            have Hpos := hide hpos'
            clear inv bp hpos hpos'
            go_wp2
            go_roundw
            case rel => exact ⟨k + 1, _, by omega, by go_num, inv', bp', by simpa using hps, Hpos.out⟩
            case measure => simp [intOf]; omega
          · have hkl : len = k := by omega
            subst hkl
            have Hpos := hide hpos
            clear hpos
            go_wp2_with fail
            go_loopw [16] (fun i wr => ∃ (k : Nat) (pos : Array Value), k ≤ len ∧ i = .int .i64 k ∧ S1 wc cb sb lb (lb + 1) n1 x1 n2 x2 e ds len len E KB σ (.slice aq len cq) cur (.slice none 0 0) wr ∧ Blk wr pb pos 3 ∧ pos.size = len ∧ Hid (∀ j : Nat, j < k → pos[σ j]? = some (.int .i64 j)) ∧ Hid (∀ i, i < len → (∀ j, j < k → σ j ≠ i) → pos[i]? = some (.int .i64 (-1)))) (fun i _ => len - (intOf i).toNat)
            case atStart => exact ⟨0, pos, Nat.zero_le _, rfl, inv, bp, hps, fun j hj => absurd hj (by omega), fun i hi _ => Hpos.out i hi⟩
            case round =>
              clear inv bp hps Hpos
              obtain ⟨k, pos, hk, rfl, inv, bp, hps, P1, P2⟩ := hrel
              by_cases hltk : k < len
              · obtain ⟨g, rfl⟩ := Hqf.out (by omega)
                have hσ := inv.heap.lt k hltk
                have hσi : ((σ k : Nat) : Int) < (len : Int) := by omega
                have hki : (k : Int) < (len : Int) := by omega
                have c7 : wr.cell? ⟨cb, 7, none⟩ = some (.slice (some ⟨g, 0, none⟩) len cq) := inv.clock.cell 7
                have q0 := row0 inv.row hltk
                have q1 := row1 inv.row hltk
                have q2 := row2 inv.row hltk
                have cp : wr.cell? ⟨pb, σ k, none⟩ = some (.int .i64 (-1)) := (bp.cell _).trans (P2.out (σ k) hσ (fun j hj e => by have := inv.heap.inj j k (by omega) hltk e; omega))
                have fp : wr.frozen? ⟨pb, σ k, none⟩ = false := bp.frozen _
                have hplt := bp.lt
                have cp1 := fun o => cell_alloc cp o
                have cp2 := fun o o' => cell_alloc (cell_alloc cp o) o'
                have fp1 := fun o => frozen_alloc hplt fp o
                have fp2 : ∀ o o', ((wr.alloc o).alloc o').frozen? ⟨pb, σ k, none⟩ = false := fun o o' => frozen_alloc (by simp; omega) (fp1 o) o'
                have R1 : Hid (∀ j : Nat, j < k + 1 → (pos.setIfInBounds (σ k) (.int .i64 k))[σ j]? = some (.int .i64 j)) := fun j hj => by
                  by_cases hjk : j = k
                  · subst hjk; simp [hps, hσ]
                  · rw [Array.getElem?_setIfInBounds_ne (fun e => hjk (inv.heap.inj j k (by omega) hltk e.symm))]; exact P1.out j (by omega)
                have R2 : Hid (∀ i, i < len → (∀ j, j < k + 1 → σ j ≠ i) → (pos.setIfInBounds (σ k) (.int .i64 k))[i]? = some (.int .i64 (-1))) := fun i hi hj => by
                  rw [Array.getElem?_setIfInBounds_ne (hj k (by omega))]; exact P2.out i hi (fun j hjk => hj j (by omega))
                have inv' := s1_pos inv bp (fun i hi => Nat.ne_of_lt (HKB.out i hi)) hpB (σ k) (.int .i64 k)
                have bp' := bp.set (σ k) (.int .i64 k)
                clear P1 P2
                by_cases hk0 : 0 < k
                · obtain ⟨p, hp⟩ : ∃ p, p = (k - 1) / 2 := ⟨_, rfl⟩
                  have hpl : p < len := by omega
                  have hord := inv.heap.ord k hk0 hltk
                  rw [← hp] at hord
                  have hpz : ((k : Int) - 1) / 2 = (p : Int) := by omega
                  have hpi : (p : Int) < (len : Int) := by omega
                  have p0 := fun o => cell_alloc (row0 inv.row hpl) o
                  have p1 := fun o => cell_alloc (row1 inv.row hpl) o
                  have p2 := fun o => cell_alloc (row2 inv.row hpl) o
                  have c7a := fun o => cell_alloc c7 o
                  have Hord := hide hord
                  clear hp bp inv fp cp hord
                  go_wp2
                  · exfalso
                    have h1 : laterf e (ds (σ p)) = laterf e (ds (σ k)) := by assumption
                    have h2 : σ k < σ p := by assumption
                    have := Hord.out
                    simp only [lek] at this
                    omega
                  · go_roundw
                    case rel => exact ⟨k + 1, _, by omega, by go_num, s1_kept inv' (((Kept.refl (fun _ => False) _).alloc _).alloc _), (bp'.alloc _).alloc _, by simpa using hps, R1, R2⟩
                    case measure => simp [intOf]; omega
                  · go_roundw
                    case rel => exact ⟨k + 1, _, by omega, by go_num, s1_kept inv' (((Kept.refl (fun _ => False) _).alloc _).alloc _), (bp'.alloc _).alloc _, by simpa using hps, R1, R2⟩
                    case measure => simp [intOf]; omega
                  · exfalso
                    have h1 : laterf e (ds (σ k)) < laterf e (ds (σ p)) := by assumption
                    have := Hord.out
                    simp only [lek] at this
                    omega
                · have hk00 : k = 0 := by omega
                  subst hk00
                  clear inv bp cp fp
                  go_wp2
                  have inv2 := s1_kept inv' ((Kept.refl (fun _ => False) _).alloc (.cells #[.int .i64 (laterf e (ds (σ 0))), .int .u64 (σ 0), .iface 45 (.pointer (some ⟨E (σ 0), 0, none⟩))] 44))
                  go_roundw
                  case rel => exact ⟨1, _, by omega, by go_num, inv2, bp'.alloc _, by simpa using hps, R1, R2⟩
                  case measure => simp [intOf]; omega
              · have hkl : len = k := by omega
                subst hkl
                have hb4 : pb < wr.heap.size := bp.lt
                generalize hB4 : wr.heap.size = B4 at hb4
                have hsurj : ∀ k, k < len → ∃ j, j < len ∧ σ j = k ∧ pos[k]? = some (.int .i64 j) := fun k hk => by
                  obtain ⟨j, hj, e⟩ := heap_surj inv.heap k hk
                  exact ⟨j, hj, e, by rw [← e]; exact P1.out j hj⟩
                have Hsurj := hide hsurj
                have HB4 := hide hB4
                clear P1 P2 hsurj hB4
                go_wp2_with fail
                go_loopw [19] (fun i wr => ∃ (k : Nat) (lv : Value), k ≤ len ∧ i = .int .i64 k ∧ S1 wc cb sb lb (lb + 1) n1 x1 n2 x2 e ds len len E KB σ (.slice aq len cq) cur lv wr ∧ Blk wr pb pos 3 ∧ wr.ownsRow B4 3 1 lv k ((List.range k).map fun i : Nat => .int .i64 (i : Int)) ∧ B4 ≤ wr.heap.size) (fun i _ => len - (intOf i).toNat)
                case atStart => exact ⟨0, _, Nat.zero_le _, rfl, inv, bp, World.ownsRow_nil _ _ _ _, by rw [HB4.out]; exact Nat.le_refl _⟩
                case round =>
                  clear inv bp HB4
                  obtain ⟨k, lv, hk, rfl, inv, bp, hlog, hszB⟩ := hrel
                  by_cases hltk : k < len
                  · obtain ⟨g, rfl⟩ := Hqf.out (by omega)
                    obtain ⟨j, hj, hσj, hposk⟩ := Hsurj.out k hltk
                    obtain ⟨b, o, rfl, hb, hc, hd0, hd1⟩ := hds k hltk
                    have hji : (j : Int) < (len : Int) := by omega
                    have hki : (k : Int) < (len : Int) := by omega
                    obtain ⟨X, f, hne, hf, hto⟩ := cls (Kept (fun _ => False) wr) wr.drew (Kept.refl _ _).drew
                    have Hto := hide hto
                    have HCw := hide (hto _ ((Kept.refl (fun _ => False) wr).drew))
                    have t7 := fun x => ((hf x).blk inv.clock id).cell 7
                    have tp : ∀ x, (f x).cell? ⟨pb, k, none⟩ = some (.int .i64 j) := fun x => (((hf x).blk bp id).cell k).trans hposk
                    have r0 : ∀ x, (f x).cell? ⟨g, j * 3, none⟩ = some (.int .i64 (laterf e (ds k))) := fun x => by have := row0 ((hf x).own inv.row (fun _ _ h => h)) hj; rwa [hσj] at this
                    have r1 : ∀ x, (f x).cell? ⟨g, j * 3 + 1, none⟩ = some (.int .u64 k) := fun x => by have := row1 ((hf x).own inv.row (fun _ _ h => h)) hj; rwa [hσj] at this
                    have r2 : ∀ x, (f x).cell? ⟨g, j * 3 + 2, none⟩ = some (.iface 45 (.pointer (some ⟨E k, 0, none⟩))) := fun x => by have := row2 ((hf x).own inv.row (fun _ _ h => h)) hj; rwa [hσj] at this
                    have Hposk := hide hposk
                    have Hσj := hide hσj
                    clear hto hf hposk hσj
                    go_wp2_with fail
                    refine wp_region_seq (fun w' => ∃ x, w' = f x) ((List.range 10).map (fun i => (true, i)) ++ [(false, 10), (false, 11)]) (by kernel_rfl) (by kernel_rfl) (fun _ _ _ _ _ h => h) ?_
                    simp only [List.range, List.range.loop, List.map_cons, List.map_nil, List.cons_append, List.nil_append, pickS, List.getElem?_cons_zero, List.getElem?_cons_succ]
                    iterate 10
                      refine wpSeq_quiet HCw.out (fun K hK => ?_)
                      go_simp
                      refine hK _ ?_
                      clear hK K
                    refine wpSeq_forced (fun K hK => ?_)
                    go_simp
                    refine hK _ _ (Hto.out _ (((Kept.refl (fun _ => False) wr).alloc _).drew)) ?_
                    clear hK K
                    refine wpSeq_forced (fun K hK => ?_)
                    go_simp
                    refine hK _ _ (Hto.out _ (by repeat (first | exact Kept.refl _ _ | refine Kept.alloc ?_ _ | refine Kept.drew ?_ | refine Kept.set ?_ (fun h => absurd h (by simp)) _))) ?_
                    clear hK K t7 tp r0 r1 r2 Hto HCw hne
                    refine wpSeq_nil ?_
                    have invq := s1_kept inv (((Kept.refl (fun _ => False) wr).alloc (.cells #[.int .i64 (laterf e (ds k)), .int .u64 k, .iface 45 (.pointer (some ⟨E k, 0, none⟩))] 44)).drew)
                    have bq := (Blk.new wr #[.int .i64 (laterf e (ds k)), .int .u64 k, .iface 45 (.pointer (some ⟨E k, 0, none⟩))] 44).drew
                    have bpq := (bp.alloc (.cells #[.int .i64 (laterf e (ds k)), .int .u64 k, .iface 45 (.pointer (some ⟨E k, 0, none⟩))] 44)).drew
                    have hlogq := own_drew (hlog.alloc (.cells #[.int .i64 (laterf e (ds k)), .int .u64 k, .iface 45 (.pointer (some ⟨E k, 0, none⟩))] 44))
                    have hszq : B4 ≤ (wr.alloc (.cells #[.int .i64 (laterf e (ds k)), .int .u64 k, .iface 45 (.pointer (some ⟨E k, 0, none⟩))] 44)).drew.heap.size := by simp; omega
                    generalize hW8 : (wr.alloc (.cells #[.int .i64 (laterf e (ds k)), .int .u64 k, .iface 45 (.pointer (some ⟨E k, 0, none⟩))] 44)).drew = W8 at invq bq bpq hlogq hszq ⊢
                    clear hW8 inv bp hlog hszB
                    generalize wr.heap.size = QB at bq ⊢
                    have cd : W8.cell? ⟨b, o + k, none⟩ = some (.int .i64 (ds k)) := (invq.bel.cell (by exact hb)).trans hc
                    go_upto_if 195 with (fail)
                    go_cut [21] from 194 to 202 (fun v w' => v = .int .i64 (laterf e (ds k)) ∧ W8 = w')
                    case first =>
                      go_wp2
                      · go_meet
                        case rel =>
                          have q1 : 0 < ds k := by assumption
                          have q2 : 9223372036854775807 - e < ds k := by assumption
                          exact ⟨by unfold laterf; rw [if_neg (by omega), if_pos q2], rfl⟩
                      · go_meet
                        case rel =>
                          have q1 : 0 < ds k := by assumption
                          have q2 : ds k ≤ 9223372036854775807 - e := by assumption
                          exact ⟨by unfold laterf; rw [if_neg (by omega), if_neg (by omega)], rfl⟩
                      · go_meet
                        case rel =>
                          have q1 : ds k ≤ 0 := by assumption
                          exact ⟨by unfold laterf; rw [if_pos q1], rfl⟩
                    case rest =>
                      obtain ⟨rfl, rfl⟩ := hcut
                      have b0 := bq.cell 0
                      have b2 := bq.cell 2
                      have ct : W8.cell? ⟨lb + 1, k, none⟩ = some (.iface 45 (.pointer (some ⟨E k, 0, none⟩))) := (invq.tim.cell k).trans (invq.at_ k hltk)
                      have e0 := (invq.evs k hltk).cell 0
                      have e1 := (invq.evs k hltk).cell 1
                      have ha1 := assert42 (some ⟨E k, 0, none⟩)
                      have ha2 := assert35 (some ⟨E k, 0, none⟩)
                      have hn1' := neq45 ⟨E k, 0, none⟩
                      have hn2' := neq29 ⟨cb, 0, none⟩
                      have hn3' := eql1 (.func 8) #[] #[.pointer (some ⟨lb, 0, none⟩), .pointer (some ⟨KB k, 0, none⟩)]
                      go_wp2_with fail
                      refine (logf_any lb (KB k) B4 k k lv _ W8 invq.log (invq.ks k hltk) hlogq (by omega) hszq).mono ?_
                      rintro r w9 ⟨rfl, g', cap', hl9, ho9, hk9⟩
                      have inv9 := s1_log invq hlogq hk9 hl9 (fun i hi => Nat.lt_trans (HKB.out i hi) hb4) (by omega) (by have := invq.tbB; have := hlbB; omega)
                      have bp9 := log_blk hlogq hk9 invq.log bpq hb4
                      have cl9 : w9.cell? ⟨lb, 0, none⟩ = some (.slice (some ⟨g', 0, none⟩) (k + 1) cap') := hl9.cell 0
                      have ck9 : w9.cell? ⟨g', k, none⟩ = some (.int .i64 k) := own_cell ho9 (by simp)
                      have hsz9 := Nat.le_trans hszq hk9.size
                      have ho9' : w9.ownsRow B4 3 1 (.slice (some ⟨g', 0, none⟩) (k + 1) cap') (k + 1) ((List.range (k + 1)).map fun i : Nat => .int .i64 (i : Int)) := by
                        rw [List.range_succ, List.map_append]; exact ho9
                      clear hk9 ho9 hl9 invq bpq hlogq hszq b0 b2 ct e0 e1 ha1 ha2 hn1' hn2' hn3' bq
                      go_wp2
                      go_roundw
                      case rel => exact ⟨k + 1, _, by omega, by go_num, inv9, bp9, ho9', hsz9⟩
                      case measure => simp [intOf]; omega
                  · go_wp2
                    go_ret
                    exact ⟨rfl, inv.bel⟩
#print axioms sched_main
end Go.Proofs.Ybulkdbds
