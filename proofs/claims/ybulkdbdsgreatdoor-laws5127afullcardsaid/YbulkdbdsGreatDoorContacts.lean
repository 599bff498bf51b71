import Derived.Test.YbulkdbdsGreatDoorNewTab
namespace Go.Proofs.YbulkdbdsGreatDoor
open Go.RowKit Go.HeadTail Go.Conc.Locks Go.MuLone
attribute [local go_sem] yields yUpon

def E.c (z4 : Addr) (e : E) : Array Value := con (some z4) e.a e.b e.ip e.p
def cflat (z4 : Addr) : List E → List Value
  | [] => []
  | e :: r => (e.c z4).toList ++ cflat z4 r
theorem con_size (z : Option Addr) (a b ip p : Int) : (con z a b ip p).size = 24 := by kernel_rfl
theorem con_one (z : Option Addr) (a b ip p : Int) : ∀ v ∈ (con z a b ip p).toList, v.oneCell' = true := by
  have h : (con z a b ip p).all (·.oneCell') = true := by kernel_rfl
  intro v hv
  exact Array.all_eq_true_iff_forall_mem.1 h v (by simpa using hv)
theorem cflat_append (z4 : Addr) : ∀ L M : List E, cflat z4 (L ++ M) = cflat z4 L ++ cflat z4 M
  | [], _ => rfl
  | e :: r, M => by rw [List.cons_append, cflat, cflat, cflat_append z4 r M, List.append_assoc]
theorem cflat_length (z4 : Addr) : ∀ L : List E, (cflat z4 L).length = L.length * 24
  | [] => rfl
  | e :: r => by rw [cflat, List.length_append, Array.length_toList, E.c, con_size, cflat_length z4 r, List.length_cons]; omega

set_option maxRecDepth 100000 in
set_option maxHeartbeats 6400000 in
theorem contacts_any (base tb bb : Nat) (L : List E) (two : Bool) (sa : Option Addr) (n cap bc : Nat) (wt : Option Addr) (sfa sfb kk : Int) (cv : Value) (least most : Int) (s : Nat → Int)
    {z4 z6 : Addr} (w : World) (g : Gl w z4 z6) (hgt : tb ≠ 0 ∧ tb ≠ 2 ∧ tb ≠ 3 ∧ tb ≠ z4.block ∧ tb ≠ z6.block) (hn : n ≤ 1000) (hok : ∀ e ∈ L, e.ok)
    (bT : Blk w tb (tabv sfa sfb kk cv least most 0 (.slice (some ⟨bb, 0, none⟩) (nbk two) bc) s) 74)
    (bB : Blk w bb (bks two (.slice sa n cap) wt) 81) (ho : w.ownsRow base 90 41 (.slice sa n cap) n (flat L)) :
    Calls Ybaz.prog 8 #[.pointer (some ⟨tb, 0, none⟩)] w fun e w' => ∃ v, e = .returned v ∧ w'.ownsRow w.heap.size 50 24 v L.length (cflat z4 L) ∧ Kept (fun k => k = tb) w w' := by
  have hbt : bb ≠ tb := bB.ne bT (by decide)
  have hln : L.length ≤ 1000 := by have := ho.1; rw [flat_length] at this; omega
  go_enter_defers Ybaz.func8, Ybaz.ntmps8
  go_wp2_with fail
  refine (lock_tab tb _ _ _ _ _ _ _ _ _ bT).mono ?_
  rintro e w1 ⟨rfl, bT1, k1⟩
  have hbbw := bB.lt
  have hgl := g.lt
  have hst : ∀ (wr : World), Kept (fun k => w.heap.size ≤ k) w1 wr → Kept (fun k => k = tb ∨ w.heap.size ≤ k) w wr := fun _ h => (k1.mono (fun _ _ h => .inl h)).trans (h.mono (fun _ _ h => .inr h))
  have hoK : ∀ (wr : World) (sI : Option Addr) (nI cI : Nat) (LI : List E), Kept (fun k => w.heap.size ≤ k) w1 wr → w.ownsRow base 90 41 (.slice sI nI cI) nI (flat LI) → wr.ownsRow base 90 41 (.slice sI nI cI) nI (flat LI) := fun wr _ _ _ _ h ho' =>
    (hst wr h).own ho' (fun q hq hh => by
      have hlt : q < w.heap.size := by
        rcases ho'.2 with ⟨h, _⟩ | ⟨g2, c2, cu, h, _, hb, _⟩
        · rw [h] at hq; cases hq
        · rw [h] at hq; cases hq; exact (Array.getElem?_eq_some_iff.1 hb).1
      rcases hh with hh | hh
      · exact own_ne ho' bT (by decide) (by rw [hq, hh])
      · omega)
  have hbK : ∀ (wr : World), Kept (fun k => w.heap.size ≤ k) w1 wr → Blk wr bb (bks two (.slice sa n cap) wt) 81 := fun wr h => (hst wr h).blk bB (fun hh => hh.elim hbt (fun h => by omega))
  have hgK : ∀ (wr : World), Kept (fun k => w.heap.size ≤ k) w1 wr → Gl wr z4 z6 := fun wr h => g.kept (hst wr h) ⟨fun hh => hh.elim (Ne.symm hgt.1) (by omega), fun hh => hh.elim (Ne.symm hgt.2.1) (by omega), fun hh => hh.elim (Ne.symm hgt.2.2.1) (by omega), fun hh => hh.elim (Ne.symm hgt.2.2.2.1) (by omega), fun hh => hh.elim (Ne.symm hgt.2.2.2.2) (by omega)⟩
  have HOK := hide hoK
  have HBK := hide hbK
  have HGK := hide hgK
  clear hst hoK hbK hgK
  have c33 := (bT1.cell 33).trans (tab_bs ..)
  have hsz1 := k1.size
  replace k1 := hide k1
  have hnb : ((nbk two : Nat) : Int) ≤ 2 := by cases two <;> simp [nbk]
  go_wp2_with fail
  go_loopw [20, 3] (fun iv av wr => ∃ (i : Nat), iv = .int .i64 i ∧ i ≤ nbk two ∧ wr.ownsRow w.heap.size 50 24 av (if i = 0 then [] else L).length (cflat z4 (if i = 0 then [] else L)) ∧ Kept (fun k => w.heap.size ≤ k) w1 wr) (fun iv _ _ => nbk two - (intOf iv).toNat)
  case atStart => exact ⟨0, rfl, by omega, World.ownsRow_nil _ _ _ _, Kept.refl _ _⟩
  case round =>
    obtain ⟨i, rfl, hi, oA, kr⟩ := hrel
    by_cases hlt : i < nbk two
    · have hli : (i : Int) < nbk two := by omega
      obtain ⟨sI, nI, cI, wI, LI, hext, hnI, hLI, hown⟩ := bks_at base two sa n cap wt L hn i hlt
      have oIw := hown w ho
      have oI := HOK.out _ _ _ _ _ kr oIw
      have bBr := HBK.out _ kr
      have cb : (wr.alloc (.cells (bkt (.slice sI nI cI) wI) 81)).cell? ⟨wr.heap.size, 0, none⟩ = some (.slice sI nI cI) := (Blk.new wr (bkt (.slice sI nI cI) wI) 81).cell 0
      generalize hM : (if i = 0 then [] else L) = M at *
      have hML : M.length ≤ L.length := by rw [← hLI]; simp
      clear hown
      go_wp2_with (first | (refine wpList_load_blk rfl 81 _ rfl bb (i * 5) 5 rfl bBr (bkt (.slice sI nI cI) wI) hext (by kernel_rfl) (by kernel_rfl) ?_; simp only [Act.put, List.setIfInBounds_toArray, List.set_cons_zero, List.set_cons_succ]) | (refine wpList_store_new rfl 81 _ _ rfl (bkt (.slice sI nI cI) wI) rfl rfl (by kernel_rfl) (by kernel_rfl) (by kernel_rfl) ?_; simp only [Act.put]))
      generalize hU : wr.alloc (.cells (bkt (.slice sI nI cI) wI) 81) = U
      have kU : Kept (fun _ => False) wr U := by rw [← hU]; exact (Kept.refl _ _).alloc _
      have k1U : Hid (Kept (fun k => w.heap.size ≤ k) w1 U) := hide (kr.trans (kU.mono (by simp)))
      have oAU := kU.own oA (fun _ _ h => h)
      obtain ⟨sI', cI', hsv, hsI⟩ := own_form oI
      have hsI : 0 < nI → ∃ g, sI = some ⟨g, 0, none⟩ := by cases hsv; exact hsI
      have hlnI : LI.length = nI := by have := oI.1; rw [flat_length] at this; omega
      have hsU : w.heap.size ≤ U.heap.size := by have := kr.size; have := kU.size; omega
      clear hU cb kr oI oA hsv bBr kU
      replace hM := hide hM
      replace hLI := hide hLI
      go_loopw [27, 3] (fun jv av wr => ∃ (k : Nat), jv = .int .i64 k ∧ k ≤ nI ∧ wr.ownsRow w.heap.size 50 24 av (M.length + k) (cflat z4 (M ++ LI.take k)) ∧ Kept (fun k => w.heap.size ≤ k) w1 wr) (fun jv _ _ => nI - (intOf jv).toNat)
      case atStart => exact ⟨0, rfl, by omega, by simpa using oAU, k1U.out⟩
      case round =>
        clear oAU
        obtain ⟨k, rfl, hk, oA, k2⟩ := hrel
        have oL := HOK.out _ _ _ _ _ k2 oIw
        by_cases hltk : k < nI
        · have hki : (k : Int) < nI := by omega
          obtain ⟨gI, rfl⟩ := hsI (by omega)
          obtain ⟨cur, bG, _, _, _, _, hext2⟩ := own_blk oL
          obtain ⟨x, hx⟩ : ∃ x, LI[k]? = some x := ⟨LI[k]'(by omega), List.getElem?_eq_getElem (by omega)⟩
          have hxL : x ∈ L := by rw [← hLI.out]; exact List.mem_append_right _ (List.mem_of_getElem? hx)
          have hxo := hok x hxL
          have hcut2 := hext2 k x hx
          have gw := HGK.out _ k2
          obtain ⟨av, acap, rfl, _⟩ := own_form oA
          clear hext2
          go_wp2_with (first | (refine wpList_load_blk rfl 90 _ rfl gI (k * 41) 41 rfl bG x.v hcut2 (by kernel_rfl) (by kernel_rfl) ?_; simp only [Act.put, List.setIfInBounds_toArray, List.set_cons_zero, List.set_cons_succ]) | (refine wpList_store_new rfl 90 _ _ rfl (x.v) rfl rfl (by kernel_rfl) (by kernel_rfl) (by kernel_rfl) ?_; simp only [Act.put]) | (refine wpList_load_blk rfl 90 _ rfl (wr.heap.size) 0 41 rfl (Blk.new wr x.v 90) (ent x.a x.b x.ip x.p) (by kernel_rfl) (by kernel_rfl) (by kernel_rfl) ?_; simp only [Act.put, List.setIfInBounds_toArray, List.set_cons_zero, List.set_cons_succ]))
          refine (contact_any x.a x.b x.ip x.p hxo.2.2.1.1 hxo.2.2.1.2 hxo.2.2.2.1 hxo.2.2.2.2 _ (gw.mono ((Kept.refl _ _).alloc _))).mono ?_
          rintro e w4 ⟨rfl, k4⟩
          have k24 : Kept (fun _ => False) wr w4 := ((Kept.refl _ _).alloc _).trans k4
          have oA4 := k24.own oA (fun _ _ h => h)
          have k14 : Hid (Kept (fun k => w.heap.size ≤ k) w1 w4) := hide (k2.trans (k24.mono (by simp)))
          have hs4 : w.heap.size ≤ w4.heap.size := by have := k14.out.size; omega
          obtain ⟨i50, hi50, hz0, hz1, hz2⟩ := info_parts info50
          have oA5 : (w4.alloc (.cells (con (some z4) x.a x.b x.ip x.p) 50)).ownsRow w.heap.size 50 24 _ _ _ := ((Kept.refl (fun _ => False) w4).alloc _).own oA4 (fun _ _ h => h)
          have hnews : ∀ (j : Nat) (u : Value), (con (some z4) x.a x.b x.ip x.p).toList[j]? = some u → (w4.alloc (.cells (con (some z4) x.a x.b x.ip x.p) 50)).cell? ((⟨w4.heap.size, 0, none⟩ : Addr).add j) = some u := fun j u hu => by rw [Addr.add_mid, Nat.zero_add, (Blk.new w4 (con (some z4) x.a x.b x.ip x.p) 50).cell, ← Array.getElem?_toList]; exact hu
          replace oA5 := hide oA5
          replace hnews := hide hnews
          clear bG hcut2 gw k4 oA oL k24 k2 oA4
          have hz24 : (M.length + k) + 1 ≤ maxLen := by unfold maxLen; omega
          have hz25 : ((M.length + k) + 1) * 56 ≤ 140737488355328 := by omega
          have hz26 : w.heap.size ≤ (w4.alloc (.cells (con (some z4) x.a x.b x.ip x.p) 50)).heap.size := by simp; omega
          go_wp2_with (first | (refine wpList_slice50 rfl _ rfl (some z4) x.a x.b x.ip x.p rfl ?_; simp only [Act.put, List.setIfInBounds_toArray, List.set_cons_zero, List.set_cons_succ]) | (at_builtin; refine wpList_append_lies _ rfl _ _ 55 rfl w.heap.size 50 i50 _ 24 56 Ybaz.underlying55 hi50 hz0 hz1 hz2 (by kernel_rfl) (by decide) _ (M.length + k) _ rfl oA5.out ⟨w4.heap.size, 0, none⟩ 1 1 (con (some z4) x.a x.b x.ip x.p).toList rfl (by kernel_rfl) hnews.out (con_one _ _ _ _ _) (by decide) hz24 hz25 hz26 _ rfl ?_))
          intro gN cN w5 own5 grow5 hat5 hlt5
          have k5 : Kept (fun q => (Value.slice av (M.length + k) acap).ownBlock = some q) w4 w5 := ((Kept.refl _ _).alloc _).grown grow5 (fun _ _ e => e)
          have k15 : Hid (Kept (fun k => w.heap.size ≤ k) w1 w5) := hide (k14.out.trans (k5.mono (fun q _ h => by
            rcases oA5.out.2 with ⟨h', _⟩ | ⟨g2, c2, cu, h', hb, _⟩
            · rw [h'] at h; cases h
            · rw [h'] at h; cases h; exact hb)))
          clear k5 k14 grow5 hat5 hlt5 hnews oA5
          go_wp2
          go_roundw
          case rel =>
            have htk : LI.take (k + 1) = LI.take k ++ [x] := by rw [List.take_add_one, hx]; rfl
            refine ⟨k + 1, by go_num, by omega, ?_, k15.out⟩
            have hcf : cflat z4 (M ++ LI.take (k + 1)) = cflat z4 (M ++ LI.take k) ++ (con (some z4) x.a x.b x.ip x.p).toList := by
              rw [htk, ← List.append_assoc, cflat_append z4 (M ++ LI.take k)]; simp [cflat, E.c]
            rw [hcf]
            exact own5
          case measure => simp [intOf]; omega
        · have hkn : k = nI := by omega
          subst hkn
          rw [← hlnI, List.take_length, hLI.out] at oA
          have hLn : M.length + LI.length = L.length := by rw [← hLI.out]; simp
          rw [hLn] at oA
          obtain ⟨av, acap, rfl, _⟩ := own_form oA
          go_wp2
          go_roundw
          case rel => exact ⟨i + 1, by go_num, by omega, by simpa using oA, k2⟩
          case measure => simp [intOf]; omega
    · have hin : i = nbk two := by omega
      have hi0 : i ≠ 0 := by rw [hin]; cases two <;> simp [nbk]
      have hnl : ¬ ((i : Int) < nbk two) := by omega
      rw [if_neg hi0] at oA
      obtain ⟨av, acap, rfl, _⟩ := own_form oA
      have bTr : Blk wr tb _ 74 := kr.blk bT1 (by have := bT.lt; omega)
      clear hin
      go_wp2
      refine leaves_cons (f := 12) (args := #[.pointer (some ⟨tb, 31, none⟩)]) (by simp) (by simp [go_sem]) ?_
      refine (unlock_tab tb _ _ _ _ _ _ _ _ .returning _ bTr).mono ?_
      rintro e u' w9 ⟨rfl, rfl, bT9, k9⟩
      refine ⟨_, results_tmp rfl _ _ _, .slice av L.length acap, rfl, k9.own oA (fun q hq hh => own_ne oA bTr (by decide) (by rw [hq, hh])), ?_⟩
      exact (k1.out.trans' kr (fun q hq h => by omega)).trans k9
end Go.Proofs.YbulkdbdsGreatDoor
