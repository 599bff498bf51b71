import Derived.Test.YbulkdbdsGreatDoorEql
import Derived.Test.YbulkdbdsGreatDoorFind
import Derived.Deep.CutRange
namespace Go.Proofs.YbulkdbdsGreatDoor
open Go.RowKit Go.HeadTail
attribute [local go_sem] yields yUpon

/-- a bucket; the one or two of a table -/
def bkt (cv : Value) (wt : Option Addr) : Array Value := #[cv, .pointer wt, .int .i64 (-9223372036854775808), .int .i64 0, .int .u32 0]
def bks (two : Bool) (cv : Value) (wt : Option Addr) : Array Value := if two then bkt cv wt ++ bkt (.slice none 0 0) none else bkt cv wt
def nbk (two : Bool) : Nat := if two then 2 else 1
theorem bks_at (base : Nat) (two : Bool) (sa : Option Addr) (n cap : Nat) (wt : Option Addr) (L : List E) (hn : n ≤ 1000) (i : Nat) (hi : i < nbk two) :
    ∃ (sI : Option Addr) (nI cI : Nat) (wI : Option Addr) (LI : List E), (bks two (.slice sa n cap) wt).extract (i * 5) (i * 5 + 5) = bkt (.slice sI nI cI) wI ∧ nI ≤ 1000 ∧ (if i = 0 then [] else L) ++ LI = L ∧
      ∀ w : World, w.ownsRow base 90 41 (.slice sa n cap) n (flat L) → w.ownsRow base 90 41 (.slice sI nI cI) nI (flat LI) := by
  rcases i with _ | i
  · refine ⟨sa, n, cap, wt, L, ?_, hn, by simp, fun _ h => h⟩
    cases two <;> kernel_rfl
  · have htwo : two = true := by cases two <;> simp [nbk] at hi ⊢
    subst htwo
    have h0 : i = 0 := by simp [nbk] at hi; omega
    subst h0
    exact ⟨none, 0, 0, none, [], by kernel_rfl, by omega, by simp, fun w _ => World.ownsRow_nil _ _ _ _⟩
abbrev Z4 : Array Value := #[.int .u64 0, .int .u64 0, .pointer none, .int .u16 0]

set_option maxRecDepth 100000 in
set_option maxHeartbeats 6400000 in
theorem holds_any (base tb bb : Nat) (L : List E) (two : Bool) (sa : Option Addr) (n cap bc : Nat) (wt : Option Addr) (sfa sfb kk : Int) (cv : Value) (least most mu : Int) (s : Nat → Int) (ip p : Int) (h0 : 0 ≤ ip) (h1 : ip < 256)
    {z4 z6 : Addr} (w : World) (g : Gl w z4 z6) (hn : n ≤ 1000) (hok : ∀ e ∈ L, e.ok) (hsk : SkOk s L)
    (bT : Blk w tb (tabv sfa sfb kk cv least most mu (.slice (some ⟨bb, 0, none⟩) (nbk two) bc) s) 74)
    (bB : Blk w bb (bks two (.slice sa n cap) wt) 81) (ho : w.ownsRow base 90 41 (.slice sa n cap) n (flat L)) :
    Calls Ybaz.prog 20 #[.pointer (some ⟨tb, 0, none⟩), .agg (ap (some z4) ip p)] w fun e w' => e = .returned (.bool (L.any fun x => x.ip == ip)) ∧ (∃ s', SkOk s' L ∧ Blk w' tb (tabv sfa sfb kk cv least most mu (.slice (some ⟨bb, 0, none⟩) (nbk two) bc) s') 74) ∧ Kept (fun k => k = tb) w w' := by
  go_enter Ybaz.func20, Ybaz.ntmps20
  go_wp2_with fail
  generalize hW : w.alloc (.cells (ap (some z4) ip p) 47) = W
  have kW : Kept (fun _ => False) w W := by rw [← hW]; exact (Kept.refl _ _).alloc _
  have bI : Blk W w.heap.size (ap (some z4) ip p) 47 := by rw [← hW]; exact Blk.new _ _ _
  have bT1 := kW.blk bT id
  have g1 := g.mono kW
  clear hW
  replace kW := hide kW
  go_cut [5] from 12 to 17 (fun v w' => ∃ bH, v = .pointer (some ⟨bH, 0, none⟩) ∧ Blk w' bH (ap (some z4) ip 0) 47 ∧ W.heap.size ≤ bH ∧ Kept (fun _ => False) W w')
  case first =>
    obtain ⟨X, f, hne, hf, hto⟩ := cls (Kept (fun _ => False) W) (World.drew W) (Kept.refl _ _).drew
    have HC := hide (hto _ (Kept.refl _ W).drew)
    have Hto := hide hto
    clear hto
    have lsh : ∀ x, (f x).cell? ⟨tb, 28, none⟩ = some (.bool false) := fun x => (((hf x).blk bT1 id).cell 28).trans (tab_shared ..)
    refine wp_region_float (fun w' => ∃ x, w' = f x) 6 _ [(0, 0), (0, 1), (0, 2), (0, 3), (0, 4), (1, 5), (2, 6), (3, 7)] (by kernel_rfl) rfl rfl (by kernel_rfl) (fun _ _ _ _ _ h => h) ?_
    simp only [pickF, List.getElem?_cons_zero, List.getElem?_cons_succ]
    refine wpF_load_blk HC.out rfl 47 _ rfl (w.heap.size) 0 4 rfl (fun w' hw' => by obtain ⟨x, rfl⟩ := hw'; exact (hf x).blk bI id) (ap (some z4) ip p) (by kernel_rfl) (by kernel_rfl) (by kernel_rfl) ?_
    iterate 4
      refine wpF_quiet HC.out (fun K hK => ?_)
      go_simp
      refine hK _ ?_
      clear hK K
    refine wpF_fork (fun K hK => ?_) (fun K hK => ?_)
    · go_simp
      refine (host_any ip p _ (g1.mono (Kept.refl _ _).drew)).mono ?_
      rintro e w1 ⟨rfl, k1⟩
      refine hK _ _ (Hto.out _ k1.ofDrew) ?_
      clear hK K
      clear HC
      have HC := hide (Hto.out _ k1.ofDrew)
      refine wpF_now (fun K hK => ?_)
      go_simp
      refine hK _ _ (Hto.out _ (k1.ofDrew.alloc _)) ?_
      clear hK K
      simp only [toSeq]
      refine gen_seq Z4 (by kernel_rfl) (fun w3 k3 b3 _ => ?_)
      have k4 : Kept (fun _ => False) W (w3.setCells w1.heap.size 0 (ap (some z4) ip 0).toList) := Kept.setCells _ _ (k1.ofDrew.trans k3) (fun h => absurd k1.ofDrew.size (by omega))
      refine wpSeq_store_blk rfl 47 _ _ rfl (w1.heap.size) 0 (ap (some z4) ip 0) rfl rfl b3 (by kernel_rfl) (by kernel_rfl) (by kernel_rfl) (Hto.out _ k4) ?_
      refine wpSeq_nil ?_
      go_wp2_with fail
      go_meet
      case rel => exact ⟨_, rfl, b3.setAll _ (by kernel_rfl), k1.ofDrew.size, k4⟩
    · go_simp
      refine hK _ _ (Hto.out _ ((Kept.refl _ _).drew.alloc _)) ?_
      clear hK K
      simp only [toSeq]
      refine gen_seqD Z4 (by kernel_rfl) (fun w3 k3 b3 _ => ?_)
      refine wpSeq_forced (fun K hK => ?_)
      go_simp
      refine (host_any ip p _ (g1.mono k3)).mono ?_
      rintro e w1 ⟨rfl, k1⟩
      have kq := k3.trans k1
      refine hK _ _ (Hto.out _ kq) ?_
      clear hK K
      clear HC
      have HC := hide (Hto.out _ kq)
      have b3 := k1.blk b3 id
      have k4 : Kept (fun _ => False) W (w1.setCells W.heap.size 0 (ap (some z4) ip 0).toList) := Kept.setCells _ _ kq (fun h => absurd h (by omega))
      refine wpSeq_store_blk rfl 47 _ _ rfl (W.heap.size) 0 (ap (some z4) ip 0) rfl rfl b3 (by kernel_rfl) (by kernel_rfl) (by kernel_rfl) (Hto.out _ k4) ?_
      refine wpSeq_nil ?_
      go_wp2_with fail
      go_meet
      case rel => exact ⟨_, rfl, b3.setAll _ (by kernel_rfl), Nat.le_refl _, k4⟩
  case rest =>
    obtain ⟨bH, rfl, bH1, hbH, kc⟩ := hcut
    have kk2 := hide (kW.out.trans kc)
    clear kW bT1 bI g1 kc hbH
    have bT2 := kk2.out.blk bT id
    go_wp2_with fail
    obtain ⟨X, f, hne, hf, hto⟩ := cls (Kept (fun _ => False) wc) (World.drew wc) (Kept.refl _ _).drew
    have HC := hide (hto _ (Kept.refl _ wc).drew)
    have Hto := hide hto
    clear hto
    refine wp_region_seq (fun w' => ∃ x, w' = f x) [(true, 0), (true, 1), (true, 2), (true, 3), (false, 4), (true, 5)] (by kernel_rfl) (by kernel_rfl) (fun _ _ _ _ _ h => h) ?_
    simp only [pickS, List.getElem?_cons_zero, List.getElem?_cons_succ]
    iterate 3
      refine wpSeq_quiet HC.out (fun K hK => ?_)
      go_simp
      refine hK _ ?_
      clear hK K
    refine wpSeq_load_blk HC.out rfl 47 _ rfl (bH) 0 4 rfl (fun w' hw' => by obtain ⟨x, rfl⟩ := hw'; exact (hf x).blk bH1 id) (ap (some z4) ip 0) (by kernel_rfl) (by kernel_rfl) (by kernel_rfl) ?_
    refine wpSeq_forced (fun K hK => ?_)
    go_simp
    refine (may_any tb 34 ip (s (sw ip)) h0 h1 _ ((bT2.drew.cell _).trans (tab_w _ _ _ _ _ _ _ _ _ _ (sw_bd ip)))).mono ?_
    rintro e w3 ⟨rfl, k3⟩
    refine hK _ _ (Hto.out _ k3.ofDrew) ?_
    clear hK K
    clear HC
    have HC := hide (Hto.out _ k3.ofDrew)
    iterate 1
      refine wpSeq_quiet HC.out (fun K hK => ?_)
      go_simp
      refine hK _ ?_
      clear hK K
    have kk3 := hide (kk2.out.trans k3.ofDrew)
    have bH3 := k3.blk bH1.drew id
    clear k3 kk2 bT2 bH1
    refine wpSeq_nil ?_
    clear  Hto HC hf hne f X
    by_cases hm : isSet (s (sw ip)) ip = true
    · rw [hm]
      simp only [Bool.not_true]
      clear hm
      have bT4 : ∀ o : Obj, Blk (w3.alloc o) tb _ 74 := fun o => (kk3.out.blk bT id).alloc o
      have c33 := fun o => ((bT4 o).cell 33).trans (tab_bs ..)
      clear bT4
      go_wp2_with fail
      generalize hV : w3.alloc (.cells #[.int .u64 0, .int .u64 0, .int .u64 0, .int .u64 0, .int .u64 0, .int .u64 0, .int .u64 0, .int .u64 0] 72) = V
      have kV : Kept (fun _ => False) w3 V := by rw [← hV]; exact (Kept.refl _ _).alloc _
      have bF : Blk V w3.heap.size (skv fun _ => 0) 72 := by rw [← hV]; exact Blk.new _ _ _
      have kwV := hide (kk3.out.trans kV)
      have bHV := kV.blk bH3 id
      have hfb : w.heap.size ≤ w3.heap.size := kk3.out.size
      have hbHf : bH < w3.heap.size := bH3.lt
      generalize w3.heap.size = fb at *
      clear hV c33 kV kk3 bH3
      have hnb : ((nbk two : Nat) : Int) ≤ 2 := by cases two <;> simp [nbk]
      go_loopw [29] (fun iv wr => ∃ (i : Nat) (s' : Nat → Int), iv = .int .i64 i ∧ i ≤ nbk two ∧ SkOk s' (if i = 0 then [] else L) ∧ (∀ e ∈ (if i = 0 then [] else L), e.ip ≠ ip) ∧ Blk wr fb (skv s') 72 ∧ Kept (fun k => k = fb) V wr) (fun iv _ => nbk two - (intOf iv).toNat)
      case atStart => exact ⟨0, _, rfl, by omega, SkOk.zero, by simp, bF, Kept.refl _ _⟩
      case round =>
        obtain ⟨i, s', rfl, hi, hs', hne', bFr, kr⟩ := hrel
        by_cases hlt : i < nbk two
        · have hli : (i : Int) < nbk two := by omega
          obtain ⟨sI, nI, cI, wI, LI, hext, hnI, hLI, hown⟩ := bks_at base two sa n cap wt L hn i hlt
          have kwr := hide (kwV.out.trans' kr (T := fun k => k = fb) (S := fun _ => False) (by rintro x hx rfl; omega))
          have oI := hown wr (kwr.out.own ho (fun _ _ h => h))
          have bBr := kwr.out.blk bB id
          have hbH : bH < wr.heap.size := Nat.lt_of_lt_of_le bHV.lt kr.size
          have cb : (wr.alloc (.cells (bkt (.slice sI nI cI) wI) 81)).cell? ⟨wr.heap.size, 0, none⟩ = some (.slice sI nI cI) := (Blk.new wr (bkt (.slice sI nI cI) wI) 81).cell 0
          generalize hM : (if i = 0 then [] else L) = M at *
          clear hown
          go_wp2_with (first | (refine wpList_load_blk rfl 81 _ rfl bb (i * 5) 5 rfl bBr (bkt (.slice sI nI cI) wI) hext (by kernel_rfl) (by kernel_rfl) ?_; simp only [Act.put, List.setIfInBounds_toArray, List.set_cons_zero, List.set_cons_succ]) | (refine wpList_store_new rfl 81 _ _ rfl (bkt (.slice sI nI cI) wI) rfl rfl (by kernel_rfl) (by kernel_rfl) (by kernel_rfl) ?_; simp only [Act.put]))
          generalize hU : wr.alloc (.cells (bkt (.slice sI nI cI) wI) 81) = U
          have kU : Kept (fun _ => False) wr U := by rw [← hU]; exact (Kept.refl _ _).alloc _
          have bFU := kU.blk bFr id
          have kVU := hide (kr.trans (kU.mono (T := fun k => k = fb) (by simp)))
          have kwU := hide (kwr.out.trans kU)
          have oU := kU.own oI (fun _ _ h => h)
          obtain ⟨sI', cI', hsv, hsI⟩ := own_form oI
          have hsI : 0 < nI → ∃ g, sI = some ⟨g, 0, none⟩ := by cases hsv; exact hsI
          have hlnI : LI.length = nI := by have := oI.1; rw [flat_length] at this; omega
          have hgf := own_ne oU bFU (by decide)
          clear hU cb kr kwr bFr oI hsv bBr kU
          replace hM := hide hM
          replace hLI := hide hLI
          go_loopw [36] (fun jv w2 => ∃ (k : Nat) (s2 : Nat → Int), jv = .int .i64 k ∧ k ≤ nI ∧ SkOk s2 (M ++ LI.take k) ∧ (∀ e ∈ LI.take k, e.ip ≠ ip) ∧ Blk w2 fb (skv s2) 72 ∧ Kept (fun k => k = fb) U w2) (fun jv _ => nI - (intOf jv).toNat)
          case atStart => exact ⟨0, s', rfl, by omega, by simpa using hs', by simp, bFU, Kept.refl _ _⟩
          case round =>
            clear bFU
            obtain ⟨k, s2, rfl, hk, hs2, hne2, bF2, k2⟩ := hrel
            by_cases hltk : k < nI
            · have hki : (k : Int) < nI := by omega
              obtain ⟨gI, rfl⟩ := hsI (by omega)
              have kwr := hide (kwU.out.trans' k2 (T := fun k => k = fb) (S := fun _ => False) (by rintro x hx rfl; omega))
              obtain ⟨cur, bG, _, _, _, _, hext2⟩ := own_blk (k2.own oU (fun q hq hf => hgf (by rw [hq, hf])))
              obtain ⟨x, hx⟩ : ∃ x, LI[k]? = some x := ⟨LI[k]'(by omega), List.getElem?_eq_getElem (by omega)⟩
              have hxL : x ∈ L := by rw [← hLI.out]; exact List.mem_append_right _ (List.mem_of_getElem? hx)
              have hxo := hok x hxL
              have hcut2 := hext2 k x hx
              have bH2 : Blk wr bH (ap (some z4) ip 0) 47 := k2.blk (kVU.out.blk bHV (by omega)) (by omega)
              have gw := g.mono kwr.out
              have bTw := kwr.out.blk bT id
              replace hs2 := hide hs2
              replace hne2 := hide hne2
              replace k2 := hide k2
              clear hext2
              go_wp2_with (first | (refine wpList_load_blk rfl 90 _ rfl gI (k * 41) 41 rfl bG x.v hcut2 (by kernel_rfl) (by kernel_rfl) ?_; simp only [Act.put, List.setIfInBounds_toArray, List.set_cons_zero, List.set_cons_succ]) | (refine wpList_store_new rfl 90 _ _ rfl (x.v) rfl rfl (by kernel_rfl) (by kernel_rfl) (by kernel_rfl) ?_; simp only [Act.put]))
              generalize hY : wr.alloc (.cells x.v 90) = Y
              have kY : Kept (fun _ => False) wr Y := by rw [← hY]; exact (Kept.refl _ _).alloc _
              have bX : Blk Y wr.heap.size (ent x.a x.b x.ip x.p) 90 := by rw [← hY]; exact Blk.new _ _ _
              have bTY := kY.blk bTw id
              have gY := gw.mono kY
              clear hY bG hcut2
              go_cut [11] from 40 to 47 (fun v w' => ∃ bA, v = .pointer (some ⟨bA, 0, none⟩) ∧ Blk w' bA (ap (some z4) x.ip 0) 47 ∧ Kept (fun _ => False) Y w')
              case first =>
                obtain ⟨X, f, hne, hf, hto⟩ := cls (Kept (fun _ => False) Y) (World.drew Y) (Kept.refl _ _).drew
                have HC := hide (hto _ (Kept.refl _ Y).drew)
                have Hto := hide hto
                clear hto
                have lsh : ∀ x, (f x).cell? ⟨tb, 28, none⟩ = some (.bool false) := fun x => (((hf x).blk bTY id).cell 28).trans (tab_shared ..)
                refine wp_region_float (fun w' => ∃ x, w' = f x) 8 _ [(0, 0), (0, 1), (0, 3), (0, 4), (0, 5), (0, 6), (1, 2), (1, 7), (2, 8), (3, 9)] (by kernel_rfl) rfl rfl (by kernel_rfl) (fun _ _ _ _ _ h => h) ?_
                simp only [pickF, List.getElem?_cons_zero, List.getElem?_cons_succ]
                iterate 6
                  refine wpF_quiet HC.out (fun K hK => ?_)
                  go_simp
                  refine hK _ ?_
                  clear hK K
                refine wpF_fork (fun K hK => ?_) (fun K hK => ?_)
                · go_simp
                  refine (compact_any wr.heap.size 20 x.ip x.p hxo.2.2.1.1 hxo.2.2.1.2 hxo.2.2.2.1 hxo.2.2.2.2 _ (gY.mono (Kept.refl _ _).drew) _ _ bX.drew (ent_a18 _ _ _ _)).mono ?_
                  rintro e w4 ⟨rfl, k4⟩
                  refine hK _ _ (Hto.out _ k4.ofDrew) ?_
                  clear hK K
                  clear HC
                  have HC := hide (Hto.out _ k4.ofDrew)
                  refine wpF_fork (fun K hK => ?_) (fun K hK => ?_)
                  · go_simp
                    refine (host_any x.ip x.p _ (gY.mono k4.ofDrew)).mono ?_
                    rintro e w5 ⟨rfl, k5⟩
                    have kq := k4.ofDrew.trans k5
                    refine hK _ _ (Hto.out _ kq) ?_
                    clear hK K
                    clear HC
                    have HC := hide (Hto.out _ kq)
                    refine wpF_now (fun K hK => ?_)
                    go_simp
                    refine hK _ _ (Hto.out _ (kq.alloc _)) ?_
                    clear hK K
                    simp only [toSeq]
                    refine gen_seq Z4 (by kernel_rfl) (fun w6 k6 b6 _ => ?_)
                    have k7 : Kept (fun _ => False) Y (w6.setCells w5.heap.size 0 (ap (some z4) x.ip 0).toList) := Kept.setCells _ _ (kq.trans k6) (fun h => absurd kq.size (by omega))
                    refine wpSeq_store_blk rfl 47 _ _ rfl (w5.heap.size) 0 (ap (some z4) x.ip 0) rfl rfl b6 (by kernel_rfl) (by kernel_rfl) (by kernel_rfl) (Hto.out _ k7) ?_
                    refine wpSeq_nil ?_
                    go_wp2_with fail
                    go_meet
                    case rel => exact ⟨_, rfl, b6.setAll _ (by kernel_rfl), k7⟩
                  · go_simp
                    refine hK _ _ (Hto.out _ (k4.ofDrew.alloc _)) ?_
                    clear hK K
                    simp only [toSeq]
                    refine gen_seq Z4 (by kernel_rfl) (fun w6 k6 b6 _ => ?_)
                    refine wpSeq_forced (fun K hK => ?_)
                    go_simp
                    refine (host_any x.ip x.p _ (gY.mono (k4.ofDrew.trans k6))).mono ?_
                    rintro e w5 ⟨rfl, k5⟩
                    have kq := k4.ofDrew.trans (k6.trans k5)
                    refine hK _ _ (Hto.out _ kq) ?_
                    clear hK K
                    clear HC
                    have HC := hide (Hto.out _ kq)
                    have b6 := k5.blk b6 id
                    have k7 : Kept (fun _ => False) Y (w5.setCells w4.heap.size 0 (ap (some z4) x.ip 0).toList) := Kept.setCells _ _ kq (fun h => absurd k4.ofDrew.size (by omega))
                    refine wpSeq_store_blk rfl 47 _ _ rfl (w4.heap.size) 0 (ap (some z4) x.ip 0) rfl rfl b6 (by kernel_rfl) (by kernel_rfl) (by kernel_rfl) (Hto.out _ k7) ?_
                    refine wpSeq_nil ?_
                    go_wp2_with fail
                    go_meet
                    case rel => exact ⟨_, rfl, b6.setAll _ (by kernel_rfl), k7⟩
                · go_simp
                  refine hK _ _ (Hto.out _ ((Kept.refl _ _).drew.alloc _)) ?_
                  clear hK K
                  simp only [toSeq]
                  refine gen_seqD Z4 (by kernel_rfl) (fun w6 k6 b6 _ => ?_)
                  refine wpSeq_forced (fun K hK => ?_)
                  go_simp
                  refine (compact_any wr.heap.size 20 x.ip x.p hxo.2.2.1.1 hxo.2.2.1.2 hxo.2.2.2.1 hxo.2.2.2.2 _ (gY.mono k6) _ _ (k6.blk bX id) (ent_a18 _ _ _ _)).mono ?_
                  rintro e w4 ⟨rfl, k4⟩
                  refine hK _ _ (Hto.out _ (k6.trans k4)) ?_
                  clear hK K
                  clear HC
                  have HC := hide (Hto.out _ (k6.trans k4))
                  refine wpSeq_forced (fun K hK => ?_)
                  go_simp
                  refine (host_any x.ip x.p _ (gY.mono (k6.trans k4))).mono ?_
                  rintro e w5 ⟨rfl, k5⟩
                  have kq := k6.trans (k4.trans k5)
                  refine hK _ _ (Hto.out _ kq) ?_
                  clear hK K
                  clear HC
                  have HC := hide (Hto.out _ kq)
                  have b6 := k5.blk (k4.blk b6 id) id
                  have k7 : Kept (fun _ => False) Y (w5.setCells Y.heap.size 0 (ap (some z4) x.ip 0).toList) := Kept.setCells _ _ kq (fun h => absurd h (by omega))
                  refine wpSeq_store_blk rfl 47 _ _ rfl (Y.heap.size) 0 (ap (some z4) x.ip 0) rfl rfl b6 (by kernel_rfl) (by kernel_rfl) (by kernel_rfl) (Hto.out _ k7) ?_
                  refine wpSeq_nil ?_
                  go_wp2_with fail
                  go_meet
                  case rel => exact ⟨_, rfl, b6.setAll _ (by kernel_rfl), k7⟩
              case rest =>
                obtain ⟨bA, rfl, bA1, kc⟩ := hcut
                have kY2 := hide (kY.trans kc)
                have bH5 := kY2.out.blk bH2 id
                have bF5 := kY2.out.blk bF2 id
                have heq : ∀ w', (Op.equalIn 10000 47 (.agg (ap (some z4) x.ip 0)) (.agg (ap (some z4) ip 0))).run Ybaz.prog w' = .ok (x.ip == ip) w' := fun w' => (eq47' 9996 ..).trans (by simp)
                clear kY kc bX bTY gY bH2 bF2 gw
                by_cases hxi : x.ip = ip
                · have hxb : (x.ip == ip) = true := by simp [hxi]
                  rw [hxb] at heq
                  go_wp2_with (first | (refine wpList_load_blk rfl 47 _ rfl (bA) 0 4 rfl bA1 (ap (some z4) x.ip 0) (by kernel_rfl) (by kernel_rfl) (by kernel_rfl) ?_; simp only [Act.put, List.setIfInBounds_toArray, List.set_cons_zero, List.set_cons_succ]) | (refine wpList_load_blk rfl 47 _ rfl (bH) 0 4 rfl bH5 (ap (some z4) ip 0) (by kernel_rfl) (by kernel_rfl) (by kernel_rfl) ?_; simp only [Act.put, List.setIfInBounds_toArray, List.set_cons_zero, List.set_cons_succ]) | (refine wpList_eql rfl 47 _ _ _ rfl (ap (some z4) x.ip 0) (ap (some z4) ip 0) rfl rfl (by kernel_rfl) true (heq _) ?_; simp only [Act.put, List.setIfInBounds_toArray, List.set_cons_zero, List.set_cons_succ]))
                  go_ret
                  refine ⟨?_, ⟨s, hsk, (kwr.out.trans kY2.out).blk bT id⟩, (kwr.out.trans kY2.out).mono (by simp)⟩
                  show Ending.returned (.bool true) = _
                  rw [List.any_eq_true.2 ⟨x, hxL, hxb⟩]
                · have hxb : (x.ip == ip) = false := by simp [hxi]
                  rw [hxb] at heq
                  go_wp2_with (first | (refine wpList_load_blk rfl 47 _ rfl (bA) 0 4 rfl bA1 (ap (some z4) x.ip 0) (by kernel_rfl) (by kernel_rfl) (by kernel_rfl) ?_; simp only [Act.put, List.setIfInBounds_toArray, List.set_cons_zero, List.set_cons_succ]) | (refine wpList_load_blk rfl 47 _ rfl (bH) 0 4 rfl bH5 (ap (some z4) ip 0) (by kernel_rfl) (by kernel_rfl) (by kernel_rfl) ?_; simp only [Act.put, List.setIfInBounds_toArray, List.set_cons_zero, List.set_cons_succ]) | (refine wpList_eql rfl 47 _ _ _ rfl (ap (some z4) x.ip 0) (ap (some z4) ip 0) rfl rfl (by kernel_rfl) false (heq _) ?_; simp only [Act.put, List.setIfInBounds_toArray, List.set_cons_zero, List.set_cons_succ]))
                  refine (mark_any fb 0 x.ip (s2 (sw x.ip)) hxo.2.2.1.1 hxo.2.2.1.2 _ _ _ bF5 (by rw [Nat.zero_add]; exact skv_at _ _ (sw_bd _))).mono ?_
                  rintro e w8 ⟨rfl, bF8, k8⟩
                  rw [Nat.zero_add, skv_set _ _ (sw_bd _)] at bF8
                  go_wp2
                  go_roundw
                  case rel =>
                    have htk : LI.take (k + 1) = LI.take k ++ [x] := by rw [List.take_add_one, hx]; rfl
                    refine ⟨k + 1, smark s2 x.ip, by go_num, by omega, ?_, ?_, bF8, k2.out.trans ((kY2.out.mono (by simp)).trans k8)⟩
                    · rw [htk, ← List.append_assoc]; exact hs2.out.mark x
                    · rw [htk]
                      intro e he
                      rcases List.mem_append.1 he with he | he
                      · exact hne2.out e he
                      · simp at he; subst he; exact hxi
                  case measure => simp [intOf]; omega
            · have hkn : k = nI := by omega
              subst hkn
              have htk : LI.take LI.length = LI := List.take_length
              rw [← hlnI, htk] at hs2 hne2
              rw [hLI.out] at hs2
              clear hsI
              have kall := kVU.out.trans k2
              clear kVU k2 hgf oU
              go_wp2
              go_roundw
              case rel =>
                refine ⟨i + 1, s2, by go_num, by omega, by simpa using hs2, ?_, bF2, kall⟩
                simp only [Nat.add_eq_zero_iff, Nat.succ_ne_self, and_false, if_false]
                intro e he
                rw [← hLI.out] at he
                rcases List.mem_append.1 he with he | he
                · exact hne' e he
                · exact hne2 e he
              case measure => simp [intOf]; omega
        · have hin : i = nbk two := by omega
          have hi0 : i ≠ 0 := by rw [hin]; cases two <;> simp [nbk]
          rw [if_neg hi0] at hs'
          have kwr := hide (kwV.out.trans' kr (T := fun k => k = fb) (S := fun _ => False) (by rintro x hx rfl; omega))
          have bTr := kwr.out.blk bT id
          have hnl : ¬ ((i : Int) < nbk two) := by omega
          have hne'' : ∀ e ∈ L, e.ip ≠ ip := by rw [if_neg hi0] at hne'; exact hne'
          clear hne' kr bHV kwV hin
          go_wp2_with (first | (refine wpList_load_blk rfl 72 _ rfl (fb) 0 8 rfl bFr (skv s') (by kernel_rfl) (by kernel_rfl) (by kernel_rfl) ?_; simp only [Act.put, List.setIfInBounds_toArray, List.set_cons_zero, List.set_cons_succ]) | (refine wpList_store_blk rfl 72 _ _ rfl (tb) 34 (skv s') rfl rfl bTr (by kernel_rfl) (by kernel_rfl) (by kernel_rfl) ?_; simp only [Act.put]))
          go_ret
          refine ⟨?_, ⟨s', hs', ?_⟩, Kept.setCells _ _ (kwr.out.mono (by simp)) (fun _ => rfl)⟩
          · show Ending.returned (.bool false) = _
            have : (L.any fun x => x.ip == ip) = false := by
              rw [List.any_eq_false]
              intro x hx h
              exact hne'' x hx (by simpa using h)
            rw [this]
          · have := bTr.setCells (skv s').toList 34
            rw [tab_setsk] at this
            exact this
    · replace hm : isSet (s (sw ip)) ip = false := by simpa using hm
      rw [hm]
      go_wp2
      go_ret
      refine ⟨?_, ⟨s, hsk, kk3.out.blk bT id⟩, kk3.out.mono (by simp)⟩
      show Ending.returned (.bool false) = _
      have : (L.any fun x => x.ip == ip) = false := by
        rw [List.any_eq_false]
        intro x hx
        have := hsk.on x hx
        intro h
        simp at h
        rw [h, hm] at this
        cases this
      rw [this]
end Go.Proofs.YbulkdbdsGreatDoor
