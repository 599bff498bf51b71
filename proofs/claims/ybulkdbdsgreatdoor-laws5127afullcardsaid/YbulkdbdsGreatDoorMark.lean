import Derived.Test.YbulkdbdsGreatDoorSketch
namespace Go.Proofs.YbulkdbdsGreatDoor
open Go.RowKit Go.HeadTail
attribute [local go_sem] yields yUpon

/-- the host's bit is set in the word v -/
def isSet (v : Int) (ip : Int) : Bool := bits .and .u64 v ((2 ^ sb ip : Nat) : Int) != 0

set_option maxRecDepth 100000 in
set_option maxHeartbeats 1600000 in
theorem may_any (b o : Nat) (ip v : Int) (h0 : 0 ≤ ip) (h1 : ip < 256) {z4 : Addr} (w : World) (hc : w.cell? ⟨b, o + sw ip, none⟩ = some (.int .u64 v)) :
    Calls Ybaz.prog 31 #[.pointer (some ⟨b, o, none⟩), .agg (ap (some z4) ip 0)] w fun e w' => e = .returned (.bool (isSet v ip)) ∧ Kept (fun _ => False) w w' := by
  have hsw : (sw ip : Int) < 8 := by have := sw_bd ip; omega
  go_enter Ybaz.func31, Ybaz.ntmps31
  have bA : Blk (w.alloc (.cells (ap (some z4) ip 0) 47)) w.heap.size (ap (some z4) ip 0) 47 := Blk.new _ _ _
  have kA : Hid (Kept (fun _ => False) w (w.alloc (.cells (ap (some z4) ip 0) 47))) := hide ((Kept.refl _ _).alloc _)
  have hcW := cell_alloc hc (.cells (ap (some z4) ip 0) 47)
  go_wp2_with (first | refine wpList_load_blk rfl 47 _ rfl (w.heap.size) 0 4 rfl bA (ap (some z4) ip 0) (by kernel_rfl) (by kernel_rfl) (by kernel_rfl) ?_)
  generalize w.alloc (.cells (ap (some z4) ip 0) 47) = W at *
  refine (bit_any ip h0 h1 _).mono ?_
  rintro e w1 ⟨rfl, k1⟩
  have hc1 : w1.cell? ⟨b, o + sw ip, none⟩ = some (.int .u64 v) := by
    unfold World.cell? at hcW ⊢
    rw [k1.block b (block_lt_of_cell hcW) id]; exact hcW
  have kk := hide (kA.out.trans k1)
  clear k1 kA bA hcW hc
  go_wp2
  go_ret
  exact ⟨by simp [isSet], kk.out⟩

set_option maxRecDepth 100000 in
set_option maxHeartbeats 1600000 in
theorem mark_any (b o : Nat) (ip v : Int) (h0 : 0 ≤ ip) (h1 : ip < 256) {z4 : Addr} (w : World) (cs : Array Value) (t : TypeId) (hb : Blk w b cs t) (hc : cs[o + sw ip]? = some (.int .u64 v)) :
    Calls Ybaz.prog 22 #[.pointer (some ⟨b, o, none⟩), .agg (ap (some z4) ip 0)] w fun e w' => e = .returned (.tuple #[]) ∧ Blk w' b (cs.setIfInBounds (o + sw ip) (.int .u64 (bits .or .u64 v ((2 ^ sb ip : Nat) : Int)))) t ∧ Kept (fun k => k = b) w w' := by
  have hsw : (sw ip : Int) < 8 := by have := sw_bd ip; omega
  have hcW := (hb.cell (o + sw ip)).trans hc
  go_enter Ybaz.func22, Ybaz.ntmps22
  have bA : Blk (w.alloc (.cells (ap (some z4) ip 0) 47)) w.heap.size (ap (some z4) ip 0) 47 := Blk.new _ _ _
  have kA : Hid (Kept (fun _ => False) w (w.alloc (.cells (ap (some z4) ip 0) 47))) := hide ((Kept.refl _ _).alloc _)
  go_wp2_with (first | refine wpList_load_blk rfl 47 _ rfl (w.heap.size) 0 4 rfl bA (ap (some z4) ip 0) (by kernel_rfl) (by kernel_rfl) (by kernel_rfl) ?_)
  generalize w.alloc (.cells (ap (some z4) ip 0) 47) = W at *
  refine (bit_any ip h0 h1 _).mono ?_
  rintro e w1 ⟨rfl, k1⟩
  have kk := hide (kA.out.trans k1)
  have b1 := kk.out.blk hb id
  clear k1 kA bA hcW hb
  go_wp2_with fail
  have cv := (b1.cell (o + sw ip)).trans hc
  have fv := b1.frozen (o + sw ip)
  obtain ⟨X, f, hne, hf, hto⟩ := cls (fun w' => w' = World.drew w1) (World.drew w1) rfl
  have HC := hide (hto _ rfl)
  clear hto
  have hfc : ∀ x (a : Addr), (f x).cell? a = World.cell? w1 a := fun x a => by rw [hf x]; rfl
  have lv : ∀ x, (f x).cell? ⟨b, o + sw ip, none⟩ = some (.int .u64 v) := fun x => (hfc x _).trans cv
  clear hfc
  refine wp_region_headTail (fun w' => ∃ x, w' = f x) [0, 1, 2, 3, 4, 5, 6] [7, 8, 9] 9 (by kernel_rfl) (by kernel_rfl) (fun _ _ _ _ _ h => h) HC.out ?_
  simp only [pick, List.getElem?_cons_zero, List.getElem?_cons_succ, List.map_cons, List.map_nil]
  iterate 7
    refine wpHead_step (fun K hK => ?_)
    go_simp
    refine hK _ ?_
    clear hK K
  refine wpHead_nil ?_
  iterate 2
    refine wpTail_plain rfl (fun K hK => ?_)
    go_simp
    refine hK _ _ (fun _ => HC.out) ?_
    clear hK K
  refine wpTail_late _ _ _ (by simp) ?_
  simp only [List.map_cons, List.map_nil]
  clear lv HC hf hne f X
  go_wp2
  go_end0
  refine ⟨rfl, ?_, ?_⟩
  · exact (b1.drew).set _ _
  · exact (Kept.set (S := fun k => k = b) (p := ⟨b, o + sw ip, none⟩) (kk.out.mono (by simp)) (fun _ => rfl) _).drew
end Go.Proofs.YbulkdbdsGreatDoor
