import Derived.Test.YbulkdbdsGreatDoorTab
import Derived.Test.YbulkdbdsGreatDoorU64
namespace Go.Proofs.YbulkdbdsGreatDoor
open Go.RowKit Go.HeadTail
attribute [local go_sem] yields yUpon

set_option maxRecDepth 100000 in
set_option maxHeartbeats 1600000 in
theorem host_any (ip p : Int) {z4 z6 : Addr} (w : World) (g : Gl w z4 z6) :
    Calls Ybaz.prog 23 #[.agg (ap (some z4) ip p), .bool false] w fun e w' => e = .returned (.agg (ap (some z4) ip 0)) ∧ Kept (fun _ => False) w w' := by
  go_enter Ybaz.func23, Ybaz.ntmps23
  have kA : Kept (fun _ => False) w ((w.alloc (.cells (ap (some z4) ip p) 47)).alloc (.cells #[.int .u64 0, .int .u64 0, .pointer none, .int .u16 0] 47)) := ((Kept.refl _ _).alloc _).alloc _
  have bA : Blk ((w.alloc (.cells (ap (some z4) ip p) 47)).alloc (.cells #[.int .u64 0, .int .u64 0, .pointer none, .int .u16 0] 47)) w.heap.size (ap (some z4) ip p) 47 := (Blk.new _ _ _).alloc _
  have bR : Blk ((w.alloc (.cells (ap (some z4) ip p) 47)).alloc (.cells #[.int .u64 0, .int .u64 0, .pointer none, .int .u16 0] 47)) (w.heap.size + 1) #[.int .u64 0, .int .u64 0, .pointer none, .int .u16 0] 47 := Blk.new' _ _ (by simp)
  go_wp2_with (first | refine wpList_load_blk rfl 47 _ rfl (w.heap.size) 0 4 rfl bA (ap (some z4) ip p) (by kernel_rfl) (by kernel_rfl) (by kernel_rfl) ?_)
  generalize (w.alloc (.cells (ap (some z4) ip p) 47)).alloc (.cells #[.int .u64 0, .int .u64 0, .pointer none, .int .u16 0] 47) = W at *
  refine (addr_any _ _ _ _ _).mono ?_
  rintro e w1 ⟨rfl, k1⟩
  have bR1 := k1.blk bR id
  have kk1 := hide (kA.trans k1)
  clear kA bA bR k1
  go_wp2_with fail
  generalize hV : w1.alloc (.cells #[.int .u64 0, .int .u64 (281470849515520 + ip), .pointer (some z4)] 45) = V
  have kV : Kept (fun _ => False) w1 V := by rw [← hV]; exact (Kept.refl _ _).alloc _
  have bB : Blk V w1.heap.size #[.int .u64 0, .int .u64 (281470849515520 + ip), .pointer (some z4)] 45 := by rw [← hV]; exact Blk.new _ _ _
  have gV := g.mono (kk1.out.trans kV)
  clear hV
  refine (is6_4 _ _ _ gV).mono ?_
  rintro e w2 ⟨rfl, k2⟩
  have bB2 := k2.blk bB id
  have bR2 := k2.blk (kV.blk bR1 id) id
  have kk2 := hide (kk1.out.trans (kV.trans k2))
  have bc0 := bB2.cell 0
  have bf0 := bB2.frozen 0
  have bc1 := bB2.cell 1
  have bf1 := bB2.frozen 1
  have bc2 := bB2.cell 2
  have bf2 := bB2.frozen 2
  clear k2 kV bB bR1 kk1 gV g
  go_wp2_with fail
  refine (addrPortFrom_any _ _ _ _ _).mono ?_
  rintro e w3 ⟨rfl, k3⟩
  have bR3 := k3.blk bR2 id
  have kk3 := hide (kk2.out.trans k3)
  clear bc0 bc1 bc2 bf0 bf1 bf2 bB2 bR2 kk2 k3
  have rc0 := bR3.cell 0
  have rf0 := bR3.frozen 0
  have rc1 := bR3.cell 1
  have rf1 := bR3.frozen 1
  have rc2 := bR3.cell 2
  have rf2 := bR3.frozen 2
  have rc3 := bR3.cell 3
  have rf3 := bR3.frozen 3
  go_wp2
  refine bodyPost_ret (v := .agg (ap (some z4) ip 0)) (by simp [results, Ybaz.results23, go_sem, ap, rc0, rc1, rc2, rc3]) rfl ⟨rfl, ?_⟩
  refine Kept.set (Kept.set (Kept.set (Kept.set kk3.out ?_ _) ?_ _) ?_ _) ?_ _ <;> (intro h; exact absurd h (by simp))
end Go.Proofs.YbulkdbdsGreatDoor
