import Derived.Test.YbulkdbdsGreatDoorProg
import Derived.Test.YbulkdbdsGreatDoorKit
import Derived.Laws.BitsAllLaws
import Derived.KernelRfl
namespace Go.Proofs.YbulkdbdsGreatDoor
open Go.RowKit

theorem or_ip (ip : Int) (h0 : 0 ≤ ip) (h1 : ip < 256) : bits .or .u64 281470849515520 ip = 281470849515520 + ip := by
  rw [u64_or 281470849515520 ip (by omega) (by omega) h0 (by omega)]
  have : (281470849515520 : Int).toNat ||| ip.toNat = 281470849515520 + ip.toNat := by
    have h := Nat.shiftLeft_add_eq_or_of_lt (show ip.toNat < 2 ^ 8 by omega) 1099495505920
    rw [show (281470849515520 : Int).toNat = 1099495505920 <<< 8 from rfl, ← h]; rfl
  rw [this]; omega

theorem or_c1 : bits .or .u64 281470681743360 167772160 = 281470849515520 := by
  rw [u64_or 281470681743360 167772160 (by omega) (by omega) (by omega) (by omega)]; decide
theorem or_c0 : bits .or .u64 281470849515520 0 = 281470849515520 := by
  rw [u64_or 281470849515520 0 (by omega) (by omega) (by omega) (by omega)]; decide
theorem cell_alloc {w : World} {a : Addr} {v : Value} (h : w.cell? a = some v) (o : Obj) : (w.alloc o).cell? a = some v := by
  rw [World.cell?_alloc_some w _ o (by rw [h]; rfl)]; exact h

set_option maxRecDepth 100000 in
theorem addrFrom4_any (ip : Int) (h0 : 0 ≤ ip) (h1 : ip < 256) (z : Option Addr) (w : World) (hz : w.cell? ⟨0, 0, none⟩ = some (.pointer z)) :
    Calls Ybaz.prog 10 #[.agg #[.int .u8 10, .int .u8 0, .int .u8 0, .int .u8 ip]] w fun e w' => e = .returned (.agg #[.int .u64 0, .int .u64 (281470849515520 + ip), .pointer z]) ∧ Kept (fun _ => False) w w' := by
  have ho := or_ip ip h0 h1
  have h1 := or_c1
  have h2 := or_c0
  have hz2 : ∀ o o', ((w.alloc o).alloc o').cell? ⟨0, 0, none⟩ = some (.pointer z) := fun o o' => cell_alloc (cell_alloc hz o) o'
  go_enter Ybaz.func10, Ybaz.ntmps10
  go_wp2
  refine bodyPost_ret (v := .agg #[.int .u64 0, .int .u64 (281470849515520 + ip), .pointer z]) (by simp [results, Ybaz.results10, go_sem]) rfl ⟨rfl, ?_⟩
  repeat (first | exact Kept.refl _ _ | refine Kept.alloc ?_ _ | refine Kept.drew ?_ | refine Kept.set ?_ (fun h => absurd h (by simp)) _)

theorem addrPortFrom_any (h l p : Int) (z : Option Addr) (w : World) :
    Calls Ybaz.prog 9 #[.agg #[.int .u64 h, .int .u64 l, .pointer z], .int .u16 p] w fun e w' => e = .returned (.agg #[.int .u64 h, .int .u64 l, .pointer z, .int .u16 p]) ∧ Kept (fun _ => False) w w' := by
  go_enter Ybaz.func9, Ybaz.ntmps9
  go_wp2
  refine bodyPost_ret (v := .agg #[.int .u64 h, .int .u64 l, .pointer z, .int .u16 p]) (by simp [results, Ybaz.results9, go_sem]) rfl ⟨rfl, ?_⟩
  repeat (first | exact Kept.refl _ _ | refine Kept.alloc ?_ _ | refine Kept.drew ?_ | refine Kept.set ?_ (fun h => absurd h (by simp)) _)

/-- the law's addresses: 10.0.0.ip and a port -/
def ap (z : Option Addr) (ip p : Int) : Array Value := #[.int .u64 0, .int .u64 (281470849515520 + ip), .pointer z, .int .u16 p]

theorem zaddr_any (ip p : Int) (h0 : 0 ≤ ip) (h1 : ip < 256) (z : Option Addr) (w : World) (hz : w.cell? ⟨0, 0, none⟩ = some (.pointer z)) :
    Calls Ybaz.prog 6 #[.int .u8 ip, .int .u16 p] w fun e w' => e = .returned (.agg (ap z ip p)) ∧ Kept (fun _ => False) w w' := by
  go_enter Ybaz.func6, Ybaz.ntmps6
  go_wp2_with fail
  refine (addrFrom4_any ip h0 h1 z _ (cell_alloc hz _)).mono ?_
  rintro e w1 ⟨rfl, k1⟩
  go_wp2_with fail
  refine (addrPortFrom_any _ _ _ z _).mono ?_
  rintro e w2 ⟨rfl, k2⟩
  have bI := k2.blk (k1.blk (Blk.new w #[.int .u64 0, .int .u64 0, .pointer none, .int .u16 0] 47) id) id
  have c0 := bI.cell 0
  have c1 := bI.cell 1
  have c2 := bI.cell 2
  have c3 := bI.cell 3
  have f0 := bI.frozen 0
  have f1 := bI.frozen 1
  have f2 := bI.frozen 2
  have f3 := bI.frozen 3
  go_wp2
  refine bodyPost_ret (v := .agg (ap z ip p)) (by simp [results, Ybaz.results6, go_sem, ap, c0, c1, c2, c3]) rfl ⟨rfl, ?_⟩
  have kk := ((Kept.refl (fun _ => False) w).alloc _).trans (k1.trans k2)
  repeat (first | exact kk | refine Kept.alloc ?_ _ | refine Kept.drew ?_ | refine Kept.set ?_ (fun h => absurd h (by simp)) _)
end Go.Proofs.YbulkdbdsGreatDoor
