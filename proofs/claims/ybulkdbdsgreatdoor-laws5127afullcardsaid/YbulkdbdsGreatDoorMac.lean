import Derived.Test.YbulkdbdsGreatDoorEq
namespace Go.Proofs.YbulkdbdsGreatDoor
open Go.RowKit Go.HeadTail
theorem Kept.ofDrew {S : Nat → Prop} {w w' : World} (h : Kept S w.drew w') : Kept S w w' := (Kept.refl _ _).drew.trans h
theorem beV_zero : beV 0 0 0 0 0 0 0 0 = 0 := by decide +kernel
theorem or_add (x y : Nat) (k : Nat) (hx : x < 2 ^ k) : x ||| (y * 2 ^ k) = y * 2 ^ k + x := by
  have := Nat.shiftLeft_add_eq_or_of_lt hx y
  rw [Nat.shiftLeft_eq] at this
  rw [Nat.or_comm, ← this]
theorem wrap64 (x : Int) (h0 : 0 ≤ x) (h1 : x < 18446744073709551616) : IntKind.u64.wrap x = x := by
  have : x % 18446744073709551616 = x := Int.emod_eq_of_lt h0 h1
  simp [IntKind.wrap, IntKind.bits, IntKind.signed, this]
theorem beV_ip (ip : Int) (h0 : 0 ≤ ip) (h1 : ip < 256) : beV 0 0 255 255 10 0 0 ip = 281470849515520 + ip := by
  have o0 : ∀ y : Int, 0 ≤ y → y < 18446744073709551616 → bits .or .u64 y 0 = y := fun y a b => by
    rw [u64_or y 0 a b (by omega) (by omega)]; simp; omega
  have o1 : bits .or .u64 ip 167772160 = 167772160 + ip := by
    rw [u64_or ip _ h0 (by omega) (by omega) (by omega), show (167772160 : Int).toNat = 10 * 2 ^ 24 from rfl, or_add _ _ 24 (by omega)]; omega
  have o2 : bits .or .u64 (167772160 + ip) 1095216660480 = 1095216660480 + (167772160 + ip) := by
    rw [u64_or _ _ (by omega) (by omega) (by omega) (by omega), show (1095216660480 : Int).toNat = 255 * 2 ^ 32 from rfl, or_add _ _ 32 (by omega)]; omega
  have o3 : bits .or .u64 (1095216660480 + (167772160 + ip)) 280375465082880 = 280375465082880 + (1095216660480 + (167772160 + ip)) := by
    rw [u64_or _ _ (by omega) (by omega) (by omega) (by omega), show (280375465082880 : Int).toNat = 255 * 2 ^ 40 from rfl, or_add _ _ 40 (by omega)]; omega
  unfold beV
  rw [wrap64 ip h0 (by omega)]
  rw [show IntKind.u64.wrap (IntKind.u64.wrap 0 * 256) = 0 from by decide, show IntKind.u64.wrap (IntKind.u64.wrap 0 * 65536) = 0 from by decide, show IntKind.u64.wrap (IntKind.u64.wrap 10 * 16777216) = 167772160 from by decide, show IntKind.u64.wrap (IntKind.u64.wrap 255 * 4294967296) = 1095216660480 from by decide, show IntKind.u64.wrap (IntKind.u64.wrap 255 * 1099511627776) = 280375465082880 from by decide, show IntKind.u64.wrap (IntKind.u64.wrap 0 * 281474976710656) = 0 from by decide, show IntKind.u64.wrap (IntKind.u64.wrap 0 * 72057594037927936) = 0 from by decide]
  rw [o0 ip h0 (by omega), o0 ip h0 (by omega), o1, o2, o3, o0 (280375465082880 + (1095216660480 + (167772160 + ip))) (by omega) (by omega), o0 (280375465082880 + (1095216660480 + (167772160 + ip))) (by omega) (by omega)]
  omega
end Go.Proofs.YbulkdbdsGreatDoor
