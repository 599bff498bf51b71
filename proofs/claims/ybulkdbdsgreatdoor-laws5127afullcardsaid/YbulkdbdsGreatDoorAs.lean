import Derived.Test.YbulkdbdsGreatDoorPut
namespace Go.Proofs.YbulkdbdsGreatDoor
open Go.RowKit Go.HeadTail

attribute [local go_sem] yields yUpon

/-- eight bytes laid into a block -/
def lay8 (cs : Array Value) (o : Nat) (v : Int) : Array Value :=
  (((((((cs.setIfInBounds o (byt v 72057594037927936)).setIfInBounds (o + 1) (byt v 281474976710656)).setIfInBounds (o + 2) (byt v 1099511627776)).setIfInBounds (o + 3) (byt v 4294967296)).setIfInBounds (o + 4) (byt v 16777216)).setIfInBounds (o + 5) (byt v 65536)).setIfInBounds (o + 6) (byt v 256)).setIfInBounds (o + 7) (byt v 1)

theorem bePut_blk (b o c : Nat) (v : Int) (h0 : 0 ≤ v) (h1 : v < 18446744073709551616) (w : World) (cs : Array Value) (t : TypeId) (hb : Blk w b cs t) (ho : o + 8 ≤ cs.size) :
    Calls Ybaz.prog 58 #[.slice (some ⟨b, o, none⟩) 8 c, .int .u64 v] w fun e w' => e = .returned (.tuple #[]) ∧ Blk w' b (lay8 cs o v) t ∧ Kept (fun k => k = b) w w' := by
  refine (bePut_any b o c v h0 h1 w (fun j hj => ⟨cs[o + j], by rw [hb.cell, Array.getElem?_eq_getElem (by omega)]⟩) (fun j => hb.frozen j)).mono ?_
  rintro e w' ⟨rfl, rfl⟩
  refine ⟨rfl, (((((((hb.set _ _).set _ _).set _ _).set _ _).set _ _).set _ _).set _ _).set _ _, ?_⟩
  iterate 8 refine Kept.set ?_ (by intro _; rfl) _
  exact Kept.refl _ _

/-- the 16 bytes of ::ffff:10.0.0.ip -/
def a16 (ip : Int) : Array Value := #[.int .u8 0, .int .u8 0, .int .u8 0, .int .u8 0, .int .u8 0, .int .u8 0, .int .u8 0, .int .u8 0, .int .u8 0, .int .u8 0, .int .u8 255, .int .u8 255, .int .u8 10, .int .u8 0, .int .u8 0, .int .u8 ip]
def z16 : Array Value := #[.int .u8 0, .int .u8 0, .int .u8 0, .int .u8 0, .int .u8 0, .int .u8 0, .int .u8 0, .int .u8 0, .int .u8 0, .int .u8 0, .int .u8 0, .int .u8 0, .int .u8 0, .int .u8 0, .int .u8 0, .int .u8 0]
theorem lay_zero : lay8 z16 0 0 = z16 := by simp [lay8, z16, byt]
theorem lay_ip (ip : Int) (h0 : 0 ≤ ip) (h1 : ip < 256) : lay8 z16 8 (281470849515520 + ip) = a16 ip := by
  have e1 : (281470849515520 + ip) / 72057594037927936 % 256 = 0 := by omega
  have e2 : (281470849515520 + ip) / 281474976710656 % 256 = 0 := by omega
  have e3 : (281470849515520 + ip) / 1099511627776 % 256 = 255 := by omega
  have e4 : (281470849515520 + ip) / 4294967296 % 256 = 255 := by omega
  have e5 : (281470849515520 + ip) / 16777216 % 256 = 10 := by omega
  have e6 : (281470849515520 + ip) / 65536 % 256 = 0 := by omega
  have e7 : (281470849515520 + ip) / 256 % 256 = 0 := by omega
  have e8 : (281470849515520 + ip) / 1 % 256 = ip := by omega
  simp only [lay8, z16, a16, byt, e1, e2, e3, e4, e5, e6, e7, e8]
  simp
end Go.Proofs.YbulkdbdsGreatDoor
