import Derived.Test.YbulkdbdsGreatDoorGet
namespace Go.Proofs.YbulkdbdsGreatDoor
open Go.RowKit

set_option maxRecDepth 100000 in
theorem put16_any (b o n c : Nat) (hn : 2 ≤ n) (p : Int) (h0 : 0 ≤ p) (h1 : p < 65536) (w : World) (cs : Array Value) (t : TypeId) (u0 u1 : Value)
    (hb : Blk w b cs t) (c0 : cs[o]? = some u0) (c1 : cs[o + 1]? = some u1) :
    Calls Ybaz.prog 34 #[.agg #[], .slice (some ⟨b, o, none⟩) n c, .int .u16 p] w fun e w' => e = .returned (.tuple #[]) ∧ w' = ((w.alloc (.cells #[] 107)).setCell ⟨b, o, none⟩ (.int .u8 (p / 256))).setCell ⟨b, o + 1, none⟩ (.int .u8 (p % 256)) := by
  have d0 := fun ob => ((hb.alloc ob).cell o).trans c0
  have d1 := fun ob => ((hb.alloc ob).cell (o + 1)).trans c1
  have f0 := fun ob => (hb.alloc ob).frozen o
  have f1 := fun ob => (hb.alloc ob).frozen (o + 1)
  have hni : (1 : Int) < n := by omega
  have hni0 : (0 : Int) < n := by omega
  go_enter Ybaz.func34, Ybaz.ntmps34
  go_wp2
  go_end0
  exact ⟨rfl, rfl⟩
end Go.Proofs.YbulkdbdsGreatDoor
