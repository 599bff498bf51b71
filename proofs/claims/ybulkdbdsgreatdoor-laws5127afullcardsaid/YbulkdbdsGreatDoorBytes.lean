import Derived.Test.YbulkdbdsGreatDoorNet
namespace Go.Proofs.YbulkdbdsGreatDoor
open Go.RowKit

/-- byte k (from the top) of v -/
def byt (v : Int) (m : Int) : Value := .int .u8 (v / m % 256)

set_option maxRecDepth 100000 in
set_option maxHeartbeats 1600000 in
theorem bePut_any (b o c : Nat) (v : Int) (h0 : 0 ≤ v) (h1 : v < 18446744073709551616) (w : World)
    (hcell : ∀ j, j < 8 → ∃ u, w.cell? ⟨b, o + j, none⟩ = some u) (hf : ∀ j, w.frozen? ⟨b, j, none⟩ = false) :
    Calls Ybaz.prog 58 #[.slice (some ⟨b, o, none⟩) 8 c, .int .u64 v] w fun e w' => e = .returned (.tuple #[]) ∧ w' = (((((((w.setCell ⟨b, o, none⟩ (byt v 72057594037927936)).setCell ⟨b, o + 1, none⟩ (byt v 281474976710656)).setCell ⟨b, o + 2, none⟩ (byt v 1099511627776)).setCell ⟨b, o + 3, none⟩ (byt v 4294967296)).setCell ⟨b, o + 4, none⟩ (byt v 16777216)).setCell ⟨b, o + 5, none⟩ (byt v 65536)).setCell ⟨b, o + 6, none⟩ (byt v 256)).setCell ⟨b, o + 7, none⟩ (byt v 1) := by
  obtain ⟨u0, c0⟩ := hcell 0 (by omega)
  obtain ⟨u1, c1⟩ := hcell 1 (by omega)
  obtain ⟨u2, c2⟩ := hcell 2 (by omega)
  obtain ⟨u3, c3⟩ := hcell 3 (by omega)
  obtain ⟨u4, c4⟩ := hcell 4 (by omega)
  obtain ⟨u5, c5⟩ := hcell 5 (by omega)
  obtain ⟨u6, c6⟩ := hcell 6 (by omega)
  obtain ⟨u7, c7⟩ := hcell 7 (by omega)
  rw [Nat.add_zero] at c0
  clear hcell
  go_enter Ybaz.func58, Ybaz.ntmps58
  go_wp2
  go_end0
  refine ⟨rfl, ?_⟩
  have e : v / 72057594037927936 % 256 = v / 72057594037927936 := by omega
  simp only [byt, e, Int.ediv_one]
end Go.Proofs.YbulkdbdsGreatDoor
