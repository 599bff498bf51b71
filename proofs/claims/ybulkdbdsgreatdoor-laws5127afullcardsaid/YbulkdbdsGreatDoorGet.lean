import Derived.Test.YbulkdbdsGreatDoorBytes
import Derived.Test.YbulkdbdsGreatDoorOrders
namespace Go.Proofs.YbulkdbdsGreatDoor
open Go.RowKit Go.HeadTail

attribute [local go_sem] yields yUpon

/-- eight bytes, the highest first -/
def beV (x0 x1 x2 x3 x4 x5 x6 x7 : Int) : Int := bits .or .u64 (bits .or .u64 (bits .or .u64 (bits .or .u64 (bits .or .u64 (bits .or .u64 (bits .or .u64 (IntKind.u64.wrap x7) (IntKind.u64.wrap (IntKind.u64.wrap x6 * 256))) (IntKind.u64.wrap (IntKind.u64.wrap x5 * 65536))) (IntKind.u64.wrap (IntKind.u64.wrap x4 * 16777216))) (IntKind.u64.wrap (IntKind.u64.wrap x3 * 4294967296))) (IntKind.u64.wrap (IntKind.u64.wrap x2 * 1099511627776))) (IntKind.u64.wrap (IntKind.u64.wrap x1 * 281474976710656))) (IntKind.u64.wrap (IntKind.u64.wrap x0 * 72057594037927936))

set_option maxRecDepth 100000 in
set_option maxHeartbeats 3200000 in
theorem beGet_any (b o c : Nat) (x0 x1 x2 x3 x4 x5 x6 x7 : Int) (w : World)
    (h0 : w.cell? ⟨b, o, none⟩ = some (.int .u8 x0)) (h1 : w.cell? ⟨b, o + 1, none⟩ = some (.int .u8 x1)) (h2 : w.cell? ⟨b, o + 2, none⟩ = some (.int .u8 x2)) (h3 : w.cell? ⟨b, o + 3, none⟩ = some (.int .u8 x3))
    (h4 : w.cell? ⟨b, o + 4, none⟩ = some (.int .u8 x4)) (h5 : w.cell? ⟨b, o + 5, none⟩ = some (.int .u8 x5)) (h6 : w.cell? ⟨b, o + 6, none⟩ = some (.int .u8 x6)) (h7 : w.cell? ⟨b, o + 7, none⟩ = some (.int .u8 x7)) :
    Calls Ybaz.prog 75 #[.slice (some ⟨b, o, none⟩) 8 c] w fun e w' => e = .returned (.int .u64 (beV x0 x1 x2 x3 x4 x5 x6 x7)) ∧ Kept (fun _ => False) w w' := by
  go_enter Ybaz.func75, Ybaz.ntmps75
  go_wp2_with fail
  obtain ⟨X, f, hne, hf, hto⟩ := cls (fun w' => w' = w.drew) w.drew rfl
  have HC := hide (hto _ rfl)
  clear hto
  have hfx : ∀ x (a : Addr), (f x).cell? a = w.cell? a := fun x a => by rw [hf x]; rfl
  have e0 : ∀ x, (f x).cell? ⟨b, o, none⟩ = some (.int .u8 x0) := fun x => (hfx x _).trans h0
  have e1 : ∀ x, (f x).cell? ⟨b, o + 1, none⟩ = some (.int .u8 x1) := fun x => (hfx x _).trans h1
  have e2 : ∀ x, (f x).cell? ⟨b, o + 2, none⟩ = some (.int .u8 x2) := fun x => (hfx x _).trans h2
  have e3 : ∀ x, (f x).cell? ⟨b, o + 3, none⟩ = some (.int .u8 x3) := fun x => (hfx x _).trans h3
  have e4 : ∀ x, (f x).cell? ⟨b, o + 4, none⟩ = some (.int .u8 x4) := fun x => (hfx x _).trans h4
  have e5 : ∀ x, (f x).cell? ⟨b, o + 5, none⟩ = some (.int .u8 x5) := fun x => (hfx x _).trans h5
  have e6 : ∀ x, (f x).cell? ⟨b, o + 6, none⟩ = some (.int .u8 x6) := fun x => (hfx x _).trans h6
  have e7 : ∀ x, (f x).cell? ⟨b, o + 7, none⟩ = some (.int .u8 x7) := fun x => (hfx x _).trans h7
  clear hfx hf
  refine wp_region_seq (fun w' => ∃ x, w' = f x) [(true, 0), (true, 1), (true, 2), (true, 3), (true, 4), (true, 5), (true, 6), (true, 7), (true, 8), (true, 9), (true, 10), (true, 11), (true, 12), (true, 13), (true, 14), (true, 15), (true, 16), (true, 17), (true, 18), (true, 19), (true, 20), (true, 21), (true, 22), (true, 23), (true, 24), (true, 25), (true, 26), (true, 27), (true, 28), (true, 29), (true, 30), (true, 31), (true, 32), (true, 33), (true, 34), (true, 35), (true, 36), (true, 37), (true, 38), (true, 39), (true, 40), (true, 41), (true, 42), (true, 43), (true, 44), (true, 45), (true, 46)] (by kernel_rfl) (by kernel_rfl) (fun _ _ _ _ _ h => h) ?_
  simp only [pickS, List.getElem?_cons_zero, List.getElem?_cons_succ]
  iterate 47
    refine wpSeq_quiet HC.out (fun K hK => ?_)
    go_simp
    refine hK _ ?_
    clear hK K
  refine wpSeq_nil ?_
  go_wp2
  go_ret
  exact ⟨rfl, (Kept.refl _ _).drew⟩
end Go.Proofs.YbulkdbdsGreatDoor
