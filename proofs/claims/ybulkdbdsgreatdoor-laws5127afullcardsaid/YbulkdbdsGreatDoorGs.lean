import Derived.Test.YbulkdbdsGreatDoorSplit
namespace Go.Proofs.YbulkdbdsGreatDoor
open Go.RowKit Go.HeadTail Go.Conc.Locks Go.MuLone
attribute [local go_sem] yields yUpon

theorem bks_at0 (two : Bool) (cv : Value) (wt : Option Addr) : (bks two cv wt)[0]? = some cv := by cases two <;> kernel_rfl
theorem bks_at1 (two : Bool) (cv : Value) (wt : Option Addr) : (bks two cv wt)[1]? = some (.pointer wt) := by cases two <;> kernel_rfl
theorem bks_at3 (two : Bool) (cv : Value) (wt : Option Addr) : (bks two cv wt)[3]? = some (.int .i64 0) := by cases two <;> kernel_rfl
theorem bks_set0 (two : Bool) (cv v : Value) (wt : Option Addr) : (bks two cv wt).setIfInBounds 0 v = bks two v wt := by cases two <;> kernel_rfl
theorem bks_set1 (two : Bool) (cv : Value) (wt wt' : Option Addr) : (bks two cv wt).setIfInBounds 1 (.pointer wt') = bks two cv wt' := by cases two <;> kernel_rfl
theorem bks_set3 (two : Bool) (cv : Value) (wt : Option Addr) : (bks two cv wt).setIfInBounds 3 (.int .i64 0) = bks two cv wt := by cases two <;> kernel_rfl
/-- the table of Full -/
structure Gs (base tb bb cb bc : Nat) (two : Bool) (wt : Option Addr) (m sf : Int) (L : List E) (sv : Value) (s : Nat → Int) (w : World) : Prop where
  bT : Blk w tb (tabv sf 0 1 (clk cb) m m 0 (.slice (some ⟨bb, 0, none⟩) (nbk two) bc) s) 74
  bB : Blk w bb (bks two sv wt) 81
  bC : Blk w cb T0 31
  own : w.ownsRow base 90 41 sv L.length (flat L)
  sk : SkOk s L
  ok : ∀ e ∈ L, e.ok
  ge : base ≤ tb ∧ base ≤ bb ∧ base ≤ cb
end Go.Proofs.YbulkdbdsGreatDoor
