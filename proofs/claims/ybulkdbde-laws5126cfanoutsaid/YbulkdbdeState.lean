import Derived.Test.YbulkdbdeReceive
import Derived.Test.YbulkdbdeAdd
import Derived.Test.YbulkdbdeMk
namespace Go.Proofs.Ybulkdbde
open Go.RowKit

def Recs (w : World) (lb : Nat) (R : Nat → Nat) (n : Nat) : Prop := ∀ i, i < n → Blk w (R i) #[.int .i64 i, .pointer (some ⟨lb, 0, none⟩)] 50
def rlist (R : Nat → Nat) (n : Nat) : List Value := (List.range n).map fun i => .iface 47 (.pointer (some ⟨R i, 0, none⟩))
def Logd (w : World) (base lb n : Nat) (xs : List Value) : Prop := ∃ v, Blk w lb #[v] 45 ∧ w.ownsRow base 62 13 v n xs
def ents (ev : List Value) (k : Nat) : List Value := (List.range k).flatMap fun i : Nat => .int .i64 (i : Int) :: ev

theorem rlist_get (R : Nat → Nat) (n k : Nat) (h : k < n) : (rlist R n)[k]? = some (.iface 47 (.pointer (some ⟨R k, 0, none⟩))) := by
  simp [rlist, h]
theorem rlist_succ (R : Nat → Nat) (n : Nat) : rlist R (n + 1) = rlist R n ++ [.iface 47 (.pointer (some ⟨R n, 0, none⟩))] := by
  simp [rlist, List.range_succ]
theorem ents_succ (ev : List Value) (k : Nat) : ents ev (k + 1) = ents ev k ++ (.int .i64 k :: ev) := by
  simp [ents, List.range_succ]

/-- what an emit may write: the hub, the log's cell, rows of entries from base on -/
abbrev EmS (hb lb base : Nat) (w : World) (k : Nat) : Prop := k = hb ∨ k = lb ∨ (base ≤ k ∧ Ty w k 62)

theorem ems_trans {hb lb base : Nat} {a b c : World} (h : Kept (EmS hb lb base a) a b) (k : Kept (EmS hb lb base b) b c) : Kept (EmS hb lb base a) a c := by
  refine h.trans' k fun x hx hs => ?_
  by_cases hsx : EmS hb lb base a x
  · exact hsx
  · rcases hs with h1 | h1 | ⟨h1, h2⟩
    · exact .inl h1
    · exact .inr (.inl h1)
    · exact .inr (.inr ⟨h1, h.ty hx hsx h2⟩)

theorem ems_blk {hb lb base : Nat} {a b : World} (h : Kept (EmS hb lb base a) a b) {x : Nat} {cs : Array Value} {t : TypeId} (hx : Blk a x cs t) (h1 : x ≠ hb) (h2 : x ≠ lb) (ht : t ≠ 62) : Blk b x cs t := by
  refine h.blk hx ?_
  rintro (h | h | ⟨_, cs', hc⟩)
  · exact h1 h
  · exact h2 h
  · exact hx.ne hc ht rfl
theorem ems_own {hb lb base : Nat} {a b : World} (h : Kept (EmS hb lb base a) a b) {base' : Nat} {e : TypeId} {size : Nat} {v : Value} {n : Nat} {xs : List Value}
    (ho : a.ownsRow base' e size v n xs) (he : e ≠ 62) (h1 : v.ownBlock ≠ some hb) (h2 : v.ownBlock ≠ some lb) : b.ownsRow base' e size v n xs := by
  refine h.own ho fun k hk => ?_
  obtain ⟨_, cs, hcs⟩ := own_ty ho hk
  rintro (h | h | ⟨_, cs', hc⟩)
  · exact h1 (h ▸ hk)
  · exact h2 (h ▸ hk)
  · exact hcs.ne hc he rfl
theorem ems_recs {hb lb base : Nat} {a b : World} (h : Kept (EmS hb lb base a) a b) {R : Nat → Nat} {n : Nat} (hr : Recs a lb R n) {cs cs' : Array Value} (hh : Blk a hb cs 44) (hl : Blk a lb cs' 45) : Recs b lb R n :=
  fun i hi => ems_blk h (hr i hi) ((hr i hi).ne hh (by decide)) ((hr i hi).ne hl (by decide)) (by decide)
end Go.Proofs.Ybulkdbde
