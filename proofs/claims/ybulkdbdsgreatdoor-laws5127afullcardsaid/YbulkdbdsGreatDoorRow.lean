import Derived.Test.YbulkdbdsGreatDoorMark
import Derived.Deep.WholeRow
namespace Go.Proofs.YbulkdbdsGreatDoor
open Go.RowKit Go.HeadTail
attribute [local go_sem] yields yUpon
section
variable {P : Program} {ops : Array Oper} {Q : Exit → Act → World → Prop}
theorem wpList_store_new {rest : List Oper} {op : Oper} {a : Act} {w0 : World} {old : Array Value} {t : TypeId} (hgd : op.guard = none) (ty : TypeId) (x y : Operand) (ho : op.op = .store ty x y)
    (vs : Array Value) (hx : a.eval x = .pointer (some ⟨w0.heap.size, 0, none⟩)) (hy : a.eval y = .agg vs)
    (hs : decide (old.size = vs.size) = true) (hi : (P.info? ty).map (·.size) = some vs.size) (h1 : vs.all (·.oneCell') = true)
    (h : wpList P ops Q rest (a.put op.dst undef) (w0.alloc (.cells vs t))) : wpList P ops Q (op :: rest) a (w0.alloc (.cells old t)) :=
  wpList_plain hgd fun _ hK => by
    have hr : (storeVar ty ⟨w0.heap.size, 0, none⟩ (.agg vs)).run P (w0.alloc (.cells old t)) = .ok () (w0.alloc (.cells vs t)) := by
      rw [run_storeVar_row _ _ t ty old vs (heap_alloc_last w0 _) hi (of_decide_eq_true hs) h1, World.setRow_alloc_new]
    unfold Oper.wp execOp
    simp only [ho, hx, hy, Instr.storeAt, Instr.sureAddr, Sem.run_bind, Sem.run_pure, Result.andThen_ok, hr]
    exact hK _ _ h
end

/-- an entry's four numbers: the ID's two bytes, the address's last, the port -/
structure E where
  a : Int
  b : Int
  ip : Int
  p : Int
def E.v (e : E) : Array Value := ent e.a e.b e.ip e.p
def E.ok (e : E) : Prop := (0 ≤ e.a ∧ e.a < 256) ∧ (0 ≤ e.b ∧ e.b < 256) ∧ (0 ≤ e.ip ∧ e.ip < 256) ∧ (0 ≤ e.p ∧ e.p < 65536)
def flat : List E → List Value
  | [] => []
  | e :: r => e.v.toList ++ flat r
theorem E.size (e : E) : e.v.toList.length = 41 := by rw [Array.length_toList, E.v, ent_size]
theorem flat_length : ∀ L : List E, (flat L).length = L.length * 41
  | [] => rfl
  | e :: r => by rw [flat, List.length_append, E.size, flat_length r, List.length_cons]; omega
theorem flat_append : ∀ L M : List E, flat (L ++ M) = flat L ++ flat M
  | [], _ => rfl
  | e :: r, M => by rw [List.cons_append, flat, flat, flat_append r M, List.append_assoc]
theorem flat_at : ∀ (L : List E) (j : Nat) (e : E), L[j]? = some e → ((flat L).drop (j * 41)).take 41 = e.v.toList
  | [], _, _, h => by simp at h
  | x :: r, 0, e, h => by
    simp at h; subst h
    rw [flat, Nat.zero_mul, List.drop_zero, List.take_append_of_le_length (by rw [E.size]; omega), List.take_of_length_le (by rw [E.size]; omega)]
  | x :: r, j + 1, e, h => by
    simp at h
    rw [flat, List.drop_append, List.drop_eq_nil_of_le (by rw [E.size]; omega), List.nil_append, E.size, show (j + 1) * 41 - 41 = j * 41 by omega]
    exact flat_at r j e h
theorem own_blk {w : World} {base g n cap : Nat} {L : List E} (h : w.ownsRow base 90 41 (.slice (some ⟨g, 0, none⟩) n cap) n (flat L)) :
    ∃ cur, Blk w g cur 90 ∧ cur.size = cap * 41 ∧ n ≤ cap ∧ L.length = n ∧ cur.toList.take (n * 41) = flat L ∧ ∀ j e, L[j]? = some e → cur.extract (j * 41) (j * 41 + 41) = e.v := by
  have hln : L.length = n := by have := h.1; rw [flat_length] at this; omega
  rcases h.2 with ⟨hn, _⟩ | ⟨g', cap', cur, hv, _, hb, hle, _, hsz, htk⟩
  · cases hn
  · cases hv
    refine ⟨cur, hb, hsz, hle, hln, htk, fun j e hj => ?_⟩
    have hjl : j < L.length := (List.getElem?_eq_some_iff.1 hj).1
    have h1 := flat_at L j e hj
    rw [← htk, List.drop_take, List.take_take, show min 41 (n * 41 - j * 41) = 41 by omega] at h1
    apply Array.toList_inj.1
    rw [← h1, Array.toList_extract, List.extract_eq_take_drop, show j * 41 + 41 - j * 41 = 41 by omega]
end Go.Proofs.YbulkdbdsGreatDoor
