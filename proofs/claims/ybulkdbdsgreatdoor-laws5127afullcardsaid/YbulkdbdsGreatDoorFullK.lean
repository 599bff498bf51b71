import Derived.Test.YbulkdbdsGreatDoorFull1
import Derived.Test.YbulkdbdsGreatDoorFull2
import Derived.Test.YbulkdbdsGreatDoorFull3
import Derived.Test.YbulkdbdsGreatDoorFull4
import Derived.Test.YbulkdbdsGreatDoorContacts
import Derived.Laws.BitsAllLaws
namespace Go.Proofs.YbulkdbdsGreatDoor
open Go.RowKit Go.HeadTail
attribute [local go_sem] yields yUpon

section
variable {P : Program} {ops : Array Oper} {Q : Exit → Act → World → Prop} {C : World → Prop}
theorem wpSeq_valueG {o : Oper} {rest : List (Bool × Nat × Oper)} {k : Nat} {a : Act} {w : World} (hC : C w) (hw : Region.wanted o (yielded ops a.tmps) = true) (v : Value)
    (hv : ∀ w', C w' → (execOp a.eval o).run P w' = .ok (.value v) w') (h : wpSeq P ops Q C rest (a.put o.dst v) w) : wpSeq P ops Q C ((true, k, o) :: rest) a w := by
  refine wpSeq_quiet hC (fun K hK => ?_)
  rw [if_pos hw]
  exact ⟨v, fun w' hw' => by rw [hv w' hw']; exact ⟨rfl, rfl⟩, hK _ h⟩
theorem wpSeq_load_blkG {rest : List (Bool × Nat × Oper)} {op : Oper} {k : Nat} {a : Act} {w : World} (hC : C w) (hw : Region.wanted op (yielded ops a.tmps) = true) (ty : TypeId) (x : Operand) (ho : op.op = .load ty x)
    (b o n : Nat) (hx : a.eval x = .pointer (some ⟨b, o, none⟩)) {cs : Array Value} {t : TypeId} (hb : ∀ w', C w' → Blk w' b cs t) (vs : Array Value) (hv : cs.extract o (o + n) = vs)
    (hd : ((P.underlying ty).map (·.isRow)).getD false = true) (hi : (P.info? ty).map (·.size) = some vs.size)
    (h : wpSeq P ops Q C rest (a.put op.dst (.agg vs)) w) : wpSeq P ops Q C ((true, k, op) :: rest) a w :=
  wpSeq_valueG hC hw (.agg vs) (fun w' hw' => by
    unfold execOp
    simp only [ho, hx, Instr.loadAt, Instr.sureAddr, Sem.run_bind, Sem.run_pure, Result.andThen_ok, (hb w' hw').load o n ty vs hv hd hi]) h
theorem wpSeq_eqlG {rest : List (Bool × Nat × Oper)} {o : Oper} {k : Nat} {a : Act} {w : World} (hC : C w) (hw : Region.wanted o (yielded ops a.tmps) = true) (ty u : TypeId) (x y : Operand) (ho : o.op = .binOp .eql ty x y u) (xs ys : Array Value) (hx : a.eval x = .agg xs) (hy : a.eval y = .agg ys)
    (hm : P.eqGuardType P.depth ty = false) (r : Bool) (he : ∀ w', (Op.equalIn 10000 ty (.agg xs) (.agg ys)).run P w' = .ok r w') (h : wpSeq P ops Q C rest (a.put o.dst (.bool r)) w) : wpSeq P ops Q C ((true, k, o) :: rest) a w :=
  wpSeq_valueG hC hw (.bool r) (fun w' _ => exec_eql ty u x y ho xs ys hx hy hm r (he w')) h
theorem wpList_neqV {rest : List Oper} {o : Oper} {a : Act} {w : World} (hgd : o.guard = none) (ty u : TypeId) (x y : Operand) (ho : o.op = .binOp .neq ty x y u) (xs ys : Array Value) (hx : a.eval x = .agg xs) (hy : a.eval y = .agg ys)
    (hm : P.eqGuardType P.depth ty = false) (r : Bool) (he : (Op.equalIn 10000 ty (.agg xs) (.agg ys)).run P w = .ok (!r) w) (h : wpList P ops Q rest (a.put o.dst (.bool r)) w) : wpList P ops Q (o :: rest) a w := by
  have := wpList_neq (P := P) (ops := ops) (Q := Q) (rest := rest) hgd ty u x y ho xs ys hx hy hm (!r) he
  rw [Bool.not_not] at this
  exact this h
end
theorem own_cone {w : World} {base g cap : Nat} {z4 : Addr} {x : E} (h : w.ownsRow base 50 24 (.slice (some ⟨g, 0, none⟩) 1 cap) 1 (cflat z4 [x])) :
    ∃ cur, Blk w g cur 50 ∧ cur.extract 0 (0 + 24) = x.c z4 := by
  rcases h.2 with ⟨hn, _⟩ | ⟨g', cap', cur, hv, _, hb, hle, _, hsz, htk⟩
  · cases hn
  · cases hv
    refine ⟨cur, hb, ?_⟩
    apply Array.toList_inj.1
    rw [Array.toList_extract, List.extract_eq_take_drop]
    simp only [List.drop_zero, Nat.zero_add, Nat.sub_zero]
    rw [show (24 : Nat) = 1 * 24 from rfl, htk]
    simp [cflat]
section
variable {base tb bb cb bc : Nat} {two : Bool} {wt : Option Addr} {m sf : Int} {L : List E} {sv : Value} {s : Nat → Int} {w w' : World}
theorem Gs.mono (h : Gs base tb bb cb bc two wt m sf L sv s w) (k : Kept (fun _ => False) w w') : Gs base tb bb cb bc two wt m sf L sv s w' :=
  ⟨k.blk h.bT id, k.blk h.bB id, k.blk h.bC id, k.own h.own (fun _ _ h => h), h.sk, h.ok, h.ge⟩
theorem Gs.blk (h : Gs base tb bb cb bc two wt m sf L sv s w) (k : Kept (fun k => k = tb ∨ k = bb ∨ sv.ownBlock = some k) w w') {q : Nat} {cs : Array Value} (b : Blk w q cs 50) : Blk w' q cs 50 :=
  k.blk b (by
    rintro (e | e | e)
    · exact b.ne h.bT (by decide) e
    · exact b.ne h.bB (by decide) e
    · exact own_ne h.own b (by decide) e)
theorem Gs.up (h : Gs base tb bb cb bc two wt m sf L sv s w) (k : Kept (fun k => k = tb ∨ k = bb ∨ sv.ownBlock = some k) w w') : Kept (fun q => base ≤ q) w w' :=
  k.mono (by
    rintro q _ (e | e | e)
    · rw [e]; exact h.ge.1
    · rw [e]; exact h.ge.2.1
    · exact (own_ty h.own e).1)
theorem gl_up {z4 z6 : Addr} (g : Gl w z4 z6) (k : Kept (fun q => base ≤ q) w w') (hz : 3 < base ∧ z4.block < base ∧ z6.block < base) : Gl w' z4 z6 :=
  g.kept k ⟨by omega, by omega, by omega, by omega, by omega⟩
end
theorem xor_ge (a b : Nat) (ha : a < 128) (hb : 128 ≤ b) (hb' : b < 256) : 128 ≤ a ^^^ b := by
  have h : (a ^^^ b).testBit 7 = true := by
    rw [Nat.testBit_xor, Nat.testBit_lt_two_pow (show a < 2 ^ 7 from ha)]
    rw [Nat.testBit_eq_decide_div_mod_eq]
    simp; omega
  exact Nat.ge_two_pow_of_testBit h
theorem self_bits (a : Int) (h : 0 ≤ a ∧ a < 256) : 0 ≤ bits .and .u8 a 127 ∧ bits .and .u8 a 127 < 128 := by
  rw [u8_and a 127 h.1 h.2 (by omega) (by omega)]
  have : a.toNat &&& 127 ≤ 127 := Nat.and_le_right
  constructor
  · omega
  · have h2 : a.toNat &&& (127 : Int).toNat = a.toNat &&& 127 := rfl
    rw [h2]; omega
theorem high_bits (a : Int) (h : 0 ≤ a ∧ a < 256) : 128 ≤ bits .or .u8 128 a ∧ bits .or .u8 128 a < 256 := by
  rw [u8_or 128 a (by omega) (by omega) h.1 h.2]
  have h1 : 128 ≤ 128 ||| a.toNat := Nat.left_le_or
  have h2 : 128 ||| a.toNat < 2 ^ 8 := Nat.or_lt_two_pow (by omega) (by omega)
  have h3 : (128 : Int).toNat ||| a.toNat = 128 ||| a.toNat := rfl
  rw [h3]; omega
theorem con_l (z : Option Addr) (a b ip p : Int) : con z a b ip p = conl z a b (281470849515520 + ip) p := con_eq z a b ip p
end Go.Proofs.YbulkdbdsGreatDoor
