import Derived.Test.YbulkdbdsGreatDoorWhole
import Derived.DeepKeys
import Derived.ChangeKeysEq
namespace Go.HeadTail
open Go
variable {P : Program} {ops : Array Oper} {Q : Exit → Act → World → Prop} {C : World → Prop}

theorem wpSeq_value {o : Oper} {rest : List (Bool × Nat × Oper)} {k : Nat} {a : Act} {w : World} (hC : C w) (hgd : o.guard = none) (v : Value)
    (hv : ∀ w', C w' → (execOp a.eval o).run P w' = .ok (.value v) w') (h : wpSeq P ops Q C rest (a.put o.dst v) w) : wpSeq P ops Q C ((true, k, o) :: rest) a w := by
  refine wpSeq_quiet hC (fun K hK => ?_)
  simp only [Region.wanted, hgd, if_true]
  exact ⟨v, fun w' hw' => by rw [hv w' hw']; exact ⟨rfl, rfl⟩, hK _ h⟩
end Go.HeadTail
namespace Go.Proofs.YbulkdbdsGreatDoor
open Go.RowKit Go.HeadTail
variable {P : Program} {ops : Array Oper} {Q : Exit → Act → World → Prop} {C : World → Prop}

theorem wp_load_blk {op : Oper} {a : Act} {w : World} {K : Act → World → Prop} (ty : TypeId) (x : Operand) (ho : op.op = .load ty x)
    (b o n : Nat) (hx : a.eval x = .pointer (some ⟨b, o, none⟩)) {cs : Array Value} {t : TypeId} (hb : Blk w b cs t) (vs : Array Value) (hv : cs.extract o (o + n) = vs)
    (hd : ((P.underlying ty).map (·.isRow)).getD false = true) (hi : (P.info? ty).map (·.size) = some vs.size)
    (h : K (a.put op.dst (.agg vs)) w) : op.wp P a w K Q := by
  unfold Oper.wp execOp
  simp only [ho, hx, Instr.loadAt, Instr.sureAddr, Sem.run_bind, Sem.run_pure, Result.andThen_ok, hb.load o n ty vs hv hd hi]
  exact h
theorem wpList_load_blk {rest : List Oper} {op : Oper} {a : Act} {w : World} (hgd : op.guard = none) (ty : TypeId) (x : Operand) (ho : op.op = .load ty x)
    (b o n : Nat) (hx : a.eval x = .pointer (some ⟨b, o, none⟩)) {cs : Array Value} {t : TypeId} (hb : Blk w b cs t) (vs : Array Value) (hv : cs.extract o (o + n) = vs)
    (hd : ((P.underlying ty).map (·.isRow)).getD false = true) (hi : (P.info? ty).map (·.size) = some vs.size)
    (h : wpList P ops Q rest (a.put op.dst (.agg vs)) w) : wpList P ops Q (op :: rest) a w :=
  wpList_plain hgd fun _ hK => wp_load_blk ty x ho b o n hx hb vs hv hd hi (hK _ _ h)
theorem wpSeq_load_blk {rest : List (Bool × Nat × Oper)} {op : Oper} {k : Nat} {a : Act} {w : World} (hC : C w) (hgd : op.guard = none) (ty : TypeId) (x : Operand) (ho : op.op = .load ty x)
    (b o n : Nat) (hx : a.eval x = .pointer (some ⟨b, o, none⟩)) {cs : Array Value} {t : TypeId} (hb : ∀ w', C w' → Blk w' b cs t) (vs : Array Value) (hv : cs.extract o (o + n) = vs)
    (hd : ((P.underlying ty).map (·.isRow)).getD false = true) (hi : (P.info? ty).map (·.size) = some vs.size)
    (h : wpSeq P ops Q C rest (a.put op.dst (.agg vs)) w) : wpSeq P ops Q C ((true, k, op) :: rest) a w :=
  wpSeq_value hC hgd (.agg vs) (fun w' hw' => by
    unfold execOp
    simp only [ho, hx, Instr.loadAt, Instr.sureAddr, Sem.run_bind, Sem.run_pure, Result.andThen_ok, (hb w' hw').load o n ty vs hv hd hi]) h
theorem wp_store_blk {op : Oper} {a : Act} {w : World} {K : Act → World → Prop} (ty : TypeId) (x y : Operand) (ho : op.op = .store ty x y)
    (b o : Nat) (vs : Array Value) (hx : a.eval x = .pointer (some ⟨b, o, none⟩)) (hy : a.eval y = .agg vs) {cs : Array Value} {t : TypeId} (hb : Blk w b cs t)
    (hs : o + vs.size ≤ cs.size) (hi : (P.info? ty).map (·.size) = some vs.size) (h1 : vs.all (·.oneCell') = true)
    (h : K (a.put op.dst undef) (w.setCells b o vs.toList)) : op.wp P a w K Q := by
  unfold Oper.wp execOp
  simp only [ho, hx, hy, Instr.storeAt, Instr.sureAddr, Sem.run_bind, Sem.run_pure, Result.andThen_ok, hb.store o ty vs hs hi h1]
  exact h
theorem wpList_store_blk {rest : List Oper} {op : Oper} {a : Act} {w : World} (hgd : op.guard = none) (ty : TypeId) (x y : Operand) (ho : op.op = .store ty x y)
    (b o : Nat) (vs : Array Value) (hx : a.eval x = .pointer (some ⟨b, o, none⟩)) (hy : a.eval y = .agg vs) {cs : Array Value} {t : TypeId} (hb : Blk w b cs t)
    (hs : decide (o + vs.size ≤ cs.size) = true) (hi : (P.info? ty).map (·.size) = some vs.size) (h1 : vs.all (·.oneCell') = true)
    (h : wpList P ops Q rest (a.put op.dst undef) (w.setCells b o vs.toList)) : wpList P ops Q (op :: rest) a w :=
  wpList_plain hgd fun _ hK => wp_store_blk ty x y ho b o vs hx hy hb (of_decide_eq_true hs) hi h1 (hK _ _ h)
theorem wp_built {o : Oper} {a : Act} {w : World} {K : Act → World → Prop} (t : TypeId) (parts : Array (Nat × Operand)) (ho : o.op = .build t parts) (cells : Array Value)
    (hf : P.built t (parts.map fun (i, x) => (i, a.eval x)).toList = some cells) (h : K (a.put o.dst (.agg cells)) w) : o.wp P a w K Q := by
  refine wp_build t parts ho (by rw [hf]; rfl) ?_
  rw [hf]; exact h
theorem wpList_built {rest : List Oper} {o : Oper} {a : Act} {w : World} (hg : o.guard = none) (t : TypeId) (parts : Array (Nat × Operand)) (ho : o.op = .build t parts) (cells : Array Value)
    (hf : P.built t (parts.map fun (i, x) => (i, a.eval x)).toList = some cells) (h : wpList P ops Q rest (a.put o.dst (.agg cells)) w) : wpList P ops Q (o :: rest) a w :=
  wpList_plain hg fun _ hK => wp_built t parts ho cells hf (hK _ _ h)
theorem wpSeq_built {rest : List (Bool × Nat × Oper)} {o : Oper} {k : Nat} {a : Act} {w : World} (hC : C w) (hg : o.guard = none) (t : TypeId) (parts : Array (Nat × Operand)) (ho : o.op = .build t parts) (cells : Array Value)
    (hf : P.built t (parts.map fun (i, x) => (i, a.eval x)).toList = some cells) (h : wpSeq P ops Q C rest (a.put o.dst (.agg cells)) w) : wpSeq P ops Q C ((true, k, o) :: rest) a w :=
  wpSeq_value hC hg (.agg cells) (fun w' _ => by
    unfold execOp
    simp only [ho, Sem.run_bind, run_build w' t _ cells hf, Result.andThen_ok, Sem.run_pure]) h

theorem results_blk {fn : Func} {p : Tmp} {ty : TypeId} (h : fn.results = #[.cell p ty]) (tmps : Array Value) (w : World) (g : Nat) (t : TypeId) (cs : Array Value)
    (hp : tmps.getD p undef = .pointer (some ⟨g, 0, none⟩)) (hg : Blk w g cs t) (hd : ((P.underlying ty).map (·.isRow)).getD false = true) (hi : (P.info? ty).map (·.size) = some cs.size) :
    (results fn tmps).run P w = .ok (.agg cs) w := by
  have hp' : tmps[p]?.getD undef = .pointer (some ⟨g, 0, none⟩) := by simpa using hp
  simp [results, h, hp', asAddr, hg.load 0 cs.size ty cs (by simp) hd hi]

/-- two bytes and 18 noughts -/
def idv (a b : Int) : Array Value := #[.int .u8 a, .int .u8 b, .int .u8 0, .int .u8 0, .int .u8 0, .int .u8 0, .int .u8 0, .int .u8 0, .int .u8 0, .int .u8 0, .int .u8 0, .int .u8 0, .int .u8 0, .int .u8 0, .int .u8 0, .int .u8 0, .int .u8 0, .int .u8 0, .int .u8 0, .int .u8 0]
/-- a Contact -/
def con (z : Option Addr) (a b ip p : Int) : Array Value := idv a b ++ ap z ip p
/-- the port's two bytes -/
def pv (p : Int) : Array Value := #[.int .u8 (p / 256), .int .u8 (p % 256)]
/-- an entry -/
def ent (a b ip p : Int) : Array Value := idv a b ++ a16 ip ++ pv p ++ #[.int .u8 0, .int .u32 0, .int .u32 0]

theorem info5 : ∃ i, Ybaz.prog.info? 5 = some i := by
  have h : (Ybaz.prog.info? 5).isSome = true := by kernel_rfl
  exact Option.isSome_iff_exists.1 h
theorem eq24 (d : Nat) (a b a' b' : Int) (w : World) : (Op.equalIn (d + 2) 24 (.agg (idv a b)) (.agg (idv a' b'))).run Ybaz.prog w = .ok (a == a' && b == b') w := by
  obtain ⟨i, hi⟩ := info5
  have hc : Ybaz.prog.cellsOf 5 = 1 := by kernel_rfl
  have hp : ∀ (xs : Array Value) (o : Nat) (q : Int), xs[o]? = some (.int .u8 q) → (part 5 xs o).run Ybaz.prog w = .ok (.int .u8 q) w := by
    intro xs o q h
    exact run_part_plain (P := Ybaz.prog) w (by kernel_rfl) h
  rw [run_equalIn_array (P := Ybaz.prog) w (d + 1) _ _ Ybaz.underlying24 hi, hc]
  have hl : List.range 20 = [0, 1, 2, 3, 4, 5, 6, 7, 8, 9, 10, 11, 12, 13, 14, 15, 16, 17, 18, 19] := by decide
  rw [hl]
  have e : ∀ x y : Int, (Op.equalIn (d + 1) 5 (.int .u8 x) (.int .u8 y)).run Ybaz.prog w = .ok (x == y) w := fun x y => run_equalIn_int (P := Ybaz.prog) w d 5 _ _ x y Ybaz.underlying5
  simp [Op.eqItems, hp, idv, e]
  by_cases h1 : a = a' <;> by_cases h2 : b = b' <;> simp [h1, h2]

theorem eq41_refl (d : Nat) (z : Option Addr) (w : World) : (Op.equalIn (d + 1) 41 (.pointer z) (.pointer z)).run Ybaz.prog w = .ok true w := by
  cases z with
  | some a => exact eq41_same d a w
  | none =>
    obtain ⟨te, j, hu, hj, hs⟩ := some_elem
    simp [Op.equalIn, run_underlying hu]
theorem eq43' (d : Nat) (z : Option Addr) (w : World) : (Op.equalIn (d + 2) 43 (.agg #[.pointer z]) (.agg #[.pointer z])).run Ybaz.prog w = .ok true w := eq43 d z z true w (eq41_refl d z w)
theorem eq40 (d : Nat) (h l h' l' : Int) (w : World) : (Op.equalIn (d + 2) 40 (.agg #[.int .u64 h, .int .u64 l]) (.agg #[.int .u64 h', .int .u64 l'])).run Ybaz.prog w = .ok (h == h' && l == l') w := by
  rw [run_equalIn_struct w (d + 1) 40 _ _ (by kernel_rfl) (by kernel_rfl)]
  simp [Program.fieldsOf, Ybaz.underlying40, Op.eqFields, go_sem]
  by_cases h1 : h = h' <;> by_cases h2 : l = l' <;> simp [h1, h2]
theorem part_row {P : Program} (w : World) (t : TypeId) (cs : Array Value) (off n : Nat) (hd : ((P.underlying t).map (·.isRow)).getD false = true) (hi : (P.info? t).map (·.size) = some n) :
    (part t cs off).run P w = .ok (.agg (cs.extract off (off + n))) w := by
  cases hu : P.underlying t with
  | none => rw [hu] at hd; cases hd
  | some d =>
  rw [hu] at hd
  have hagg : (isAgg t).run P w = .ok true w := by
    unfold isAgg
    rw [Sem.run_bind, run_underlying hu w]
    cases d <;> simp_all [TypeDesc.isRow]
  cases hq : P.info? t with
  | none => simp [hq] at hi
  | some i =>
    have hs : i.size = n := by simpa [hq] using hi
    simp [part, Sem.run_bind, hagg, sizeOf, typeInfo, hq, hs]
theorem eq45 (d : Nat) (h l h' l' : Int) (z : Option Addr) (w : World) : (Op.equalIn (d + 3) 45 (.agg #[.int .u64 h, .int .u64 l, .pointer z]) (.agg #[.int .u64 h', .int .u64 l', .pointer z])).run Ybaz.prog w = .ok (h == h' && l == l') w := by
  rw [run_equalIn_struct w (d + 2) 45 _ _ (by kernel_rfl) (by kernel_rfl)]
  have e1 := eq40 d h l h' l' w
  have e2 := eq43' d z w
  have p1 := fun cs o => part_row (P := Ybaz.prog) w 40 cs o 2 (by kernel_rfl) (by kernel_rfl)
  have p2 := fun cs o => part_row (P := Ybaz.prog) w 43 cs o 1 (by kernel_rfl) (by kernel_rfl)
  simp [Program.fieldsOf, Ybaz.underlying45, Op.eqFields, p1, p2, e1, e2]
  by_cases h1 : h = h' <;> by_cases h2 : l = l' <;> simp [h1, h2]
theorem eq47 (d : Nat) (h l h' l' p p' : Int) (z : Option Addr) (w : World) : (Op.equalIn (d + 4) 47 (.agg #[.int .u64 h, .int .u64 l, .pointer z, .int .u16 p]) (.agg #[.int .u64 h', .int .u64 l', .pointer z, .int .u16 p'])).run Ybaz.prog w = .ok (h == h' && l == l' && p == p') w := by
  rw [run_equalIn_struct w (d + 3) 47 _ _ (by kernel_rfl) (by kernel_rfl)]
  have e1 := eq45 d h l h' l' z w
  have p1 := fun cs o => part_row (P := Ybaz.prog) w 45 cs o 3 (by kernel_rfl) (by kernel_rfl)
  have p2 : ∀ (xs : Array Value) (o : Nat) (q : Int), xs[o]? = some (.int .u16 q) → (part 36 xs o).run Ybaz.prog w = .ok (.int .u16 q) w := fun xs o q h => run_part_plain (P := Ybaz.prog) w (by kernel_rfl) h
  have e : ∀ x y : Int, (Op.equalIn (d + 3) 36 (.int .u16 x) (.int .u16 y)).run Ybaz.prog w = .ok (x == y) w := fun x y => run_equalIn_int (P := Ybaz.prog) w (d + 2) 36 _ _ x y Ybaz.underlying36
  simp [Program.fieldsOf, Ybaz.underlying47, Op.eqFields, p1, p2, e1, e]
  by_cases h1 : h = h' <;> by_cases h2 : l = l' <;> by_cases h3 : p = p' <;> simp [h1, h2, h3]
theorem eq47' (d : Nat) (ip ip' p p' : Int) (z : Option Addr) (w : World) : (Op.equalIn (d + 4) 47 (.agg (ap z ip p)) (.agg (ap z ip' p'))).run Ybaz.prog w = .ok (ip == ip' && p == p') w := by
  rw [ap, ap, eq47]
  rw [show (281470849515520 + ip == 281470849515520 + ip') = (ip == ip') from by rw [Bool.eq_iff_iff]; simp]
  simp
end Go.Proofs.YbulkdbdsGreatDoor
