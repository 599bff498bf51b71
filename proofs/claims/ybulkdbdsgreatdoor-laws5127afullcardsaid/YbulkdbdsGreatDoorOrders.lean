import Derived.OrdersHeld
import Derived.StillTail
import Derived.Tactics2
import Derived.KernelRfl
namespace Go.HeadTail
open Go

section
variable {P : Program} {ops : Array Oper} {Q : Exit → Act → World → Prop} {md : Region.Mode} {C : World → Prop} {t : Nat}

/-- What is asked of one operation of the head: in every world of the class it yields v, and leaves that world as it is. -/
def yUpon (w : World) (v : Value) : Result Next → Prop
  | .ok (.value u) w' => w' = w ∧ u = v
  | _ => False

def yields (P : Program) (o : Oper) (a : Act) (C : World → Prop) (K : Act → Prop) : Prop :=
  ∃ v, (∀ w, C w → yUpon w v ((execOp a.eval o).run P w)) ∧ K (a.put o.dst v)

def wpHead (P : Program) (ops : Array Oper) (C : World → Prop) (L : Act → Prop) : List Oper → Act → Prop
  | [], a => L a
  | o :: rest, a => if Region.wanted o (yielded ops a.tmps) then yields P o a C (wpHead P ops C L rest) else wpHead P ops C L rest (a.put o.dst undef)

theorem wpHead_nil {L : Act → Prop} {a : Act} (h : L a) : wpHead P ops C L [] a := h
theorem wpHead_step {L : Act → Prop} {a : Act} {o : Oper} {rest : List Oper}
    (h : ∀ K : Act → Prop, (∀ a, wpHead P ops C L rest a → K a) → if Region.wanted o (yielded ops a.tmps) then yields P o a C K else K (a.put o.dst undef)) : wpHead P ops C L (o :: rest) a :=
  h _ (fun _ h => h)

theorem yieldsIf_of_head {L : Act → Prop} {a : Act} {o : Oper} {rest : List Oper} (h : wpHead P ops C L (o :: rest) a) : ∃ v, YieldsIf P ops C o v a ∧ wpHead P ops C L rest (a.put o.dst v) := by
  unfold wpHead at h
  by_cases hw : Region.wanted o (yielded ops a.tmps) = true
  · simp only [hw, if_true] at h
    obtain ⟨v, h1, h2⟩ := h
    refine ⟨v, .inl ⟨hw, fun w hC => ?_⟩, h2⟩
    have := h1 w hC
    generalize (execOp a.eval o).run P w = r at *
    cases r with
    | ok n w' => cases n <;> simp only [yUpon] at this; rw [this.1, this.2]
    | halt x w' => simp only [yUpon] at this
  · simp only [hw] at h
    exact ⟨undef, .inr ⟨by simpa using hw, rfl⟩, h⟩

/-- Whatever order is picked; behind every operation numbered below t the class holds. -/
def wpAnyT (P : Program) (md : Region.Mode) (ops : Array Oper) (Q : Exit → Act → World → Prop) (C : World → Prop) (t : Nat) : Nat → Array Bool → Act → World → Prop
  | 0, listed, a, w => Region.ready md ops listed = [] ∧ Q .normal a w
  | fuel + 1, listed, a, w =>
    (Region.ready md ops listed = [] → Q .normal a w) ∧
    ∀ i ∈ Region.ready md ops listed, wpOp P ops Q i (fun a' w' => (i < t → C w') ∧ wpAnyT P md ops Q C t fuel (listed.setIfInBounds i true) a' w') a w

theorem wpAny_of_T : ∀ (fuel : Nat) (listed : Array Bool) (a : Act) (w : World), wpAnyT P md ops Q C t fuel listed a w → wpAny P md ops Q fuel listed a w
  | 0, _, _, _, h => h
  | fuel + 1, _, _, _, h => ⟨h.1, fun i hi => wpOp_mono (fun a' w' h' => wpAny_of_T fuel _ a' w' h'.2) (h.2 i hi)⟩

theorem wpAnyT_first {i : Nat} {oi : Oper} {v : Value} (hi : ops[i]? = some oi) (hsel : ∀ (j : Nat) (o : Oper) cs b, ops[j]? = some o → o.op ≠ .select cs b)
    (hQ : ∀ c a w, Q (.panic c) (a.put oi.dst v) w → Q (.panic c) a w)
    (hlate : ∀ j oj, ops[j]? = some oj → t ≤ j → ∃ e ∈ oj.after, Region.binds md e = true ∧ e.on = i) (hit : i < t) :
    ∀ (fuel : Nat) (listed : Array Bool) (a : Act) (w : World),
      (∀ j oj, ops[j]? = some oj → j ≠ i → listed.getD j true = false → (∀ e ∈ oj.after, Region.binds md e = true → e.on ≠ i) → oi.apart ops oj = true) →
      i ∈ Region.ready md ops listed → YieldsIf P ops C oi v a → C w →
      wpAnyT P md ops Q C t fuel (listed.setIfInBounds i true) (a.put oi.dst v) w → wpAnyT P md ops Q C t (fuel + 1) listed a w := by
  intro fuel
  induction fuel with
  | zero =>
    intro listed a w _ hr hy hS H
    refine ⟨fun h => (by rw [h] at hr; cases hr), fun j hj => ?_⟩
    by_cases hji : j = i
    · subst hji; exact hy.wpOp hi hS ⟨fun _ => hS, H⟩
    · have := ready_mono hj hji
      rw [H.1] at this
      cases this
  | succ fuel ih =>
    intro listed a w hfree hr hy hS H
    refine ⟨fun h => (by rw [h] at hr; cases hr), fun j hj => ?_⟩
    by_cases hji : j = i
    · subst hji; exact hy.wpOp hi hS ⟨fun _ => hS, H⟩
    · have h1 := H.2 j (ready_mono hj hji)
      obtain ⟨hjun, oj, hoj, hall⟩ := mem_ready.1 hj
      have hnot : ∀ e ∈ oj.after, Region.binds md e = true → e.on ≠ i := fun e he hb heq => by
        have h1 := hall e he hb
        have h0 := (mem_ready.1 hr).1
        rw [heq] at h1
        rcases Nat.lt_or_ge i listed.size with h' | h'
        · simp [h'] at h0 h1; rw [h0] at h1; cases h1
        · simp [Array.getElem?_eq_none h'] at h1
      have hjt : j < t := by
        rcases Nat.lt_or_ge j t with h | h
        · exact h
        · obtain ⟨e, he, hb, hon⟩ := hlate j oj hoj h
          exact absurd hon (hnot e he hb)
      have h2 := wpOp_putIf hoj (hfree j oj hoj hji hjun hnot) (fun cs b => hsel i oi cs b hi) (fun cs b => hsel j oj cs b hoj) hQ hy h1
      have hfree' : ∀ k ok, ops[k]? = some ok → k ≠ i → (listed.setIfInBounds j true).getD k true = false →
          (∀ e ∈ ok.after, Region.binds md e = true → e.on ≠ i) → oi.apart ops ok = true := fun k ok hk hki hun hno => by
        refine hfree k ok hk hki ?_ hno
        by_cases hjk : j = k
        · subst hjk; exact hjun
        · rw [getD_set_ne true hjk] at hun; exact hun
      refine wpOp_mono (fun a' w' h3 => ⟨fun _ => h3.2.1 hjt, ih (listed.setIfInBounds j true) a' w' hfree' (ready_mono hr (Ne.symm hji)) h3.1 (h3.2.1 hjt) ?_⟩) h2
      rw [Array.setIfInBounds_comm _ _ hji]
      exact h3.2.2

/-- The tail: forced, one operation behind the other; behind each that is numbered below t the class is shown. -/
def wpTail (P : Program) (ops : Array Oper) (Q : Exit → Act → World → Prop) (C : World → Prop) (t : Nat) : List (Nat × Oper) → Act → World → Prop
  | [], a, w => Q .normal a w
  | (k, o) :: rest, a, w =>
    if Region.wanted o (yielded ops a.tmps) then o.wp P a w (fun a' w' => (k < t → C w') ∧ wpTail P ops Q C t rest a' w') Q ∨ (o.asks P a w ∧ LetsOut Q)
    else (k < t → C w) ∧ wpTail P ops Q C t rest (a.put o.dst undef) w

theorem wpTail_nil {a : Act} {w : World} (h : Q .normal a w) : wpTail P ops Q C t [] a w := h

theorem wpTail_plain {o : Oper} {rest : List (Nat × Oper)} {k : Nat} {a : Act} {w : World} (hg : o.guard = none)
    (h : ∀ K : Act → World → Prop, (∀ a w, (k < t → C w) → wpTail P ops Q C t rest a w → K a w) → o.wp P a w K Q) : wpTail P ops Q C t ((k, o) :: rest) a w := by
  unfold wpTail
  simp only [Region.wanted, hg, if_true]
  exact .inl (h _ (fun a w h1 h2 => ⟨h1, h2⟩))

theorem wpTail_step {o : Oper} {rest : List (Nat × Oper)} {k : Nat} {a : Act} {w : World}
    (h : ∀ K : Act → World → Prop, (∀ a w, (k < t → C w) → wpTail P ops Q C t rest a w → K a w) → if Region.wanted o (yielded ops a.tmps) then o.wp P a w K Q else K (a.put o.dst undef) w) : wpTail P ops Q C t ((k, o) :: rest) a w := by
  have := h _ (fun a w h1 h2 => (⟨h1, h2⟩ : (k < t → C w) ∧ wpTail P ops Q C t rest a w))
  unfold wpTail
  split
  · rename_i hw; simp only [hw, if_true] at this; exact .inl this
  · rename_i hw; simp only [hw] at this; exact this

theorem wpTail_late : ∀ (rest : List (Nat × Oper)) (a : Act) (w : World), (∀ x ∈ rest, t ≤ x.1) → wpList P ops Q (rest.map (·.2)) a w → wpTail P ops Q C t rest a w
  | [], _, _, _, h => h
  | (k, o) :: rest, a, w, hk, h => by
    have hk0 : t ≤ k := hk (k, o) (by simp)
    have hkr : ∀ x ∈ rest, t ≤ x.1 := fun x hx => hk x (by simp [hx])
    simp only [List.map_cons] at h
    unfold wpList at h
    unfold wpTail
    split at h
    · rename_i hw
      simp only [hw, if_true]
      rcases h with h | h
      · exact .inl (Oper.wp_mono (fun a' w' h' => ⟨fun hkt => absurd hk0 (by omega), wpTail_late rest a' w' hkr h'⟩) h)
      · exact .inr h
    · rename_i hw
      simp only [hw]
      exact ⟨fun hkt => absurd hk0 (by omega), wpTail_late rest _ w hkr h⟩

def seqI (md : Region.Mode) (ops : Array Oper) : List Nat → Array Bool → Bool
  | [], listed => (Region.ready md ops listed).isEmpty
  | k :: rest, listed => decide (Region.ready md ops listed = [k]) && seqI md ops rest (listed.setIfInBounds k true)

theorem wpAnyT_of_tail : ∀ (l : List (Nat × Oper)) (listed : Array Bool) (a : Act) (w : World), (∀ x ∈ l, ops[x.1]? = some x.2) →
    seqI md ops (l.map (·.1)) listed = true → wpTail P ops Q C t l a w → wpAnyT P md ops Q C t l.length listed a w
  | [], _, _, _, _, hB, h => ⟨by simpa [seqI] using hB, h⟩
  | (k, o) :: l, listed, a, w, hl, hB, h => by
    have h0 : ops[k]? = some o := hl (k, o) (by simp)
    simp only [List.map_cons, seqI, Bool.and_eq_true, decide_eq_true_eq] at hB
    refine ⟨fun h1 => (by rw [hB.1] at h1; cases h1), fun i hi => ?_⟩
    rw [hB.1] at hi
    have hik : i = k := by simpa using hi
    subst hik
    have hw : wpOp P ops Q i (fun a' w' => (i < t → C w') ∧ wpTail P ops Q C t l a' w') a w := by
      unfold wpOp; simp only [h0]
      unfold wpTail at h
      split at h
      · rename_i hw; simp only [hw, if_true]; exact h
      · rename_i hw; simp only [hw]; exact h
    exact wpOp_mono (fun a' w' h' => ⟨h'.1, wpAnyT_of_tail l _ a' w' (fun x hx => hl x (by simp [hx])) hB.2 h'.2⟩) hw

def lexHeadT (md : Region.Mode) (ops : Array Oper) (t : Nat) (tl : List Nat) : List Nat → Array Bool → Bool
  | [], listed => seqI md ops tl listed
  | k :: rest, listed => (Region.ready md ops listed).contains k && Region.free md ops listed k && decide (k < t) && ((List.range ops.size).all fun j => decide (j < t) || Region.waitsFor md ops j k) && lexHeadT md ops t tl rest (listed.setIfInBounds k true)

def lexB (md : Region.Mode) (ops : Array Oper) (hd tl : List Nat) (t : Nat) : Bool :=
  Region.noSelect ops && decide (hd.length + tl.length = ops.size) && (hd ++ tl).all (fun k => decide (k < ops.size)) && lexHeadT md ops t tl hd (Array.replicate ops.size false)

theorem late_spec {k : Nat} (h : ((List.range ops.size).all fun j => decide (j < t) || Region.waitsFor md ops j k) = true) : ∀ j oj, ops[j]? = some oj → t ≤ j → ∃ e ∈ oj.after, Region.binds md e = true ∧ e.on = k := by
  intro j oj hj htj
  have h1 := List.all_eq_true.1 h j (List.mem_range.2 (Array.getElem?_eq_some_iff.1 hj).1)
  simp only [Bool.or_eq_true, decide_eq_true_eq] at h1
  rcases h1 with h1 | h1
  · omega
  · obtain ⟨o', ho', e, he, hb, hon⟩ := Region.waitsFor_spec h1
    have : o' = oj := Option.some.inj (ho'.symm.trans hj)
    subst this
    exact ⟨e, he, hb, hon⟩

/-- The operations of these numbers. -/
def pick (l : List Oper) : List Nat → List (Nat × Oper)
  | [] => []
  | i :: rest => match l[i]? with
    | some o => (i, o) :: pick l rest
    | none => pick l rest

theorem pick_spec (l : List Oper) : ∀ (is : List Nat), ∀ x ∈ pick l is, l[x.1]? = some x.2
  | [], x, h => by simp [pick] at h
  | i :: rest, x, h => by
    unfold pick at h
    split at h
    · rename_i o ho
      rcases List.mem_cons.1 h with rfl | h
      · exact ho
      · exact pick_spec l rest x h
    · exact pick_spec l rest x h
theorem pick_map (l : List Oper) : ∀ (is : List Nat), (∀ i ∈ is, i < l.length) → (pick l is).map (·.1) = is
  | [], _ => rfl
  | i :: rest, h => by
    have hi := h i (by simp)
    unfold pick
    rw [List.getElem?_eq_getElem hi]
    simp only [List.map_cons]
    rw [pick_map l rest (fun j hj => h j (by simp [hj]))]

theorem wpAnyT_lex (hsel : Region.noSelect ops = true) (hQ : ∀ c a d v w, Q (.panic c) (Act.put a d v) w → Q (.panic c) a w) (tl : List (Nat × Oper)) (htl : ∀ x ∈ tl, ops[x.1]? = some x.2) (w : World) (hC : C w) :
    ∀ (l : List (Nat × Oper)) (listed : Array Bool) (a : Act), (∀ x ∈ l, ops[x.1]? = some x.2) →
    lexHeadT md ops t (tl.map (·.1)) (l.map (·.1)) listed = true → wpHead P ops C (fun a' => wpTail P ops Q C t tl a' w) (l.map (·.2)) a →
    wpAnyT P md ops Q C t (l.length + tl.length) listed a w
  | [], listed, a, _, hB, h => by
    have := wpAnyT_of_tail (md := md) tl listed a w htl (by simpa [lexHeadT] using hB) h
    simpa using this
  | (k, o) :: l, listed, a, hl, hB, h => by
    have h0 : ops[k]? = some o := hl (k, o) (by simp)
    simp only [List.map_cons, lexHeadT, Bool.and_eq_true, decide_eq_true_eq] at hB
    obtain ⟨⟨⟨⟨hr, hf⟩, hkt⟩, hlate⟩, hB'⟩ := hB
    have hr' : k ∈ Region.ready md ops listed := by simpa using hr
    obtain ⟨v, hy, hK⟩ := yieldsIf_of_head h
    have IH := wpAnyT_lex hsel hQ tl htl w hC l (listed.setIfInBounds k true) (a.put o.dst v) (fun x hx => hl x (by simp [hx])) hB' hK
    have := wpAnyT_first (t := t) h0 (Region.noSelect_spec hsel) (fun c a w => hQ c a o.dst v w) (late_spec hlate) hkt (l.length + tl.length) listed a w (Region.free_spec h0 hf) hr' hy hC IH
    rw [List.length_cons, show l.length + 1 + tl.length = l.length + tl.length + 1 by omega]
    exact this

/-- A REGION THAT DRAWS ITS ORDER: the operations numbered in 'hd' only read, and yield the same in every world of the class C; the rest, 'tl', is forced behind them. -/
theorem wp_region_headTail {id : Nat} {a : Act} {w : World} {l : List Oper} (C : World → Prop) (hd tl : List Nat) (t : Nat) (hm : P.follows .mixedOrders = true) (hB : lexB .any l.toArray hd tl t = true)
    (hQ0 : ∀ c a k v w, Q (.panic c) (Act.put a (some k) v) w → Q (.panic c) a w) (hC : C w.drew)
    (h : wpHead P l.toArray C (fun a' => wpTail P l.toArray Q C t (pick l tl) a' w.drew) ((pick l hd).map (·.2)) a) : (Code.region id l.toArray true).wp P Q a w := by
  have hQ : ∀ c a d v w, Q (.panic c) (Act.put a d v) w → Q (.panic c) a w := fun c a d v w h => by
    cases d with
    | none => exact h
    | some k => exact hQ0 c a k v w h
  simp only [lexB, Bool.and_eq_true, decide_eq_true_eq] at hB
  obtain ⟨⟨⟨hsel, hlen⟩, hall⟩, hlex⟩ := hB
  have hlt : ∀ i ∈ hd ++ tl, i < l.length := fun i hi => by simpa using List.all_eq_true.1 hall i hi
  have m1 := pick_map l hd (fun i hi => hlt i (by simp [hi]))
  have m2 := pick_map l tl (fun i hi => hlt i (by simp [hi]))
  have l1 : (pick l hd).length = hd.length := by rw [← List.length_map (f := (·.1)), m1]
  have l2 : (pick l tl).length = tl.length := by rw [← List.length_map (f := (·.1)), m2]
  refine wp_region_any hm (wpAny_of_T (C := C) (t := t) _ _ _ _ ?_)
  have H := wpAnyT_lex (md := .any) (P := P) (Q := Q) (C := C) (t := t) hsel hQ (pick l tl) (fun x hx => by simpa using pick_spec l tl x hx) w.drew hC (pick l hd) (Array.replicate l.toArray.size false) a (fun x hx => by simpa using pick_spec l hd x hx) (by rw [m1, m2]; exact hlex) h
  rw [l1, l2, hlen] at H
  exact H
end

section
variable {P : Program} {ops : Array Oper} {Q : Exit → Act → World → Prop} {md : Region.Mode} {C : World → Prop}

/-- A mixed walk: a step is QUIET (true: it only reads, the same in every world of the class) or FORCED (false: nothing else may come up). -/
def wpSeq (P : Program) (ops : Array Oper) (Q : Exit → Act → World → Prop) (C : World → Prop) : List (Bool × Nat × Oper) → Act → World → Prop
  | [], a, w => Q .normal a w
  | (true, _, o) :: rest, a, w => C w ∧ (if Region.wanted o (yielded ops a.tmps) then yields P o a C (fun a' => wpSeq P ops Q C rest a' w) else wpSeq P ops Q C rest (a.put o.dst undef) w)
  | (false, _, o) :: rest, a, w =>
    if Region.wanted o (yielded ops a.tmps) then o.wp P a w (fun a' w' => C w' ∧ wpSeq P ops Q C rest a' w') Q ∨ (o.asks P a w ∧ LetsOut Q)
    else C w ∧ wpSeq P ops Q C rest (a.put o.dst undef) w

theorem wpSeq_nil {a : Act} {w : World} (h : Q .normal a w) : wpSeq P ops Q C [] a w := h
theorem wpSeq_quiet {o : Oper} {rest : List (Bool × Nat × Oper)} {k : Nat} {a : Act} {w : World} (hC : C w)
    (h : ∀ K : Act → Prop, (∀ a, wpSeq P ops Q C rest a w → K a) → if Region.wanted o (yielded ops a.tmps) then yields P o a C K else K (a.put o.dst undef)) : wpSeq P ops Q C ((true, k, o) :: rest) a w :=
  ⟨hC, h _ (fun _ h => h)⟩
theorem wpSeq_forced {o : Oper} {rest : List (Bool × Nat × Oper)} {k : Nat} {a : Act} {w : World}
    (h : ∀ K : Act → World → Prop, (∀ a w, C w → wpSeq P ops Q C rest a w → K a w) → if Region.wanted o (yielded ops a.tmps) then o.wp P a w K Q else K (a.put o.dst undef) w) : wpSeq P ops Q C ((false, k, o) :: rest) a w := by
  have := h _ (fun a w h1 h2 => (⟨h1, h2⟩ : C w ∧ wpSeq P ops Q C rest a w))
  unfold wpSeq
  split
  · rename_i hw; simp only [hw, if_true] at this; exact .inl this
  · rename_i hw; simp only [hw] at this; exact this

def seqB (md : Region.Mode) (ops : Array Oper) : List (Bool × Nat) → Array Bool → Bool
  | [], listed => (Region.ready md ops listed).isEmpty
  | (true, k) :: rest, listed => (Region.ready md ops listed).contains k && Region.free md ops listed k && seqB md ops rest (listed.setIfInBounds k true)
  | (false, k) :: rest, listed => decide (Region.ready md ops listed = [k]) && seqB md ops rest (listed.setIfInBounds k true)

theorem wpAnyT_of_seq (hsel : Region.noSelect ops = true) (hQ : ∀ c a d v w, Q (.panic c) (Act.put a d v) w → Q (.panic c) a w) :
    ∀ (l : List (Bool × Nat × Oper)) (listed : Array Bool) (a : Act) (w : World), (∀ x ∈ l, ops[x.2.1]? = some x.2.2) →
    seqB md ops (l.map fun x => (x.1, x.2.1)) listed = true → wpSeq P ops Q C l a w → wpAnyT P md ops Q C ops.size l.length listed a w
  | [], _, _, _, _, hB, h => ⟨by simpa [seqB] using hB, h⟩
  | (true, k, o) :: l, listed, a, w, hl, hB, h => by
    have h0 : ops[k]? = some o := hl (true, k, o) (by simp)
    have hks : k < ops.size := (Array.getElem?_eq_some_iff.1 h0).1
    simp only [List.map_cons, seqB, Bool.and_eq_true] at hB
    obtain ⟨⟨hr, hf⟩, hB'⟩ := hB
    obtain ⟨hC, h⟩ := h
    have hh : ∃ v, YieldsIf P ops C o v a ∧ wpSeq P ops Q C l (a.put o.dst v) w := by
      by_cases hw : Region.wanted o (yielded ops a.tmps) = true
      · simp only [hw, if_true] at h
        obtain ⟨v, h1, h2⟩ := h
        refine ⟨v, .inl ⟨hw, fun w hC => ?_⟩, h2⟩
        have := h1 w hC
        generalize (execOp a.eval o).run P w = r at *
        cases r with
        | ok n w' => cases n <;> simp only [yUpon] at this; rw [this.1, this.2]
        | halt x w' => simp only [yUpon] at this
      · simp only [hw] at h
        exact ⟨undef, .inr ⟨by simpa using hw, rfl⟩, h⟩
    obtain ⟨v, hy, hK⟩ := hh
    exact wpAnyT_first (t := ops.size) h0 (Region.noSelect_spec hsel) (fun c a w => hQ c a o.dst v w) (fun j oj hj hge => absurd (Array.getElem?_eq_some_iff.1 hj).1 (by omega)) hks l.length listed a w (Region.free_spec h0 hf) (by simpa using hr) hy hC
      (wpAnyT_of_seq hsel hQ l _ _ _ (fun x hx => hl x (by simp [hx])) hB' hK)
  | (false, k, o) :: l, listed, a, w, hl, hB, h => by
    have h0 : ops[k]? = some o := hl (false, k, o) (by simp)
    simp only [List.map_cons, seqB, Bool.and_eq_true, decide_eq_true_eq] at hB
    refine ⟨fun h1 => (by rw [hB.1] at h1; cases h1), fun i hi => ?_⟩
    rw [hB.1] at hi
    have hik : i = k := by simpa using hi
    subst hik
    have hw : wpOp P ops Q i (fun a' w' => C w' ∧ wpSeq P ops Q C l a' w') a w := by
      unfold wpOp; simp only [h0]
      unfold wpSeq at h
      split at h
      · rename_i hw; simp only [hw, if_true]; exact h
      · rename_i hw; simp only [hw]; exact h
    exact wpOp_mono (fun a' w' h' => ⟨fun _ => h'.1, wpAnyT_of_seq hsel hQ l _ a' w' (fun x hx => hl x (by simp [hx])) hB.2 h'.2⟩) hw

def pickS (l : List Oper) : List (Bool × Nat) → List (Bool × Nat × Oper)
  | [] => []
  | (b, i) :: rest => match l[i]? with
    | some o => (b, i, o) :: pickS l rest
    | none => pickS l rest
theorem pickS_spec (l : List Oper) : ∀ (is : List (Bool × Nat)), ∀ x ∈ pickS l is, l[x.2.1]? = some x.2.2
  | [], x, h => by simp [pickS] at h
  | (b, i) :: rest, x, h => by
    unfold pickS at h
    split at h
    · rename_i o ho
      rcases List.mem_cons.1 h with rfl | h
      · exact ho
      · exact pickS_spec l rest x h
    · exact pickS_spec l rest x h
theorem pickS_map (l : List Oper) : ∀ (is : List (Bool × Nat)), (∀ i ∈ is, i.2 < l.length) → (pickS l is).map (fun x => (x.1, x.2.1)) = is
  | [], _ => rfl
  | (b, i) :: rest, h => by
    have hi : i < l.length := h (b, i) (by simp)
    unfold pickS
    rw [List.getElem?_eq_getElem hi]
    simp only [List.map_cons]
    rw [pickS_map l rest (fun j hj => h j (by simp [hj]))]

def seqAllB (ops : Array Oper) (is : List (Bool × Nat)) : Bool :=
  Region.noSelect ops && decide (is.length = ops.size) && is.all (fun k => decide (k.2 < ops.size)) && seqB .any ops is (Array.replicate ops.size false)

/-- A REGION THAT DRAWS ITS ORDER, walked in ONE order: quiet steps (true) and forced ones (false). -/
theorem wp_region_seq {id : Nat} {a : Act} {w : World} {l : List Oper} (C : World → Prop) (is : List (Bool × Nat)) (hm : P.follows .mixedOrders = true) (hB : seqAllB l.toArray is = true)
    (hQ0 : ∀ c a k v w, Q (.panic c) (Act.put a (some k) v) w → Q (.panic c) a w)
    (h : wpSeq P l.toArray Q C (pickS l is) a w.drew) : (Code.region id l.toArray true).wp P Q a w := by
  have hQ : ∀ c a d v w, Q (.panic c) (Act.put a d v) w → Q (.panic c) a w := fun c a d v w h => by
    cases d with
    | none => exact h
    | some k => exact hQ0 c a k v w h
  simp only [seqAllB, Bool.and_eq_true, decide_eq_true_eq] at hB
  obtain ⟨⟨⟨hsel, hlen⟩, hall⟩, hlex⟩ := hB
  have hlt : ∀ i ∈ is, i.2 < l.length := fun i hi => by simpa using List.all_eq_true.1 hall i hi
  have m1 := pickS_map l is hlt
  have l1 : (pickS l is).length = is.length := by rw [← List.length_map (f := fun x => (x.1, x.2.1)), m1]
  refine wp_region_any hm (wpAny_of_T (C := C) (t := l.toArray.size) _ _ _ _ ?_)
  have H := wpAnyT_of_seq (md := .any) (P := P) (Q := Q) (C := C) hsel hQ (pickS l is) (Array.replicate l.toArray.size false) a w.drew (fun x hx => by simpa using pickS_spec l is x hx) (by rw [m1]; exact hlex) h
  rw [l1, hlen] at H
  exact H
end

/-- A class of worlds, as the walk's simp takes it: the image of some family of worlds. -/
theorem cls (C : World → Prop) (w0 : World) (h0 : C w0) : ∃ (X : Type) (f : X → World), Nonempty X ∧ (∀ x, C (f x)) ∧ ∀ w, C w → ∃ x, w = f x :=
  ⟨{w // C w}, Subtype.val, ⟨⟨w0, h0⟩⟩, fun x => x.2, fun w h => ⟨⟨w, h⟩, rfl⟩⟩
end Go.HeadTail
