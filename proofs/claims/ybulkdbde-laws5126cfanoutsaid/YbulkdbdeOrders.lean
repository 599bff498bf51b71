import Derived.OrdersHeld
import Derived.StillTail
import Derived.Tactics2
import Derived.KernelRfl
namespace Go.HeadTail
open Go

section
variable {P : Program} {ops : Array Oper} {Q : Exit → Act → World → Prop} {md : Region.Mode} {C : World → Prop} {t : Nat}

/-- What is asked of one operation of the head: in every world of the class it yields v, and leaves that world as it is. -/
def yUpon (w : World) (v : Value) : Result Next → Prop
  | .ok (.value u) w' => w' = w ∧ u = v
  | _ => False

def yields (P : Program) (o : Oper) (a : Act) (C : World → Prop) (K : Act → Prop) : Prop :=
  ∃ v, (∀ w, C w → yUpon w v ((execOp a.eval o).run P w)) ∧ K (a.put o.dst v)

def wpHead (P : Program) (ops : Array Oper) (C : World → Prop) (L : Act → Prop) : List Oper → Act → Prop
  | [], a => L a
  | o :: rest, a => if Region.wanted o (yielded ops a.tmps) then yields P o a C (wpHead P ops C L rest) else wpHead P ops C L rest (a.put o.dst undef)

theorem wpHead_nil {L : Act → Prop} {a : Act} (h : L a) : wpHead P ops C L [] a := h
theorem wpHead_step {L : Act → Prop} {a : Act} {o : Oper} {rest : List Oper}
    (h : ∀ K : Act → Prop, (∀ a, wpHead P ops C L rest a → K a) → if Region.wanted o (yielded ops a.tmps) then yields P o a C K else K (a.put o.dst undef)) : wpHead P ops C L (o :: rest) a :=
  h _ (fun _ h => h)

theorem yieldsIf_of_head {L : Act → Prop} {a : Act} {o : Oper} {rest : List Oper} (h : wpHead P ops C L (o :: rest) a) : ∃ v, YieldsIf P ops C o v a ∧ wpHead P ops C L rest (a.put o.dst v) := by
  unfold wpHead at h
  by_cases hw : Region.wanted o (yielded ops a.tmps) = true
  · simp only [hw, if_true] at h
    obtain ⟨v, h1, h2⟩ := h
    refine ⟨v, .inl ⟨hw, fun w hC => ?_⟩, h2⟩
    have := h1 w hC
    generalize (execOp a.eval o).run P w = r at *
    cases r with
    | ok n w' => cases n <;> simp only [yUpon] at this; rw [this.1, this.2]
    | halt x w' => simp only [yUpon] at this
  · simp only [hw] at h
    exact ⟨undef, .inr ⟨by simpa using hw, rfl⟩, h⟩

/-- Whatever order is picked; behind every operation numbered below t the class holds. -/
def wpAnyT (P : Program) (md : Region.Mode) (ops : Array Oper) (Q : Exit → Act → World → Prop) (C : World → Prop) (t : Nat) : Nat → Array Bool → Act → World → Prop
  | 0, listed, a, w => Region.ready md ops listed = [] ∧ Q .normal a w
  | fuel + 1, listed, a, w =>
    (Region.ready md ops listed = [] → Q .normal a w) ∧
    ∀ i ∈ Region.ready md ops listed, wpOp P ops Q i (fun a' w' => (i < t → C w') ∧ wpAnyT P md ops Q C t fuel (listed.setIfInBounds i true) a' w') a w

theorem wpAny_of_T : ∀ (fuel : Nat) (listed : Array Bool) (a : Act) (w : World), wpAnyT P md ops Q C t fuel listed a w → wpAny P md ops Q fuel listed a w
  | 0, _, _, _, h => h
  | fuel + 1, _, _, _, h => ⟨h.1, fun i hi => wpOp_mono (fun a' w' h' => wpAny_of_T fuel _ a' w' h'.2) (h.2 i hi)⟩

theorem wpAnyT_first {i : Nat} {oi : Oper} {v : Value} (hi : ops[i]? = some oi) (hsel : ∀ (j : Nat) (o : Oper) cs b, ops[j]? = some o → o.op ≠ .select cs b)
    (hQ : ∀ c a w, Q (.panic c) (a.put oi.dst v) w → Q (.panic c) a w)
    (hlate : ∀ j oj, ops[j]? = some oj → t ≤ j → ∃ e ∈ oj.after, Region.binds md e = true ∧ e.on = i) (hit : i < t) :
    ∀ (fuel : Nat) (listed : Array Bool) (a : Act) (w : World),
      (∀ j oj, ops[j]? = some oj → j ≠ i → listed.getD j true = false → (∀ e ∈ oj.after, Region.binds md e = true → e.on ≠ i) → oi.apart ops oj = true) →
      i ∈ Region.ready md ops listed → YieldsIf P ops C oi v a → C w →
      wpAnyT P md ops Q C t fuel (listed.setIfInBounds i true) (a.put oi.dst v) w → wpAnyT P md ops Q C t (fuel + 1) listed a w := by
  intro fuel
  induction fuel with
  | zero =>
    intro listed a w _ hr hy hS H
    refine ⟨fun h => (by rw [h] at hr; cases hr), fun j hj => ?_⟩
    by_cases hji : j = i
    · subst hji; exact hy.wpOp hi hS ⟨fun _ => hS, H⟩
    · have := ready_mono hj hji
      rw [H.1] at this
      cases this
  | succ fuel ih =>
    intro listed a w hfree hr hy hS H
    refine ⟨fun h => (by rw [h] at hr; cases hr), fun j hj => ?_⟩
    by_cases hji : j = i
    · subst hji; exact hy.wpOp hi hS ⟨fun _ => hS, H⟩
    · have h1 := H.2 j (ready_mono hj hji)
      obtain ⟨hjun, oj, hoj, hall⟩ := mem_ready.1 hj
      have hnot : ∀ e ∈ oj.after, Region.binds md e = true → e.on ≠ i := fun e he hb heq => by
        have h1 := hall e he hb
        have h0 := (mem_ready.1 hr).1
        rw [heq] at h1
        rcases Nat.lt_or_ge i listed.size with h' | h'
        · simp [h'] at h0 h1; rw [h0] at h1; cases h1
        · simp [Array.getElem?_eq_none h'] at h1
      have hjt : j < t := by
        rcases Nat.lt_or_ge j t with h | h
        · exact h
        · obtain ⟨e, he, hb, hon⟩ := hlate j oj hoj h
          exact absurd hon (hnot e he hb)
      have h2 := wpOp_putIf hoj (hfree j oj hoj hji hjun hnot) (fun cs b => hsel i oi cs b hi) (fun cs b => hsel j oj cs b hoj) hQ hy h1
      have hfree' : ∀ k ok, ops[k]? = some ok → k ≠ i → (listed.setIfInBounds j true).getD k true = false →
          (∀ e ∈ ok.after, Region.binds md e = true → e.on ≠ i) → oi.apart ops ok = true := fun k ok hk hki hun hno => by
        refine hfree k ok hk hki ?_ hno
        by_cases hjk : j = k
        · subst hjk; exact hjun
        · rw [getD_set_ne true hjk] at hun; exact hun
      refine wpOp_mono (fun a' w' h3 => ⟨fun _ => h3.2.1 hjt, ih (listed.setIfInBounds j true) a' w' hfree' (ready_mono hr (Ne.symm hji)) h3.1 (h3.2.1 hjt) ?_⟩) h2
      rw [Array.setIfInBounds_comm _ _ hji]
      exact h3.2.2

/-- The tail: forced, one operation behind the other; behind each that is numbered below t the class is shown. -/
def wpTail (P : Program) (ops : Array Oper) (Q : Exit → Act → World → Prop) (C : World → Prop) (t : Nat) : List Oper → Nat → Act → World → Prop
  | [], _, a, w => Q .normal a w
  | o :: rest, k, a, w =>
    if Region.wanted o (yielded ops a.tmps) then o.wp P a w (fun a' w' => (k < t → C w') ∧ wpTail P ops Q C t rest (k + 1) a' w') Q ∨ (o.asks P a w ∧ LetsOut Q)
    else (k < t → C w) ∧ wpTail P ops Q C t rest (k + 1) (a.put o.dst undef) w

theorem wpTail_plain {o : Oper} {rest : List Oper} {k : Nat} {a : Act} {w : World} (hg : o.guard = none)
    (h : ∀ K : Act → World → Prop, (∀ a w, (k < t → C w) → wpTail P ops Q C t rest (k + 1) a w → K a w) → o.wp P a w K Q) : wpTail P ops Q C t (o :: rest) k a w := by
  unfold wpTail
  simp only [Region.wanted, hg, if_true]
  exact .inl (h _ (fun a w h1 h2 => ⟨h1, h2⟩))

theorem wpTail_late : ∀ (rest : List Oper) (k : Nat) (a : Act) (w : World), t ≤ k → wpList P ops Q rest a w → wpTail P ops Q C t rest k a w
  | [], _, _, _, _, h => h
  | o :: rest, k, a, w, hk, h => by
    unfold wpList at h
    unfold wpTail
    split at h
    · rename_i hw
      simp only [hw, if_true]
      rcases h with h | h
      · exact .inl (Oper.wp_mono (fun a' w' h' => ⟨fun hkt => absurd hk (by omega), wpTail_late rest (k + 1) a' w' (by omega) h'⟩) h)
      · exact .inr h
    · rename_i hw
      simp only [hw]
      exact ⟨fun hkt => absurd hk (by omega), wpTail_late rest (k + 1) _ w (by omega) h⟩

theorem wpAnyT_of_tail : ∀ (l : List Oper) (k : Nat) (listed : Array Bool) (a : Act) (w : World), (∀ j, l[j]? = ops[k + j]?) →
    Region.seqB md ops l.length k listed = true → wpTail P ops Q C t l k a w → wpAnyT P md ops Q C t l.length listed a w
  | [], _, _, _, _, _, hB, h => ⟨by simpa [Region.seqB] using hB, h⟩
  | o :: l, k, listed, a, w, hl, hB, h => by
    have h0 : ops[k]? = some o := by simpa using (hl 0).symm
    simp only [List.length_cons, Region.seqB, Bool.and_eq_true, decide_eq_true_eq] at hB
    refine ⟨fun h1 => (by rw [hB.1] at h1; cases h1), fun i hi => ?_⟩
    rw [hB.1] at hi
    have hik : i = k := by simpa using hi
    subst hik
    have hw : wpOp P ops Q i (fun a' w' => (i < t → C w') ∧ wpTail P ops Q C t l (i + 1) a' w') a w := by
      unfold wpOp; simp only [h0]
      unfold wpTail at h
      split at h
      · rename_i hw; simp only [hw, if_true]; exact h
      · rename_i hw; simp only [hw]; exact h
    exact wpOp_mono (fun a' w' h' => ⟨h'.1, wpAnyT_of_tail l (i + 1) _ a' w' (fun j => by have := hl (j + 1); simpa [Nat.add_assoc, Nat.add_comm 1 j] using this) hB.2 h'.2⟩) hw

def lexHeadT (md : Region.Mode) (ops : Array Oper) (t g : Nat) : Nat → Nat → Array Bool → Bool
  | 0, k, listed => Region.seqB md ops g k listed
  | f + 1, k, listed => (Region.ready md ops listed).contains k && Region.free md ops listed k && decide (k < t) && ((List.range ops.size).all fun j => decide (j < t) || Region.waitsFor md ops j k) && lexHeadT md ops t g f (k + 1) (listed.setIfInBounds k true)

def lexB (md : Region.Mode) (ops : Array Oper) (n t : Nat) : Bool :=
  Region.noSelect ops && decide (n ≤ ops.size) && lexHeadT md ops t (ops.size - n) n 0 (Array.replicate ops.size false)

theorem late_spec {k : Nat} (h : ((List.range ops.size).all fun j => decide (j < t) || Region.waitsFor md ops j k) = true) : ∀ j oj, ops[j]? = some oj → t ≤ j → ∃ e ∈ oj.after, Region.binds md e = true ∧ e.on = k := by
  intro j oj hj htj
  have h1 := List.all_eq_true.1 h j (List.mem_range.2 (Array.getElem?_eq_some_iff.1 hj).1)
  simp only [Bool.or_eq_true, decide_eq_true_eq] at h1
  rcases h1 with h1 | h1
  · omega
  · obtain ⟨o', ho', e, he, hb, hon⟩ := Region.waitsFor_spec h1
    have : o' = oj := Option.some.inj (ho'.symm.trans hj)
    subst this
    exact ⟨e, he, hb, hon⟩

theorem wpAnyT_lex {g : Nat} (hsel : Region.noSelect ops = true) (hQ : ∀ c a d v w, Q (.panic c) (Act.put a d v) w → Q (.panic c) a w) (tl : List Oper) (n : Nat) (hg : tl.length = g) (htl : ∀ j, tl[j]? = ops[n + j]?) (w : World) (hC : C w) :
    ∀ (l : List Oper) (k : Nat) (listed : Array Bool) (a : Act), (∀ j, j < l.length → l[j]? = ops[k + j]?) → k + l.length = n →
    lexHeadT md ops t g l.length k listed = true → wpHead P ops C (fun a' => wpTail P ops Q C t tl n a' w) l a →
    wpAnyT P md ops Q C t (l.length + g) listed a w
  | [], k, listed, a, _, hk, hB, h => by
    have hkn : k = n := by simpa using hk
    subst hkn
    have := wpAnyT_of_tail (md := md) tl k listed a w htl (by rw [hg]; simpa [lexHeadT] using hB) h
    simpa [hg] using this
  | o :: l, k, listed, a, hl, hk, hB, h => by
    have h0 : ops[k]? = some o := by simpa using (hl 0 (by simp)).symm
    simp only [List.length_cons, lexHeadT, Bool.and_eq_true, decide_eq_true_eq] at hB
    obtain ⟨⟨⟨⟨hr, hf⟩, hkt⟩, hlate⟩, hB'⟩ := hB
    have hr' : k ∈ Region.ready md ops listed := by simpa using hr
    obtain ⟨v, hy, hK⟩ := yieldsIf_of_head h
    have IH := wpAnyT_lex hsel hQ tl n hg htl w hC l (k + 1) (listed.setIfInBounds k true) (a.put o.dst v) (fun j hj => by have := hl (j + 1) (by simp; omega); simpa [Nat.add_assoc, Nat.add_comm 1 j] using this) (by simp only [List.length_cons] at hk; omega) hB' hK
    have := wpAnyT_first (t := t) h0 (Region.noSelect_spec hsel) (fun c a w => hQ c a o.dst v w) (late_spec hlate) hkt (l.length + g) listed a w (Region.free_spec h0 hf) hr' hy hC IH
    rw [List.length_cons, show l.length + 1 + g = l.length + g + 1 by omega]
    exact this

/-- A REGION THAT DRAWS ITS ORDER: the first n operations only read, and yield the same in every world of the class C; the rest is forced. -/
theorem wp_region_headTail {id : Nat} {a : Act} {w : World} {l : List Oper} (C : World → Prop) (n t : Nat) (hm : P.follows .mixedOrders = true) (hB : lexB .any l.toArray n t = true)
    (hQ0 : ∀ c a k v w, Q (.panic c) (Act.put a (some k) v) w → Q (.panic c) a w) (hC : C w.drew)
    (h : wpHead P l.toArray C (fun a' => wpTail P l.toArray Q C t (l.drop n) n a' w.drew) (l.take n) a) : (Code.region id l.toArray true).wp P Q a w := by
  have hQ : ∀ c a d v w, Q (.panic c) (Act.put a d v) w → Q (.panic c) a w := fun c a d v w h => by
    cases d with
    | none => exact h
    | some k => exact hQ0 c a k v w h
  simp only [lexB, Bool.and_eq_true, decide_eq_true_eq] at hB
  obtain ⟨⟨hsel, hn⟩, hlex⟩ := hB
  have hn' : n ≤ l.length := by simpa using hn
  have htl : (l.take n).length = n := by simp; omega
  refine wp_region_any hm (wpAny_of_T (C := C) (t := t) _ _ _ _ ?_)
  have H := wpAnyT_lex (md := .any) (P := P) (Q := Q) (C := C) (t := t) (g := l.toArray.size - n) hsel hQ (l.drop n) n (by simp) (fun j => by simp [List.getElem?_drop]) w.drew hC (l.take n) 0 (Array.replicate l.toArray.size false) a (fun j hj => by
    have hj' : j < n := by rw [htl] at hj; exact hj
    simp [hj']) (by simpa using htl) (by rw [htl]; exact hlex) h
  rw [htl, show n + (l.toArray.size - n) = l.toArray.size by simp; omega] at H
  exact H
end

/-- A class of worlds, as the walk's simp takes it: the image of some family of worlds. -/
theorem cls (C : World → Prop) (w0 : World) (h0 : C w0) : ∃ (X : Type) (f : X → World), Nonempty X ∧ (∀ x, C (f x)) ∧ ∀ w, C w → ∃ x, w = f x :=
  ⟨{w // C w}, Subtype.val, ⟨⟨w0, h0⟩⟩, fun x => x.2, fun w h => ⟨⟨w, h⟩, rfl⟩⟩
end Go.HeadTail
