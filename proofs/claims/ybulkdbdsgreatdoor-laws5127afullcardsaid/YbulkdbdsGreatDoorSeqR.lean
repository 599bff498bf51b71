import Derived.Test.YbulkdbdsGreatDoorMove
namespace Go.HeadTail
open Go
section
variable {P : Program} {ops : Array Oper} {Q : Exit → Act → World → Prop} {md : Region.Mode} {C : World → Prop} {t : Nat}

/-- Whatever order is picked; each operation numbered below t keeps the class. -/
def wpAnyR (P : Program) (md : Region.Mode) (ops : Array Oper) (Q : Exit → Act → World → Prop) (C : World → Prop) (t : Nat) : Nat → Array Bool → Act → World → Prop
  | 0, listed, a, w => Region.ready md ops listed = [] ∧ Q .normal a w
  | fuel + 1, listed, a, w =>
    (Region.ready md ops listed = [] → Q .normal a w) ∧
    ∀ i ∈ Region.ready md ops listed, wpOp P ops Q i (fun a' w' => (i < t → C w → C w') ∧ wpAnyR P md ops Q C t fuel (listed.setIfInBounds i true) a' w') a w
theorem wpAny_of_R : ∀ (fuel : Nat) (listed : Array Bool) (a : Act) (w : World), wpAnyR P md ops Q C t fuel listed a w → wpAny P md ops Q fuel listed a w
  | 0, _, _, _, h => h
  | fuel + 1, _, _, _, h => ⟨h.1, fun i hi => wpOp_mono (fun a' w' h' => wpAny_of_R fuel _ a' w' h'.2) (h.2 i hi)⟩

theorem wpAnyR_first {i : Nat} {oi : Oper} {v : Value} (hi : ops[i]? = some oi) (hsel : ∀ (j : Nat) (o : Oper) cs b, ops[j]? = some o → o.op ≠ .select cs b)
    (hQ : ∀ c a w, Q (.panic c) (a.put oi.dst v) w → Q (.panic c) a w)
    (hlate : ∀ j oj, ops[j]? = some oj → t ≤ j → ∃ e ∈ oj.after, Region.binds md e = true ∧ e.on = i) :
    ∀ (fuel : Nat) (listed : Array Bool) (a : Act) (w : World),
      (∀ j oj, ops[j]? = some oj → j ≠ i → listed.getD j true = false → (∀ e ∈ oj.after, Region.binds md e = true → e.on ≠ i) → oi.apart ops oj = true) →
      i ∈ Region.ready md ops listed → YieldsIf P ops C oi v a → C w →
      wpAnyR P md ops Q C t fuel (listed.setIfInBounds i true) (a.put oi.dst v) w → wpAnyR P md ops Q C t (fuel + 1) listed a w := by
  intro fuel
  induction fuel with
  | zero =>
    intro listed a w _ hr hy hS H
    refine ⟨fun h => (by rw [h] at hr; cases hr), fun j hj => ?_⟩
    by_cases hji : j = i
    · subst hji; exact hy.wpOp hi hS ⟨fun _ _ => hS, H⟩
    · have := ready_mono hj hji
      rw [H.1] at this
      cases this
  | succ fuel ih =>
    intro listed a w hfree hr hy hS H
    refine ⟨fun h => (by rw [h] at hr; cases hr), fun j hj => ?_⟩
    by_cases hji : j = i
    · subst hji; exact hy.wpOp hi hS ⟨fun _ _ => hS, H⟩
    · have h1 := H.2 j (ready_mono hj hji)
      obtain ⟨hjun, oj, hoj, hall⟩ := mem_ready.1 hj
      have hnot : ∀ e ∈ oj.after, Region.binds md e = true → e.on ≠ i := fun e he hb heq => by
        have h1 := hall e he hb
        have h0 := (mem_ready.1 hr).1
        rw [heq] at h1
        rcases Nat.lt_or_ge i listed.size with h' | h'
        · simp [h'] at h0 h1; rw [h0] at h1; cases h1
        · simp [Array.getElem?_eq_none h'] at h1
      have hjt : j < t := by
        rcases Nat.lt_or_ge j t with h | h
        · exact h
        · obtain ⟨e, he, hb, hon⟩ := hlate j oj hoj h
          exact absurd hon (hnot e he hb)
      have h2 := wpOp_putIf hoj (hfree j oj hoj hji hjun hnot) (fun cs b => hsel i oi cs b hi) (fun cs b => hsel j oj cs b hoj) hQ hy h1
      have hfree' : ∀ k ok, ops[k]? = some ok → k ≠ i → (listed.setIfInBounds j true).getD k true = false →
          (∀ e ∈ ok.after, Region.binds md e = true → e.on ≠ i) → oi.apart ops ok = true := fun k ok hk hki hun hno => by
        refine hfree k ok hk hki ?_ hno
        by_cases hjk : j = k
        · subst hjk; exact hjun
        · rw [getD_set_ne true hjk] at hun; exact hun
      refine wpOp_mono (fun a' w' h3 => ⟨h3.2.1, ih (listed.setIfInBounds j true) a' w' hfree' (ready_mono hr (Ne.symm hji)) h3.1 (h3.2.1 hjt hS) ?_⟩) h2
      rw [Array.setIfInBounds_comm _ _ hji]
      exact h3.2.2

/-- the same for an operation that reads no memory at all -/
theorem wpAnyR_pure {i : Nat} {oi : Oper} {v : Value} (hi : ops[i]? = some oi) (hsel : ∀ (j : Nat) (o : Oper) cs b, ops[j]? = some o → o.op ≠ .select cs b)
    (hQ : ∀ c a w, Q (.panic c) (a.put oi.dst v) w → Q (.panic c) a w) :
    ∀ (fuel : Nat) (listed : Array Bool) (a : Act) (w : World),
      (∀ j oj, ops[j]? = some oj → j ≠ i → listed.getD j true = false → (∀ e ∈ oj.after, Region.binds md e = true → e.on ≠ i) → oi.apart ops oj = true) →
      i ∈ Region.ready md ops listed → YieldsIf P ops (fun _ => True) oi v a →
      wpAnyR P md ops Q C t fuel (listed.setIfInBounds i true) (a.put oi.dst v) w → wpAnyR P md ops Q C t (fuel + 1) listed a w := by
  intro fuel
  induction fuel with
  | zero =>
    intro listed a w _ hr hy H
    refine ⟨fun h => (by rw [h] at hr; cases hr), fun j hj => ?_⟩
    by_cases hji : j = i
    · subst hji; exact hy.wpOp hi trivial ⟨fun _ h => h, H⟩
    · have := ready_mono hj hji
      rw [H.1] at this
      cases this
  | succ fuel ih =>
    intro listed a w hfree hr hy H
    refine ⟨fun h => (by rw [h] at hr; cases hr), fun j hj => ?_⟩
    by_cases hji : j = i
    · subst hji; exact hy.wpOp hi trivial ⟨fun _ h => h, H⟩
    · have h1 := H.2 j (ready_mono hj hji)
      obtain ⟨hjun, oj, hoj, hall⟩ := mem_ready.1 hj
      have hnot : ∀ e ∈ oj.after, Region.binds md e = true → e.on ≠ i := fun e he hb heq => by
        have h1 := hall e he hb
        have h0 := (mem_ready.1 hr).1
        rw [heq] at h1
        rcases Nat.lt_or_ge i listed.size with h' | h'
        · simp [h'] at h0 h1; rw [h0] at h1; cases h1
        · simp [Array.getElem?_eq_none h'] at h1
      have h2 := wpOp_putIf hoj (hfree j oj hoj hji hjun hnot) (fun cs b => hsel i oi cs b hi) (fun cs b => hsel j oj cs b hoj) hQ hy h1
      have hfree' : ∀ k ok, ops[k]? = some ok → k ≠ i → (listed.setIfInBounds j true).getD k true = false →
          (∀ e ∈ ok.after, Region.binds md e = true → e.on ≠ i) → oi.apart ops ok = true := fun k ok hk hki hun hno => by
        refine hfree k ok hk hki ?_ hno
        by_cases hjk : j = k
        · subst hjk; exact hjun
        · rw [getD_set_ne true hjk] at hun; exact hun
      refine wpOp_mono (fun a' w' h3 => ⟨h3.2.1, ih (listed.setIfInBounds j true) a' w' hfree' (ready_mono hr (Ne.symm hji)) h3.1 ?_⟩) h2
      rw [Array.setIfInBounds_comm _ _ hji]
      exact h3.2.2

/-- tag 0: quiet under the class; 1: reads no memory; 2: forced -/
def wpSeqR (P : Program) (ops : Array Oper) (Q : Exit → Act → World → Prop) (C : World → Prop) (t : Nat) : List (Nat × Nat × Oper) → Act → World → Prop
  | [], a, w => Q .normal a w
  | (0, _, o) :: rest, a, w => C w ∧ (if Region.wanted o (yielded ops a.tmps) then yields P o a C (fun a' => wpSeqR P ops Q C t rest a' w) else wpSeqR P ops Q C t rest (a.put o.dst undef) w)
  | (1, _, o) :: rest, a, w => if Region.wanted o (yielded ops a.tmps) then yields P o a (fun _ => True) (fun a' => wpSeqR P ops Q C t rest a' w) else wpSeqR P ops Q C t rest (a.put o.dst undef) w
  | (_, k, o) :: rest, a, w =>
    if Region.wanted o (yielded ops a.tmps) then o.wp P a w (fun a' w' => (k < t → C w → C w') ∧ wpSeqR P ops Q C t rest a' w') Q
    else wpSeqR P ops Q C t rest (a.put o.dst undef) w
theorem wpSeqR_nil {a : Act} {w : World} (h : Q .normal a w) : wpSeqR P ops Q C t [] a w := h
theorem wpSeqR_quiet {o : Oper} {rest : List (Nat × Nat × Oper)} {k : Nat} {a : Act} {w : World} (hC : C w)
    (h : ∀ K : Act → Prop, (∀ a, wpSeqR P ops Q C t rest a w → K a) → if Region.wanted o (yielded ops a.tmps) then yields P o a C K else K (a.put o.dst undef)) : wpSeqR P ops Q C t ((0, k, o) :: rest) a w :=
  ⟨hC, h _ (fun _ h => h)⟩
theorem wpSeqR_value {o : Oper} {rest : List (Nat × Nat × Oper)} {k : Nat} {a : Act} {w : World} (hC : C w) (hgd : o.guard = none) (v : Value)
    (hv : ∀ w', C w' → (execOp a.eval o).run P w' = .ok (.value v) w') (h : wpSeqR P ops Q C t rest (a.put o.dst v) w) : wpSeqR P ops Q C t ((0, k, o) :: rest) a w := by
  refine wpSeqR_quiet hC (fun K hK => ?_)
  simp only [Region.wanted, hgd, if_true]
  exact ⟨v, fun w' hw' => by rw [hv w' hw']; exact ⟨rfl, rfl⟩, hK _ h⟩
theorem wpSeqR_pure {o : Oper} {rest : List (Nat × Nat × Oper)} {k : Nat} {a : Act} {w : World}
    (h : ∀ K : Act → Prop, (∀ a, wpSeqR P ops Q C t rest a w → K a) → if Region.wanted o (yielded ops a.tmps) then yields P o a (fun _ => True) K else K (a.put o.dst undef)) : wpSeqR P ops Q C t ((1, k, o) :: rest) a w :=
  h _ (fun _ h => h)
theorem wpSeqR_op {o : Oper} {rest : List (Nat × Nat × Oper)} {k : Nat} {a : Act} {w : World} (hg : o.guard = none)
    (h : ∀ K : Act → World → Prop, (∀ a w', (k < t → C w → C w') → wpSeqR P ops Q C t rest a w' → K a w') → o.wp P a w K Q) : wpSeqR P ops Q C t ((2, k, o) :: rest) a w := by
  unfold wpSeqR
  simp only [Region.wanted, hg, if_true]
  exact h _ (fun _ _ h1 h2 => ⟨h1, h2⟩)

def rB (md : Region.Mode) (ops : Array Oper) (t : Nat) : List (Nat × Nat) → Array Bool → Bool
  | [], listed => (Region.ready md ops listed).isEmpty
  | (0, k) :: rest, listed => (Region.ready md ops listed).contains k && Region.free md ops listed k && ((List.range ops.size).all fun j => decide (j < t) || Region.waitsFor md ops j k) && rB md ops t rest (listed.setIfInBounds k true)
  | (1, k) :: rest, listed => (Region.ready md ops listed).contains k && Region.free md ops listed k && rB md ops t rest (listed.setIfInBounds k true)
  | (_, k) :: rest, listed => decide (Region.ready md ops listed = [k]) && rB md ops t rest (listed.setIfInBounds k true)

theorem wpAnyR_of_seq (hsel : Region.noSelect ops = true) :
    ∀ (l : List (Nat × Nat × Oper)) (listed : Array Bool) (a : Act) (w : World), (∀ x ∈ l, x.1 < 2 → ∀ c a v w, Q (.panic c) (Act.put a x.2.2.dst v) w → Q (.panic c) a w) → (∀ x ∈ l, ops[x.2.1]? = some x.2.2) →
    rB md ops t (l.map fun x => (x.1, x.2.1)) listed = true → wpSeqR P ops Q C t l a w → wpAnyR P md ops Q C t l.length listed a w
  | [], _, _, _, _, _, hB, h => ⟨by simpa [rB] using hB, h⟩
  | (0, k, o) :: l, listed, a, w, hQ, hl, hB, h => by
    have h0 : ops[k]? = some o := hl (0, k, o) (by simp)
    simp only [List.map_cons, rB, Bool.and_eq_true] at hB
    obtain ⟨⟨⟨hr, hf⟩, hlt⟩, hB'⟩ := hB
    obtain ⟨hC, h⟩ := h
    have hh : ∃ v, YieldsIf P ops C o v a ∧ wpSeqR P ops Q C t l (a.put o.dst v) w := by
      by_cases hw : Region.wanted o (yielded ops a.tmps) = true
      · simp only [hw, if_true] at h
        obtain ⟨v, h1, h2⟩ := h
        refine ⟨v, .inl ⟨hw, fun w hC => ?_⟩, h2⟩
        have := h1 w hC
        generalize (execOp a.eval o).run P w = r at *
        cases r with
        | ok n w' => cases n <;> simp only [yUpon] at this; rw [this.1, this.2]
        | halt x w' => simp only [yUpon] at this
      · simp only [hw] at h
        exact ⟨undef, .inr ⟨by simpa using hw, rfl⟩, h⟩
    obtain ⟨v, hy, hK⟩ := hh
    exact wpAnyR_first h0 (Region.noSelect_spec hsel) (fun c a w => hQ (0, k, o) (by simp) (by show 0 < 2; omega) c a v w) (late_spec hlt) l.length listed a w (Region.free_spec h0 hf) (by simpa using hr) hy hC
      (wpAnyR_of_seq hsel l _ _ _ (fun x hx => hQ x (by simp [hx])) (fun x hx => hl x (by simp [hx])) hB' hK)
  | (1, k, o) :: l, listed, a, w, hQ, hl, hB, h => by
    have h0 : ops[k]? = some o := hl (1, k, o) (by simp)
    simp only [List.map_cons, rB, Bool.and_eq_true] at hB
    obtain ⟨⟨hr, hf⟩, hB'⟩ := hB
    have hh : ∃ v, YieldsIf P ops (fun _ => True) o v a ∧ wpSeqR P ops Q C t l (a.put o.dst v) w := by
      unfold wpSeqR at h
      by_cases hw : Region.wanted o (yielded ops a.tmps) = true
      · simp only [hw, if_true] at h
        obtain ⟨v, h1, h2⟩ := h
        refine ⟨v, .inl ⟨hw, fun w hC => ?_⟩, h2⟩
        have := h1 w hC
        generalize (execOp a.eval o).run P w = r at *
        cases r with
        | ok n w' => cases n <;> simp only [yUpon] at this; rw [this.1, this.2]
        | halt x w' => simp only [yUpon] at this
      · simp only [hw] at h
        exact ⟨undef, .inr ⟨by simpa using hw, rfl⟩, h⟩
    obtain ⟨v, hy, hK⟩ := hh
    exact wpAnyR_pure h0 (Region.noSelect_spec hsel) (fun c a w => hQ (1, k, o) (by simp) (by show 1 < 2; omega) c a v w) l.length listed a w (Region.free_spec h0 hf) (by simpa using hr) hy
      (wpAnyR_of_seq hsel l _ _ _ (fun x hx => hQ x (by simp [hx])) (fun x hx => hl x (by simp [hx])) hB' hK)
  | (n + 2, k, o) :: l, listed, a, w, hQ, hl, hB, h => by
    have h0 : ops[k]? = some o := hl (n + 2, k, o) (by simp)
    simp only [List.map_cons, rB, Bool.and_eq_true, decide_eq_true_eq] at hB
    refine ⟨fun h1 => (by rw [hB.1] at h1; cases h1), fun i hi => ?_⟩
    rw [hB.1] at hi
    have hik : i = k := by simpa using hi
    subst hik
    have hw : wpOp P ops Q i (fun a' w' => (i < t → C w → C w') ∧ wpSeqR P ops Q C t l a' w') a w := by
      have h' : (if Region.wanted o (yielded ops a.tmps) then o.wp P a w (fun a' w' => (i < t → C w → C w') ∧ wpSeqR P ops Q C t l a' w') Q else wpSeqR P ops Q C t l (a.put o.dst undef) w) := h
      unfold wpOp; simp only [h0]
      split at h'
      · rename_i hw; simp only [hw, if_true]; exact .inl h'
      · rename_i hw; simp only [hw]; exact ⟨fun _ h => h, h'⟩
    exact wpOp_mono (fun a' w' h' => ⟨h'.1, wpAnyR_of_seq hsel l _ a' w' (fun x hx => hQ x (by simp [hx])) (fun x hx => hl x (by simp [hx])) hB.2 h'.2⟩) hw

theorem wp_region_seqR {id : Nat} {a : Act} {w : World} {l : List Oper} (C : World → Prop) (t : Nat) (ok : Nat → Bool) (is : List (Nat × Nat)) (hm : P.follows .mixedOrders = true)
    (hB : (Region.noSelect l.toArray && decide (is.length = l.toArray.size) && is.all (fun k => decide (k.2 < l.toArray.size)) && rB .any l.toArray t is (Array.replicate l.toArray.size false)) = true)
    (hd : (is.all fun i => !(decide (i.1 < 2)) || (((l[i.2]?).bind (·.dst)).map ok).getD true) = true)
    (hQ0 : ∀ c a k v w, ok k = true → Q (.panic c) (Act.put a (some k) v) w → Q (.panic c) a w)
    (h : wpSeqR P l.toArray Q C t (pickF l is) a w.drew) : (Code.region id l.toArray true).wp P Q a w := by
  simp only [Bool.and_eq_true, decide_eq_true_eq] at hB
  obtain ⟨⟨⟨hsel, hlen⟩, hall⟩, hlex⟩ := hB
  have hlt : ∀ i ∈ is, i.2 < l.length := fun i hi => by simpa using List.all_eq_true.1 hall i hi
  have m1 := pickF_map l is hlt
  have l1 : (pickF l is).length = is.length := by rw [← List.length_map (f := fun x => (x.1, x.2.1)), m1]
  have hQ : ∀ x ∈ pickF l is, x.1 < 2 → ∀ c a v w, Q (.panic c) (Act.put a x.2.2.dst v) w → Q (.panic c) a w := by
    intro x hx h1 c a v w hq
    have hm' : (x.1, x.2.1) ∈ is := by rw [← m1]; exact List.mem_map.2 ⟨x, hx, rfl⟩
    have hs := pickF_spec l is x hx
    have := List.all_eq_true.1 hd _ hm'
    cases hdst : x.2.2.dst with
    | none => rw [hdst] at hq; exact hq
    | some k =>
      rw [hdst] at hq
      refine hQ0 c a k v w ?_ hq
      simpa [h1, hs, hdst] using this
  refine wp_region_any hm (wpAny_of_R (C := C) (t := t) _ _ _ _ ?_)
  have H := wpAnyR_of_seq (md := .any) (P := P) (Q := Q) (C := C) (t := t) hsel (pickF l is) (Array.replicate l.toArray.size false) a w.drew hQ (fun x hx => by simpa using pickF_spec l is x hx) (by rw [m1]; exact hlex) h
  rw [l1, hlen] at H
  exact H
end
end Go.HeadTail
