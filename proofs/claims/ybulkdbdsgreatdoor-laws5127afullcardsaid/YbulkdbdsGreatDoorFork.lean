import Derived.Test.YbulkdbdsGreatDoorSecs
namespace Go.HeadTail
open Go
section
variable {P : Program} {ops : Array Oper} {Q : Exit → Act → World → Prop} {md : Region.Mode} {C : World → Prop}

/-- the same walk once the floating operation is done -/
def toSeq : List (Nat × Nat × Oper) → List (Bool × Nat × Oper)
  | [] => []
  | (0, k, o) :: rest => (true, k, o) :: toSeq rest
  | (2, _, _) :: rest => toSeq rest
  | (_, k, o) :: rest => (false, k, o) :: toSeq rest
def toSeqI : List (Nat × Nat) → List (Bool × Nat)
  | [] => []
  | (0, k) :: rest => (true, k) :: toSeqI rest
  | (2, _) :: rest => toSeqI rest
  | (_, k) :: rest => (false, k) :: toSeqI rest

/-- A walk with ONE FLOATING operation (tag 2 where it must come at the latest; tag 0: quiet; tag 1: this or the floating one; tag 3: behind the floating one). -/
def wpF (P : Program) (ops : Array Oper) (Q : Exit → Act → World → Prop) (C : World → Prop) (kf : Nat) (of : Oper) : List (Nat × Nat × Oper) → Act → World → Prop
  | [], _, _ => False
  | (0, _, o) :: rest, a, w => C w ∧ (if Region.wanted o (yielded ops a.tmps) then yields P o a C (fun a' => wpF P ops Q C kf of rest a' w) else wpF P ops Q C kf of rest (a.put o.dst undef) w)
  | (1, k, o) :: rest, a, w => o.wp P a w (fun a' w' => C w' ∧ wpF P ops Q C kf of rest a' w') Q ∧ of.wp P a w (fun a' w' => C w' ∧ wpSeq P ops Q C (toSeq ((1, k, o) :: rest)) a' w') Q
  | (_, _, _) :: rest, a, w => of.wp P a w (fun a' w' => C w' ∧ wpSeq P ops Q C (toSeq rest) a' w') Q

theorem wpF_quiet {kf : Nat} {of o : Oper} {rest : List (Nat × Nat × Oper)} {k : Nat} {a : Act} {w : World} (hC : C w)
    (h : ∀ K : Act → Prop, (∀ a, wpF P ops Q C kf of rest a w → K a) → if Region.wanted o (yielded ops a.tmps) then yields P o a C K else K (a.put o.dst undef)) : wpF P ops Q C kf of ((0, k, o) :: rest) a w :=
  ⟨hC, h _ (fun _ h => h)⟩
theorem wpF_value {kf : Nat} {of o : Oper} {rest : List (Nat × Nat × Oper)} {k : Nat} {a : Act} {w : World} (hC : C w) (hgd : o.guard = none) (v : Value)
    (hv : ∀ w', C w' → (execOp a.eval o).run P w' = .ok (.value v) w') (h : wpF P ops Q C kf of rest (a.put o.dst v) w) : wpF P ops Q C kf of ((0, k, o) :: rest) a w := by
  refine wpF_quiet hC (fun K hK => ?_)
  simp only [Region.wanted, hgd, if_true]
  exact ⟨v, fun w' hw' => by rw [hv w' hw']; exact ⟨rfl, rfl⟩, hK _ h⟩
theorem wpF_fork {kf : Nat} {of o : Oper} {rest : List (Nat × Nat × Oper)} {k : Nat} {a : Act} {w : World}
    (h1 : ∀ K : Act → World → Prop, (∀ a w, C w → wpF P ops Q C kf of rest a w → K a w) → o.wp P a w K Q)
    (h2 : ∀ K : Act → World → Prop, (∀ a w, C w → wpSeq P ops Q C (toSeq ((1, k, o) :: rest)) a w → K a w) → of.wp P a w K Q) : wpF P ops Q C kf of ((1, k, o) :: rest) a w :=
  ⟨h1 _ (fun _ _ h h' => ⟨h, h'⟩), h2 _ (fun _ _ h h' => ⟨h, h'⟩)⟩
theorem wpF_now {kf : Nat} {of o : Oper} {rest : List (Nat × Nat × Oper)} {k : Nat} {a : Act} {w : World}
    (h2 : ∀ K : Act → World → Prop, (∀ a w, C w → wpSeq P ops Q C (toSeq rest) a w → K a w) → of.wp P a w K Q) : wpF P ops Q C kf of ((2, k, o) :: rest) a w := by
  unfold wpF
  exact h2 _ (fun _ _ h h' => ⟨h, h'⟩)

/-- the check -/
def fB (md : Region.Mode) (ops : Array Oper) (kf : Nat) : List (Nat × Nat) → Array Bool → Bool
  | [], _ => false
  | (0, k) :: rest, listed => (Region.ready md ops listed).contains k && Region.free md ops listed k && fB md ops kf rest (listed.setIfInBounds k true)
  | (1, k) :: rest, listed => (decide (Region.ready md ops listed = [k, kf]) || decide (Region.ready md ops listed = [kf, k])) && fB md ops kf rest (listed.setIfInBounds k true) && decide ((toSeqI rest).length + 1 = rest.length) && seqB md ops (toSeqI ((1, k) :: rest)) (listed.setIfInBounds kf true)
  | (_, _) :: rest, listed => decide (Region.ready md ops listed = [kf]) && decide ((toSeqI rest).length = rest.length) && seqB md ops (toSeqI rest) (listed.setIfInBounds kf true)

theorem toSeq_map : ∀ (l : List (Nat × Nat × Oper)), (toSeq l).map (fun x => (x.1, x.2.1)) = toSeqI (l.map fun x => (x.1, x.2.1))
  | [] => rfl
  | (0, k, o) :: rest => by simp only [toSeq, List.map_cons, toSeqI, toSeq_map rest]
  | (1, k, o) :: rest => by simp only [toSeq, List.map_cons, toSeqI, toSeq_map rest]
  | (2, k, o) :: rest => by simp only [toSeq, List.map_cons, toSeqI, toSeq_map rest]
  | (n + 3, k, o) :: rest => by simp only [toSeq, List.map_cons, toSeqI, toSeq_map rest]
theorem toSeq_mem : ∀ (l : List (Nat × Nat × Oper)), (∀ x ∈ l, ops[x.2.1]? = some x.2.2) → ∀ x ∈ toSeq l, ops[x.2.1]? = some x.2.2
  | [], _, x, hx => by simp [toSeq] at hx
  | (0, k, o) :: rest, h, x, hx => by
    simp only [toSeq, List.mem_cons] at hx
    rcases hx with rfl | hx
    · exact h (0, k, o) (by simp)
    · exact toSeq_mem rest (fun y hy => h y (by simp [hy])) x hx
  | (1, k, o) :: rest, h, x, hx => by
    simp only [toSeq, List.mem_cons] at hx
    rcases hx with rfl | hx
    · exact h (1, k, o) (by simp)
    · exact toSeq_mem rest (fun y hy => h y (by simp [hy])) x hx
  | (2, k, o) :: rest, h, x, hx => by
    simp only [toSeq] at hx
    exact toSeq_mem rest (fun y hy => h y (by simp [hy])) x hx
  | (n + 3, k, o) :: rest, h, x, hx => by
    simp only [toSeq, List.mem_cons] at hx
    rcases hx with rfl | hx
    · exact h (n + 3, k, o) (by simp)
    · exact toSeq_mem rest (fun y hy => h y (by simp [hy])) x hx

theorem wpAnyT_of_F (hsel : Region.noSelect ops = true) (hQ : ∀ c a d v w, Q (.panic c) (Act.put a d v) w → Q (.panic c) a w) {kf : Nat} {of : Oper} (hkf : ops[kf]? = some of) (hgf : of.guard = none) :
    ∀ (l : List (Nat × Nat × Oper)) (listed : Array Bool) (a : Act) (w : World), (∀ x ∈ l, ops[x.2.1]? = some x.2.2) → (∀ x ∈ l, x.1 = 1 → x.2.2.guard = none) →
    fB md ops kf (l.map fun x => (x.1, x.2.1)) listed = true → wpF P ops Q C kf of l a w → wpAnyT P md ops Q C ops.size l.length listed a w
  | [], _, _, _, _, _, _, h => h.elim
  | (0, k, o) :: l, listed, a, w, hl, hg, hB, h => by
    have h0 : ops[k]? = some o := hl (0, k, o) (by simp)
    have hks : k < ops.size := (Array.getElem?_eq_some_iff.1 h0).1
    simp only [List.map_cons, fB, Bool.and_eq_true] at hB
    obtain ⟨⟨hr, hf⟩, hB'⟩ := hB
    obtain ⟨hC, h⟩ := h
    have hh : ∃ v, YieldsIf P ops C o v a ∧ wpF P ops Q C kf of l (a.put o.dst v) w := by
      by_cases hw : Region.wanted o (yielded ops a.tmps) = true
      · simp only [hw, if_true] at h
        obtain ⟨v, h1, h2⟩ := h
        refine ⟨v, .inl ⟨hw, fun w hC => ?_⟩, h2⟩
        have := h1 w hC
        generalize (execOp a.eval o).run P w = r at *
        cases r with
        | ok n w' => cases n <;> simp only [yUpon] at this; rw [this.1, this.2]
        | halt x w' => simp only [yUpon] at this
      · simp only [hw] at h
        exact ⟨undef, .inr ⟨by simpa using hw, rfl⟩, h⟩
    obtain ⟨v, hy, hK⟩ := hh
    exact wpAnyT_first (t := ops.size) h0 (Region.noSelect_spec hsel) (fun c a w => hQ c a o.dst v w) (fun j oj hj hge => absurd (Array.getElem?_eq_some_iff.1 hj).1 (by omega)) hks l.length listed a w (Region.free_spec h0 hf) (by simpa using hr) hy hC
      (wpAnyT_of_F hsel hQ hkf hgf l _ _ _ (fun x hx => hl x (by simp [hx])) (fun x hx => hg x (by simp [hx])) hB' hK)
  | (1, k, o) :: l, listed, a, w, hl, hg, hB, h => by
    have h0 : ops[k]? = some o := hl (1, k, o) (by simp)
    have hgo : o.guard = none := hg (1, k, o) (by simp) rfl
    simp only [List.map_cons, fB, Bool.and_eq_true, Bool.or_eq_true, decide_eq_true_eq] at hB
    obtain ⟨⟨⟨hr, hB1⟩, hlen⟩, hB2⟩ := hB
    have hlen' : (toSeq ((1, k, o) :: l)).length = l.length := by
      have := congrArg List.length (toSeq_map l)
      simp only [List.length_map] at this hlen
      simp only [toSeq, List.length_cons]
      omega
    have hmem : ∀ i, i ∈ Region.ready md ops listed → i = k ∨ i = kf := by
      intro i hi
      rcases hr with hr | hr <;> (rw [hr] at hi; simp at hi; omega)
    have hne : Region.ready md ops listed ≠ [] := by rcases hr with hr | hr <;> simp [hr]
    refine ⟨fun h1 => absurd h1 hne, fun i hi => ?_⟩
    rcases hmem i hi with rfl | rfl
    · have hw : wpOp P ops Q i (fun a' w' => C w' ∧ wpF P ops Q C kf of l a' w') a w := by
        unfold wpOp; simp only [h0, Region.wanted, hgo, if_true]
        exact .inl h.1
      exact wpOp_mono (fun a' w' h' => ⟨fun _ => h'.1, wpAnyT_of_F hsel hQ hkf hgf l _ a' w' (fun x hx => hl x (by simp [hx])) (fun x hx => hg x (by simp [hx])) hB1 h'.2⟩) hw
    · have hw : wpOp P ops Q i (fun a' w' => C w' ∧ wpSeq P ops Q C (toSeq ((1, k, o) :: l)) a' w') a w := by
        unfold wpOp; simp only [hkf, Region.wanted, hgf, if_true]
        exact .inl h.2
      refine wpOp_mono (fun a' w' h' => ⟨fun _ => h'.1, ?_⟩) hw
      have := wpAnyT_of_seq (md := md) hsel hQ (toSeq ((1, k, o) :: l)) (listed.setIfInBounds i true) a' w' (toSeq_mem _ hl) (by rw [toSeq_map]; exact hB2) h'.2
      rwa [hlen'] at this
  | (n + 2, k, o) :: l, listed, a, w, hl, hg, hB, h => by
    simp only [List.map_cons, fB, Bool.and_eq_true, decide_eq_true_eq] at hB
    obtain ⟨⟨hr, hlen⟩, hB2⟩ := hB
    have hlen' : (toSeq l).length = l.length := by
      have := congrArg List.length (toSeq_map l)
      simp only [List.length_map] at this hlen
      omega
    refine ⟨fun h1 => (by rw [hr] at h1; cases h1), fun i hi => ?_⟩
    rw [hr] at hi
    have hik : i = kf := by simpa using hi
    subst hik
    have hw : wpOp P ops Q i (fun a' w' => C w' ∧ wpSeq P ops Q C (toSeq l) a' w') a w := by
      unfold wpOp; simp only [hkf, Region.wanted, hgf, if_true]
      unfold wpF at h
      exact .inl h
    refine wpOp_mono (fun a' w' h' => ⟨fun _ => h'.1, ?_⟩) hw
    have := wpAnyT_of_seq (md := md) hsel hQ (toSeq l) (listed.setIfInBounds i true) a' w' (toSeq_mem _ (fun x hx => hl x (by simp [hx]))) (by rw [toSeq_map]; exact hB2) h'.2
    rwa [hlen'] at this

def pickF (l : List Oper) : List (Nat × Nat) → List (Nat × Nat × Oper)
  | [] => []
  | (b, k) :: rest => match l[k]? with
    | some o => (b, k, o) :: pickF l rest
    | none => pickF l rest
theorem pickF_spec (l : List Oper) : ∀ (is : List (Nat × Nat)), ∀ x ∈ pickF l is, l[x.2.1]? = some x.2.2
  | [], x, hx => by simp [pickF] at hx
  | (b, k) :: rest, x, hx => by
    unfold pickF at hx
    split at hx
    · rename_i o ho
      simp only [List.mem_cons] at hx
      rcases hx with rfl | hx
      · exact ho
      · exact pickF_spec l rest x hx
    · exact pickF_spec l rest x hx
theorem pickF_map (l : List Oper) : ∀ (is : List (Nat × Nat)), (∀ i ∈ is, i.2 < l.length) → (pickF l is).map (fun x => (x.1, x.2.1)) = is
  | [], _ => rfl
  | (b, k) :: rest, h => by
    have hk : k < l.length := h (b, k) (by simp)
    unfold pickF
    rw [List.getElem?_eq_getElem hk]
    simp only [List.map_cons]
    rw [pickF_map l rest (fun j hj => h j (by simp [hj]))]

def fAllB (ops : Array Oper) (kf : Nat) (is : List (Nat × Nat)) : Bool :=
  Region.noSelect ops && decide (is.length = ops.size) && is.all (fun k => decide (k.2 < ops.size)) && is.all (fun k => decide (k.1 ≠ 1) || ((ops[k.2]?.map (·.guard.isNone)).getD false)) && fB .any ops kf is (Array.replicate ops.size false)

/-- A REGION THAT DRAWS ITS ORDER, with one floating operation kf. -/
theorem wp_region_float {id : Nat} {a : Act} {w : World} {l : List Oper} (C : World → Prop) (kf : Nat) (of : Oper) (is : List (Nat × Nat)) (hm : P.follows .mixedOrders = true) (hkf : l[kf]? = some of) (hgf : of.guard = none) (hB : fAllB l.toArray kf is = true)
    (hQ0 : ∀ c a k v w, Q (.panic c) (Act.put a (some k) v) w → Q (.panic c) a w)
    (h : wpF P l.toArray Q C kf of (pickF l is) a w.drew) : (Code.region id l.toArray true).wp P Q a w := by
  have hQ : ∀ c a d v w, Q (.panic c) (Act.put a d v) w → Q (.panic c) a w := fun c a d v w h => by
    cases d with
    | none => exact h
    | some k => exact hQ0 c a k v w h
  simp only [fAllB, Bool.and_eq_true, decide_eq_true_eq] at hB
  obtain ⟨⟨⟨⟨hsel, hlen⟩, hall⟩, hgs⟩, hlex⟩ := hB
  have hlt : ∀ i ∈ is, i.2 < l.length := fun i hi => by simpa using List.all_eq_true.1 hall i hi
  have m1 := pickF_map l is hlt
  have l1 : (pickF l is).length = is.length := by rw [← List.length_map (f := fun x => (x.1, x.2.1)), m1]
  refine wp_region_any hm (wpAny_of_T (C := C) (t := l.toArray.size) _ _ _ _ ?_)
  have hgd : ∀ x ∈ pickF l is, x.1 = 1 → x.2.2.guard = none := by
    intro x hx h1
    have hm' : (x.1, x.2.1) ∈ is := by rw [← m1]; exact List.mem_map.2 ⟨x, hx, rfl⟩
    have := List.all_eq_true.1 hgs _ hm'
    have hs := pickF_spec l is x hx
    simp [h1, hs] at this
    exact this
  have H := wpAnyT_of_F (md := .any) (P := P) (Q := Q) (C := C) hsel hQ (kf := kf) (of := of) (by simpa using hkf) hgf (pickF l is) (Array.replicate l.toArray.size false) a w.drew (fun x hx => by simpa using pickF_spec l is x hx) hgd (by rw [m1]; exact hlex) h
  rw [l1, hlen] at H
  exact H
end
end Go.HeadTail
