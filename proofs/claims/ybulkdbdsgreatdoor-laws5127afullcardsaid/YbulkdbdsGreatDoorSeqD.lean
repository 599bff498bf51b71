import Derived.Test.YbulkdbdsGreatDoorLk
namespace Go.HeadTail
open Go
section
variable {P : Program} {ops : Array Oper} {Q : Exit → Act → World → Prop} {md : Region.Mode} {C : World → Prop}

/-- as wpAnyT_of_seq, where a panic's frame may be read behind it (deferred calls) -/
theorem wpAnyT_of_seqD (hsel : Region.noSelect ops = true) :
    ∀ (l : List (Bool × Nat × Oper)) (listed : Array Bool) (a : Act) (w : World), (∀ x ∈ l, x.1 = true → ∀ c a v w, Q (.panic c) (Act.put a x.2.2.dst v) w → Q (.panic c) a w) → (∀ x ∈ l, ops[x.2.1]? = some x.2.2) →
    seqB md ops (l.map fun x => (x.1, x.2.1)) listed = true → wpSeq P ops Q C l a w → wpAnyT P md ops Q C ops.size l.length listed a w
  | [], _, _, _, _, _, hB, h => ⟨by simpa [seqB] using hB, h⟩
  | (true, k, o) :: l, listed, a, w, hQ, hl, hB, h => by
    have h0 : ops[k]? = some o := hl (true, k, o) (by simp)
    have hks : k < ops.size := (Array.getElem?_eq_some_iff.1 h0).1
    simp only [List.map_cons, seqB, Bool.and_eq_true] at hB
    obtain ⟨⟨hr, hf⟩, hB'⟩ := hB
    obtain ⟨hC, h⟩ := h
    have hh : ∃ v, YieldsIf P ops C o v a ∧ wpSeq P ops Q C l (a.put o.dst v) w := by
      by_cases hw : Region.wanted o (yielded ops a.tmps) = true
      · simp only [hw, if_true] at h
        obtain ⟨v, h1, h2⟩ := h
        refine ⟨v, .inl ⟨hw, fun w hC => ?_⟩, h2⟩
        have := h1 w hC
        generalize (execOp a.eval o).run P w = r at *
        cases r with
        | ok n w' => cases n <;> simp only [yUpon] at this; rw [this.1, this.2]
        | halt x w' => simp only [yUpon] at this
      · simp only [hw] at h
        exact ⟨undef, .inr ⟨by simpa using hw, rfl⟩, h⟩
    obtain ⟨v, hy, hK⟩ := hh
    exact wpAnyT_first (t := ops.size) h0 (Region.noSelect_spec hsel) (fun c a w => hQ (true, k, o) (by simp) rfl c a v w) (fun j oj hj hge => absurd (Array.getElem?_eq_some_iff.1 hj).1 (by omega)) hks l.length listed a w (Region.free_spec h0 hf) (by simpa using hr) hy hC
      (wpAnyT_of_seqD hsel l _ _ _ (fun x hx => hQ x (by simp [hx])) (fun x hx => hl x (by simp [hx])) hB' hK)
  | (false, k, o) :: l, listed, a, w, hQ, hl, hB, h => by
    have h0 : ops[k]? = some o := hl (false, k, o) (by simp)
    simp only [List.map_cons, seqB, Bool.and_eq_true, decide_eq_true_eq] at hB
    refine ⟨fun h1 => (by rw [hB.1] at h1; cases h1), fun i hi => ?_⟩
    rw [hB.1] at hi
    have hik : i = k := by simpa using hi
    subst hik
    have hw : wpOp P ops Q i (fun a' w' => C w' ∧ wpSeq P ops Q C l a' w') a w := by
      unfold wpOp; simp only [h0]
      unfold wpSeq at h
      split at h
      · rename_i hw; simp only [hw, if_true]; exact h
      · rename_i hw; simp only [hw]; exact h
    exact wpOp_mono (fun a' w' h' => ⟨fun _ => h'.1, wpAnyT_of_seqD hsel l _ a' w' (fun x hx => hQ x (by simp [hx])) (fun x hx => hl x (by simp [hx])) hB.2 h'.2⟩) hw

theorem wp_region_seqD {id : Nat} {a : Act} {w : World} {l : List Oper} (C : World → Prop) (ok : Nat → Bool) (is : List (Bool × Nat)) (hm : P.follows .mixedOrders = true) (hB : seqAllB l.toArray is = true)
    (hd : (is.all fun i => !i.1 || (((l[i.2]?).bind (·.dst)).map ok).getD true) = true)
    (hQ0 : ∀ c a k v w, ok k = true → Q (.panic c) (Act.put a (some k) v) w → Q (.panic c) a w)
    (h : wpSeq P l.toArray Q C (pickS l is) a w.drew) : (Code.region id l.toArray true).wp P Q a w := by
  simp only [seqAllB, Bool.and_eq_true, decide_eq_true_eq] at hB
  obtain ⟨⟨⟨hsel, hlen⟩, hall⟩, hlex⟩ := hB
  have hlt : ∀ i ∈ is, i.2 < l.length := fun i hi => by simpa using List.all_eq_true.1 hall i hi
  have m1 := pickS_map l is hlt
  have l1 : (pickS l is).length = is.length := by rw [← List.length_map (f := fun x => (x.1, x.2.1)), m1]
  have hQ : ∀ x ∈ pickS l is, x.1 = true → ∀ c a v w, Q (.panic c) (Act.put a x.2.2.dst v) w → Q (.panic c) a w := by
    intro x hx h1 c a v w hq
    have hm' : (x.1, x.2.1) ∈ is := by rw [← m1]; exact List.mem_map.2 ⟨x, hx, rfl⟩
    have hs := pickS_spec l is x hx
    have := List.all_eq_true.1 hd _ hm'
    cases hdst : x.2.2.dst with
    | none => rw [hdst] at hq; exact hq
    | some k =>
      rw [hdst] at hq
      refine hQ0 c a k v w ?_ hq
      simpa [h1, hs, hdst] using this
  refine wp_region_any hm (wpAny_of_T (C := C) (t := l.toArray.size) _ _ _ _ ?_)
  have H := wpAnyT_of_seqD (md := .any) (P := P) (Q := Q) (C := C) hsel (pickS l is) (Array.replicate l.toArray.size false) a w.drew hQ (fun x hx => by simpa using pickS_spec l is x hx) (by rw [m1]; exact hlex) h
  rw [l1, hlen] at H
  exact H
end
theorem leaves_put {P : Program} {fn : Func} {R : Ending → World → Prop} {t t' : Array Value} (hr : ∀ w, (results fn t).run P w = (results fn t').run P w) : ∀ (ds : List Deferred) (u : FrameMode) (w : World), Leaves P fn t R ds u w → Leaves P fn t' R ds u w
  | [], .returning, w, h => by
    obtain ⟨v, h1, h2⟩ := h
    exact ⟨v, (hr w).symm.trans h1, h2⟩
  | [], .panicking _, _, h => h
  | [], .run, _, h => h
  | d :: ds, u, w, h => by
    obtain ⟨hu, fv, cap, f, args, ht, hi, hc⟩ := h
    refine ⟨hu, fv, cap, f, args, ht, hi, hc.mono ?_⟩
    intro e u' w' h
    cases e with
    | returned _ => exact leaves_put hr ds _ _ h
    | panicked _ => exact leaves_put hr ds _ _ h
    | outgrown => exact h
end Go.HeadTail
namespace Go.Proofs.YbulkdbdsGreatDoor
open Go.RowKit Go.HeadTail
/-- the slots that hold no result of seen -/
def ok7 (k : Nat) : Bool := decide (k ≠ 4) && decide (k ≠ 5) && decide (k ≠ 6)
theorem seen_put {R : Ending → World → Prop} (c : List PanicEntry) (a : Act) (k : Nat) (v : Value) (w : World) (hk : ok7 k = true) (h : bodyPostD Ybaz.prog Ybaz.f7 R (.panic c) (a.put (some k) v) w) : bodyPostD Ybaz.prog Ybaz.f7 R (.panic c) a w := by
  simp only [ok7, Bool.and_eq_true, decide_eq_true_eq] at hk
  refine leaves_put (fun w => ?_) _ _ _ h
  have e4 : (a.tmps.setIfInBounds k v)[4]? = a.tmps[4]? := Array.getElem?_setIfInBounds_ne hk.1.1
  have e5 : (a.tmps.setIfInBounds k v)[5]? = a.tmps[5]? := Array.getElem?_setIfInBounds_ne hk.1.2
  have e6 : (a.tmps.setIfInBounds k v)[6]? = a.tmps[6]? := Array.getElem?_setIfInBounds_ne hk.2
  simp [results, Ybaz.results7, Act.put, e4, e5, e6]
end Go.Proofs.YbulkdbdsGreatDoor
