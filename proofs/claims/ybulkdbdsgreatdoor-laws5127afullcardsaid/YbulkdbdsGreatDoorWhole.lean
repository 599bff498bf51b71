import Derived.Test.YbulkdbdsGreatDoorAs
import Derived.Deep.MidRow
import Derived.Laws.IdiomCopy
namespace Go.Proofs.YbulkdbdsGreatDoor
open Go.RowKit Go.HeadTail

/-- a whole value out of a block -/
theorem Blk.range {w : World} {b : Nat} {cs : Array Value} {t : TypeId} (h : Blk w b cs t) (o n : Nat) : w.rangeAt b o (cs.extract o (o + n)).toList := World.rangeAt_of_block h o n
theorem Blk.load {P : Program} {w : World} {b : Nat} {cs : Array Value} {t : TypeId} (h : Blk w b cs t) (o n : Nat) (ty : TypeId) (vs : Array Value) (hv : cs.extract o (o + n) = vs)
    (hd : ((P.underlying ty).map (·.isRow)).getD false = true) (hi : (P.info? ty).map (·.size) = some vs.size) :
    (loadVar ty ⟨b, o, none⟩).run P w = .ok (.agg vs) w := by
  subst hv
  cases hu : P.underlying ty with
  | none => rw [hu] at hd; cases hd
  | some d =>
  rw [hu] at hd
  simpa only [Array.toArray_toList] using run_loadVar_mid (P := P) w b o ty _ d (h.range o n) hu (by simpa using hd) (by rw [hi]; simp only [Array.length_toList])
theorem Blk.loadAt {P : Program} {w : World} {b : Nat} {cs : Array Value} {t : TypeId} (h : Blk w b cs t) (o n : Nat) (ty : TypeId) (vs : Array Value) (hv : cs.extract o (o + n) = vs)
    (hd : ((P.underlying ty).map (·.isRow)).getD false = true) (hi : (P.info? ty).map (·.size) = some vs.size) :
    (Instr.loadAt ty (.pointer (some ⟨b, o, none⟩))).run P w = .ok (.agg vs) w := by
  subst hv
  cases hu : P.underlying ty with
  | none => rw [hu] at hd; cases hd
  | some d =>
  rw [hu] at hd
  simpa only [Array.toArray_toList] using run_loadAt_mid (P := P) w b o ty _ d (h.range o n) hu (by simpa using hd) (by rw [hi]; simp only [Array.length_toList])

/-- cells laid from o on -/
def lays (cs : Array Value) : Nat → List Value → Array Value
  | _, [] => cs
  | o, v :: r => lays (cs.setIfInBounds o v) (o + 1) r
theorem lays_size : ∀ (vs : List Value) (o : Nat) (cs : Array Value), (lays cs o vs).size = cs.size
  | [], _, _ => rfl
  | v :: r, o, cs => by rw [lays, lays_size r]; simp
theorem Blk.setCells {b : Nat} {t : TypeId} : ∀ (vs : List Value) (o : Nat) {w : World} {cs : Array Value}, Blk w b cs t → Blk (w.setCells b o vs) b (lays cs o vs) t
  | [], _, _, _, h => h
  | v :: r, o, _, _, h => Blk.setCells r (o + 1) (h.set o v)
theorem Kept.setCells {S : Nat → Prop} {a : World} {b : Nat} : ∀ (vs : List Value) (o : Nat) {w : World}, Kept S a w → (b < a.heap.size → S b) → Kept S a (w.setCells b o vs)
  | [], _, _, h, _ => h
  | v :: r, o, _, h, hs => Kept.setCells r (o + 1) (h.set hs v) hs
theorem Blk.store {P : Program} {w : World} {b : Nat} {cs : Array Value} {t : TypeId} (h : Blk w b cs t) (o : Nat) (ty : TypeId) (vs : Array Value) (hs : o + vs.size ≤ cs.size)
    (hi : (P.info? ty).map (·.size) = some vs.size) (h1 : vs.all (·.oneCell') = true) :
    (storeVar ty ⟨b, o, none⟩ (.agg vs)).run P w = .ok () (w.setCells b o vs.toList) :=
  run_storeVar_mid w b o ty vs (fun j hj => ⟨by rw [h.cell, Array.getElem?_eq_getElem (by omega)]; rfl, h.frozen _⟩) hi h1
theorem Blk.storeAt {P : Program} {w : World} {b : Nat} {cs : Array Value} {t : TypeId} (h : Blk w b cs t) (o : Nat) (ty : TypeId) (vs : Array Value) (hs : o + vs.size ≤ cs.size)
    (hi : (P.info? ty).map (·.size) = some vs.size) (h1 : vs.all (·.oneCell') = true) :
    (Instr.storeAt ty (.pointer (some ⟨b, o, none⟩)) (.agg vs)).run P w = .ok () (w.setCells b o vs.toList) :=
  run_storeAt_mid w b o ty vs (fun j hj => ⟨by rw [h.cell, Array.getElem?_eq_getElem (by omega)]; rfl, h.frozen _⟩) hi h1
theorem lays_get : ∀ (vs : List Value) (o : Nat) (cs : Array Value) (j : Nat), (lays cs o vs)[j]? = if o ≤ j ∧ j < o + vs.length ∧ j < cs.size then vs[j - o]? else cs[j]?
  | [], o, cs, j => by rw [lays, if_neg (by simp; omega)]
  | v :: r, o, cs, j => by
    rw [lays, lays_get r (o + 1)]
    simp only [Array.size_setIfInBounds, List.length_cons]
    by_cases h1 : o + 1 ≤ j ∧ j < o + 1 + r.length ∧ j < cs.size
    · rw [if_pos h1, if_pos (by omega), show j - o = (j - (o + 1)) + 1 by omega, List.getElem?_cons_succ]
    · rw [if_neg h1, Array.getElem?_setIfInBounds]
      by_cases h2 : o = j
      · subst h2
        by_cases h3 : o < cs.size
        · rw [if_pos rfl, if_pos h3, if_pos (by omega)]; simp
        · rw [if_pos rfl, if_neg h3, if_neg (by omega)]; rw [Array.getElem?_eq_none (by omega)]
      · rw [if_neg h2, if_neg (by omega)]
/-- the whole of it laid anew -/
theorem lays_all (cs vs : Array Value) (h : cs.size = vs.size) : lays cs 0 vs.toList = vs := by
  apply Array.ext_getElem?
  intro j
  rw [lays_get]
  by_cases hj : j < cs.size
  · rw [if_pos (by simp; omega)]; simp
  · rw [if_neg (by simp; omega), Array.getElem?_eq_none (by omega), Array.getElem?_eq_none (by omega)]
theorem Blk.setAll {w : World} {b : Nat} {cs : Array Value} {t : TypeId} (h : Blk w b cs t) (vs : Array Value) (hs : cs.size = vs.size) : Blk (w.setCells b 0 vs.toList) b vs t := by
  have := h.setCells vs.toList 0
  rwa [lays_all cs vs hs] at this
theorem Blk.setCellsOther {w : World} {b : Nat} {cs : Array Value} {t : TypeId} (h : Blk w b cs t) {b' : Nat} (o : Nat) (vs : List Value) (hne : b ≠ b') : Blk (w.setCells b' o vs) b cs t :=
  (Kept.setCells (S := fun k => k = b') vs o (Kept.refl _ w) (fun _ => rfl)).blk h hne
theorem size_setCells (w : World) (b o : Nat) (vs : List Value) : (w.setCells b o vs).heap.size = w.heap.size := by
  induction vs generalizing w o with
  | nil => rfl
  | cons v r ih => rw [World.setCells, ih]; simp
end Go.Proofs.YbulkdbdsGreatDoor
