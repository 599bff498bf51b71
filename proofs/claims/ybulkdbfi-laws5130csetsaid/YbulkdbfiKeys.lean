import Derived.Test.YbulkdbfiDelete
import Derived.Maps.OwnSet
import Derived.DeepKeys4
namespace Go.Proofs.Ybulkdbfi
open Go.RowKit Go.Maps

theorem laidOut : laidOutB Yba.prog = true := by kernel_rfl
theorem row43 : (43 : TypeId) < Yba.prog.types.size := of_decide_eq_true (by kernel_rfl)
theorem wide43 : (match Yba.prog.underlying 43 with | some (.array _ _) | some (.struct _) => true | _ => false) = true := by rw [Yba.underlying43]
theorem law43 : Keyed Yba.prog 43 := Keyed.of_law (deep_law_laid laidOut (m := 2) (by omega) row43 (by kernel_rfl) wide43)
theorem cells43 : Yba.prog.cellsOf 43 = 3 := by kernel_rfl
theorem cells9 : Yba.prog.cellsOf 9 = 1 := by kernel_rfl
theorem kt43 : Yba.prog.keyType 43 = true := by kernel_rfl

theorem key_some (N D P : ByteArray) (hN : N.size ≤ maxLen) (hD : D.size ≤ maxLen) (hP : P.size ≤ maxLen) : (keyOf Yba.prog 43 (.agg #[.string N, .string D, .string P])).isSome = true := by
  obtain ⟨m, hm⟩ : ∃ m, Yba.prog.types.size + 1 = m + 2 := ⟨Yba.prog.types.size - 1, by have h : (43 : Nat) < Yba.prog.types.size := row43; omega⟩
  have fm : (Value.agg #[.string N, .string D, .string P]).formed Yba.prog 43 = true := by simp [Value.formed, Yba.underlying43, cells43]
  unfold keyOf
  rw [Yba.underlying43]
  simp only [kt43, fm, Bool.and_self, if_true, hm]
  simp [Program.keyLits, Yba.underlying43, Yba.underlying9, cells43, cells9, Value.cells, hN, hD, hP]

def klP (P : Program) (a : Ck) : Lit := (keyOf P 43 (keyV a)).getD .nil
theorem nm_small (i : Nat) : (nmI i).size ≤ maxLen := by
  match i with
  | 0 | 1 | 2 => decide
  | _ + 3 => exact Nat.zero_le _
theorem dm_small (i : Nat) : (dmI i).size ≤ maxLen := by
  match i with
  | 0 | 1 => decide
  | _ + 2 => exact Nat.zero_le _
theorem pt_small (i : Nat) : (ptI i).size ≤ maxLen := by
  match i with
  | 0 | 1 => decide
  | _ + 2 => exact Nat.zero_le _
theorem kl_is (a : Ck) : keyOf Yba.prog 43 (keyV a) = some ((klP Yba.prog) a) := by
  have := key_some (nm a) (dm a) (pt a) (nm_small _) (dm_small _) (pt_small _)
  unfold klP
  obtain ⟨l, hl⟩ := Option.isSome_iff_exists.1 this
  unfold keyV
  rw [hl]; rfl
theorem kl_key (a : Ck) : WideAt.IsKeyLit ((klP Yba.prog) a) := law43.key (kl_is a)

theorem same_key {a b : Ck} (h : same a b = true) : keyV a = keyV b := by
  unfold same at h
  simp at h
  unfold keyV nm dm pt
  rw [h.1.1, h.1.2, h.2]
theorem key_same {a b : Ck} (ha : a.ok) (hb : b.ok) (h : keyV a = keyV b) : same a b = true := by
  obtain ⟨a1, a2, a3, a4, a5, a6, a7, a8⟩ := ha
  obtain ⟨b1, b2, b3, b4, b5, b6, b7, b8⟩ := hb
  unfold keyV nm dm pt at h
  simp at h
  obtain ⟨e1, e2, e3⟩ := h
  have n1 := nm_inj (a.n % 4).toNat (b.n % 4).toNat (by omega) (by omega)
  have n2 := dm_inj (a.d % 3).toNat (b.d % 3).toNat (by omega) (by omega)
  have n3 := pt_inj (a.p % 3).toNat (b.p % 3).toNat (by omega) (by omega)
  rw [e1] at n1
  rw [e2] at n2
  rw [e3] at n3
  rw [toNat_beq (by omega) (by omega)] at n1 n2 n3
  unfold same
  simp at n1 n2 n3
  simp [← n1, ← n2, ← n3]
theorem kl_eq {a b : Ck} (ha : a.ok) (hb : b.ok) : ((klP Yba.prog) a = (klP Yba.prog) b) ↔ same a b = true := by
  constructor
  · intro h
    exact key_same ha hb (law43.inj (kl_is a) (h ▸ kl_is b))
  · intro h
    have := kl_is a
    rw [same_key h, kl_is b] at this
    exact (Option.some.inj this).symm

/-- the elements' reader -/
abbrev RBP (P : Program) : Value → Option (DataW Unit × List MemPlace) := plainElem P 4
def lb (x : Bool) : DataW Unit := .lit (.bool x)
theorem RB_mk (x : Bool) : (RBP Yba.prog) (.bool x) = some (lb x, []) := plainElem_bool Yba.underlying4 x
theorem zero4 (w : World) : (zeroValue 4).run Yba.prog w = .ok (.bool false) w := by kernel_rfl

theorem look_bool {w : World} {b n : Nat} {D : DataW Unit} {x y : Bool} (a : Ck) (h : w.ownsMap Yba.prog 43 (RBP Yba.prog) b n D) (hx : D.atKey ((klP Yba.prog) a) (lb false) = lb x) (hy : Maps.has D ((klP Yba.prog) a) = y) :
    (Instr.lookup 27 (.map (some b)) (keyV a) true).run Yba.prog w = .ok (.tuple #[.bool x, .bool y]) w := by
  obtain ⟨v, ps, hrun, hv⟩ := h.look_ok law43 Yba.underlying27 (zero4 w) (RB_mk false) (kl_is a)
  rw [hx] at hv
  have : v = .bool x := by
    unfold RBP plainElem lb at hv
    rw [Yba.underlying4] at hv
    cases v <;> simp at hv
    rename_i z
    rw [hv.1]
  rw [hrun, this, hy]

/-- the map of the jar's marks, all false, with the keys of ks -/
def D0P (P : Program) (ks : List Ck) : DataW Unit := setOf (lb false) (ks.map (klP P))
theorem D0_snoc (ks : List Ck) (k : Ck) : (D0P Yba.prog) (ks ++ [k]) = ((D0P Yba.prog) ks).put ((klP Yba.prog) k) (lb false) := by
  unfold D0P; rw [List.map_append]; exact setOf_snoc _ _ _
theorem keys_ok (ks : List Ck) : ∀ x ∈ ks.map (klP Yba.prog), WideAt.IsKeyLit x := fun x hx => by
  obtain ⟨k, _, rfl⟩ := List.mem_map.1 hx
  exact kl_key k
theorem D0_tidy (ks : List Ck) : Tidy ((D0P Yba.prog) ks) := tidy_setOf _ _ (keys_ok ks)

theorem sameKey_iff {a b : Lit} (ha : WideAt.IsKeyLit a) : a.sameKey b = true ↔ a = b := by
  constructor
  · intro h
    by_cases e : a = b
    · exact e
    · rw [sameKey_ne e] at h; cases h
  · rintro rfl
    cases a <;> simp [WideAt.IsKeyLit, Lit.sameKey] at *

theorem D0_has (ks : List Ck) (hk : ∀ k ∈ ks, k.ok) (a : Ck) (ha : a.ok) : Maps.has ((D0P Yba.prog) ks) ((klP Yba.prog) a) = ks.any (fun k => same k a) := by
  unfold D0P
  rw [has_setOf _ _ _ (keys_ok ks)]
  apply Bool.eq_iff_iff.2
  simp only [List.any_eq_true, List.mem_map]
  constructor
  · rintro ⟨x, ⟨k, hm, rfl⟩, h⟩
    exact ⟨k, hm, (kl_eq (hk k hm) ha).1 ((sameKey_iff (kl_key k)).1 h)⟩
  · rintro ⟨k, hm, h⟩
    exact ⟨(klP Yba.prog) k, ⟨k, hm, rfl⟩, (sameKey_iff (kl_key k)).2 ((kl_eq (hk k hm) ha).2 h)⟩

theorem fold_at (l : Lit) : ∀ (xs : List Lit) (m : DataW Unit), IsMap m → (∀ x ∈ xs, WideAt.IsKeyLit x) → (∀ z, z = lb false → m.atKey l z = z) → ∀ z, z = lb false → (xs.foldl (fun m x => m.put x (lb false)) m).atKey l z = z
  | [], _, _, _, h, z, hz => h z hz
  | x :: xs, m, hm, hk, h, z, hz => by
    refine fold_at l xs _ (hm.put _ _) (fun y hy => hk y (by simp [hy])) ?_ z hz
    intro z' hz'
    by_cases e : l = x
    · subst e; rw [atKey_put_same hm (hk l (by simp)), hz']
    · rw [atKey_put_other e]; exact h z' hz'
theorem D0_at (ks : List Ck) (l : Lit) : ((D0P Yba.prog) ks).atKey l (lb false) = lb false :=
  fold_at l _ _ isMap_empty (keys_ok ks) (fun z _ => by simp [DataW.atKey]) _ rfl

/-- no two of the list are the same -/
def Apart (ks : List Ck) : Prop := ks.Pairwise (fun a b => same a b = false)

theorem size_snoc (ks : List Ck) (k : Ck) (hk : ∀ x ∈ ks, x.ok) (h : k.ok) (hs : ks.any (fun x => same x k) = false) : Maps.size ((D0P Yba.prog) (ks ++ [k])) = Maps.size ((D0P Yba.prog) ks) + 1 := by
  rw [D0_snoc, size_put (D0_tidy ks), D0_has ks hk k h, hs]
  rfl
theorem D0_size_aux : ∀ (n : Nat) (ks : List Ck), ks.length = n → (∀ x ∈ ks, x.ok) → Apart ks → Maps.size ((D0P Yba.prog) ks) = n
  | 0, ks, hl, _, _ => by
    rw [List.length_eq_zero_iff.1 hl]; rfl
  | n + 1, ks, hl, hk, ha => by
    obtain ⟨l, x, rfl⟩ : ∃ l x, ks = l ++ [x] := by
      rcases List.eq_nil_or_concat ks with rfl | ⟨l, x, h⟩
      · simp at hl
      · exact ⟨l, x, by simpa using h⟩
    have hx := hk x (by simp)
    have hpw := List.pairwise_append.1 ha
    rw [size_snoc l x (fun y hy => hk y (by simp [hy])) hx, D0_size_aux n l (by simpa using hl) (fun y hy => hk y (by simp [hy])) hpw.1]
    simp only [List.any_eq_false]
    intro y hy
    have := hpw.2.2 y hy x (by simp)
    simp [this]
theorem D0_size (ks : List Ck) (hk : ∀ x ∈ ks, x.ok) (ha : Apart ks) : Maps.size ((D0P Yba.prog) ks) = ks.length := D0_size_aux _ ks rfl hk ha
end Go.Proofs.Ybulkdbfi
