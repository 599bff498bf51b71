namespace Go.Proofs.Ybulkdbds

/-- call a comes no later than call b -/
def lek (at_ : Nat → Int) (a b : Nat) : Prop := at_ a < at_ b ∨ (at_ a = at_ b ∧ a ≤ b)

theorem lek_trans {at_ : Nat → Int} {a b c : Nat} (h : lek at_ a b) (k : lek at_ b c) : lek at_ a c := by
  unfold lek at *; omega

def upd (τ : Nat → Nat) (i v : Nat) : Nat → Nat := fun j => if j = i then v else τ j
theorem upd_same (τ : Nat → Nat) (i v : Nat) : upd τ i v i = v := by simp [upd]
theorem upd_other (τ : Nat → Nat) (i v j : Nat) (h : j ≠ i) : upd τ i v j = τ j := by simp [upd, h]

structure Heap (at_ : Nat → Int) (σ : Nat → Nat) (n : Nat) : Prop where
  lt : ∀ j, j < n → σ j < n
  inj : ∀ i j, i < n → j < n → σ i = σ j → i = j
  ord : ∀ j, 0 < j → j < n → lek at_ (σ ((j - 1) / 2)) (σ j)

structure Hole (at_ : Nat → Int) (n : Nat) (τ : Nat → Nat) (i : Nat) : Prop where
  le : i ≤ n
  vlt : ∀ j, j ≤ n → j ≠ i → τ j < n
  inj : ∀ j k, j ≤ n → k ≤ n → j ≠ i → k ≠ i → τ j = τ k → j = k
  ord : ∀ j, 0 < j → j ≤ n → j ≠ i → (j - 1) / 2 ≠ i → lek at_ (τ ((j - 1) / 2)) (τ j)
  below : ∀ j, 0 < j → j ≤ n → (j - 1) / 2 = i → lek at_ n (τ j)
  grand : ∀ j, 0 < j → j ≤ n → (j - 1) / 2 = i → 0 < i → lek at_ (τ ((i - 1) / 2)) (τ j)

theorem hole_start {at_ : Nat → Int} {σ : Nat → Nat} {n : Nat} (h : Heap at_ σ n) : Hole at_ n (upd σ n n) n := by
  refine ⟨Nat.le_refl _, fun j hj hne => ?_, fun j k hj hk h1 h2 e => ?_, fun j h0 hj hne hp => ?_, fun j h0 hj hp => ?_, fun j h0 hj hp => ?_⟩
  · rw [upd_other _ _ _ _ hne]; exact h.lt j (by omega)
  · rw [upd_other _ _ _ _ h1, upd_other _ _ _ _ h2] at e; exact h.inj j k (by omega) (by omega) e
  · rw [upd_other _ _ _ _ hne, upd_other _ _ _ _ hp]; exact h.ord j h0 (by omega)
  · omega
  · omega

theorem hole_step {at_ : Nat → Int} {n : Nat} {τ : Nat → Nat} {i : Nat} (h : Hole at_ n τ i) (hi : 0 < i) (hb : lek at_ n (τ ((i - 1) / 2))) : Hole at_ n (upd τ i (τ ((i - 1) / 2))) ((i - 1) / 2) := by
  have hle := h.le
  have hpi : (i - 1) / 2 ≠ i := by omega
  refine ⟨by omega, fun j hj hne => ?_, fun j k hj hk h1 h2 e => ?_, fun j h0 hj hne hp => ?_, fun j h0 hj hp => ?_, fun j h0 hj hp hp0 => ?_⟩
  · by_cases hji : j = i
    · subst hji; rw [upd_same]; exact h.vlt _ (by omega) hpi
    · rw [upd_other _ _ _ _ hji]; exact h.vlt j hj hji
  · by_cases hji : j = i
    · subst hji
      by_cases hki : k = j
      · exact hki.symm
      · rw [upd_same, upd_other _ _ _ _ hki] at e
        exact absurd (h.inj _ k (by omega) hk hpi hki e).symm h2
    · by_cases hki : k = i
      · subst hki
        rw [upd_same, upd_other _ _ _ _ hji] at e
        exact absurd (h.inj j _ hj (by omega) hji hpi e) h1
      · rw [upd_other _ _ _ _ hji, upd_other _ _ _ _ hki] at e
        exact h.inj j k hj hk hji hki e
  · by_cases hji : j = i
    · subst hji; exact absurd rfl hp
    · rw [upd_other _ _ _ _ hji]
      by_cases hpi2 : (j - 1) / 2 = i
      · rw [hpi2, upd_same]; exact h.grand j h0 hj hpi2 hi
      · rw [upd_other _ _ _ _ hpi2]; exact h.ord j h0 hj hji hpi2
  · by_cases hji : j = i
    · subst hji; rw [upd_same]; exact hb
    · rw [upd_other _ _ _ _ hji]
      have := h.ord j h0 hj hji (by omega)
      rw [hp] at this
      exact lek_trans hb this
  · have hgp : ((i - 1) / 2 - 1) / 2 ≠ i := by omega
    rw [upd_other _ _ _ _ hgp]
    have g1 := h.ord ((i - 1) / 2) hp0 (by omega) hpi hgp
    by_cases hji : j = i
    · subst hji; rw [upd_same]; exact g1
    · rw [upd_other _ _ _ _ hji]
      have := h.ord j h0 hj hji (by omega)
      rw [hp] at this
      exact lek_trans g1 this

theorem hole_end {at_ : Nat → Int} {n : Nat} {τ : Nat → Nat} {i : Nat} (h : Hole at_ n τ i) (hb : i = 0 ∨ lek at_ (τ ((i - 1) / 2)) n) : Heap at_ (upd τ i n) (n + 1) := by
  have hle := h.le
  refine ⟨fun j hj => ?_, fun j k hj hk e => ?_, fun j h0 hj => ?_⟩
  · by_cases hji : j = i
    · subst hji; rw [upd_same]; omega
    · rw [upd_other _ _ _ _ hji]; have := h.vlt j (by omega) hji; omega
  · by_cases hji : j = i
    · by_cases hki : k = i
      · omega
      · subst hji; rw [upd_same, upd_other _ _ _ _ hki] at e; have := h.vlt k (by omega) hki; omega
    · by_cases hki : k = i
      · subst hki; rw [upd_same, upd_other _ _ _ _ hji] at e; have := h.vlt j (by omega) hji; omega
      · rw [upd_other _ _ _ _ hji, upd_other _ _ _ _ hki] at e; exact h.inj j k (by omega) (by omega) hji hki e
  · by_cases hji : j = i
    · subst hji
      rw [upd_same, upd_other _ _ _ _ (by omega)]
      rcases hb with hb | hb
      · omega
      · exact hb
    · rw [upd_other _ _ _ _ hji]
      by_cases hp : (j - 1) / 2 = i
      · rw [hp, upd_same]; exact h.below j h0 (by omega) hp
      · rw [upd_other _ _ _ _ hp]; exact h.ord j h0 (by omega) hji hp

theorem heap_zero (at_ : Nat → Int) (σ : Nat → Nat) : Heap at_ σ 0 := ⟨fun _ h => absurd h (by omega), fun _ _ h => absurd h (by omega), fun _ _ h => absurd h (by omega)⟩

theorem lek_congr {at_ at' : Nat → Int} {a b n : Nat} (he : ∀ k, k < n → at' k = at_ k) (ha : a < n) (hb : b < n) (h : lek at_ a b) : lek at' a b := by
  unfold lek at *
  rw [he a ha, he b hb]; exact h
theorem heap_congr {at_ at' : Nat → Int} {σ : Nat → Nat} {n : Nat} (h : Heap at_ σ n) (he : ∀ k, k < n → at' k = at_ k) : Heap at' σ n :=
  ⟨h.lt, h.inj, fun j h0 hj => lek_congr he (h.lt _ (by omega)) (h.lt j hj) (h.ord j h0 hj)⟩

theorem nodup_le : ∀ (n : Nat) (l : List Nat), l.Nodup → (∀ x ∈ l, x < n) → l.length ≤ n
  | 0, l, _, h => by
    cases l with
    | nil => simp
    | cons x l => exact absurd (h x (by simp)) (by omega)
  | n + 1, l, hn, h => by
    by_cases hm : n ∈ l
    · have h1 := nodup_le n (l.erase n) (hn.erase n) (fun x hx => by
        have h2 := h x (List.mem_of_mem_erase hx)
        have h3 : x ≠ n := fun e => by
          subst e
          exact absurd hx hn.not_mem_erase
        omega)
      rw [List.length_erase_of_mem hm] at h1
      omega
    · have h1 := nodup_le n l hn (fun x hx => by
        have h2 := h x hx
        have h3 : x ≠ n := fun e => hm (e ▸ hx)
        omega)
      omega

/-- the place of call k in the heap, found by counting -/
theorem heap_surj {at_ : Nat → Int} {σ : Nat → Nat} {n : Nat} (h : Heap at_ σ n) : ∀ k, k < n → ∃ j, j < n ∧ σ j = k := by
  intro k hk
  by_cases hex : ∃ j, j < n ∧ σ j = k
  · exact hex
  · exfalso
    have hno : ∀ j, j < n → σ j ≠ k := fun j hj e => hex ⟨j, hj, e⟩
    -- the values other than k: n of them below n without k: a list without repeats that is too long
    have hnd : ((List.range n).map σ).Nodup := by
      refine List.pairwise_map.2 ?_
      refine List.Pairwise.imp_of_mem ?_ List.nodup_range
      intro a b ha hb hab e
      exact hab (h.inj a b (List.mem_range.1 ha) (List.mem_range.1 hb) e)
    have hsub : (k :: (List.range n).map σ).Nodup := by
      refine List.nodup_cons.2 ⟨?_, hnd⟩
      intro hm
      obtain ⟨j, hj, e⟩ := List.mem_map.1 hm
      exact hno j (List.mem_range.1 hj) e
    have hin : ∀ x ∈ (k :: (List.range n).map σ), x ∈ List.range n := by
      intro x hx
      rcases List.mem_cons.1 hx with rfl | hx
      · exact List.mem_range.2 hk
      · obtain ⟨j, hj, rfl⟩ := List.mem_map.1 hx
        exact List.mem_range.2 (h.lt j (List.mem_range.1 hj))
    have := nodup_le n _ hsub (fun x hx => List.mem_range.1 (hin x hx))
    simp at this
    omega
end Go.Proofs.Ybulkdbds
