/-
  THE HEAP's LAW: what is pushed comes out in order. Plain mathematics.
-/
import Derived.Test.YbulkcnamPerm
namespace Go.Proofs.Ybulkcnam

/-- No child's rank is below its parent's. -/
def HeapH (h : Nat → Nat) (n : Nat) : Prop := ∀ k, 0 < k → k < n → h ((k - 1) / 2) ≤ h k
def UpH (h : Nat → Nat) (n i : Nat) : Prop := (∀ k, 0 < k → k < n → k ≠ i → h ((k - 1) / 2) ≤ h k) ∧ ∀ k, 0 < k → k < n → (k - 1) / 2 = i → 0 < i → h ((i - 1) / 2) ≤ h k
def DownH (h : Nat → Nat) (n i : Nat) : Prop := (∀ k, 0 < k → k < n → (k - 1) / 2 ≠ i → h ((k - 1) / 2) ≤ h k) ∧ ∀ k, 0 < k → k < n → (k - 1) / 2 = i → 0 < i → h ((i - 1) / 2) ≤ h k

theorem HeapH.min {h : Nat → Nat} {n : Nat} (H : HeapH h n) : ∀ k, k < n → h 0 ≤ h k := by
  intro k
  induction k using Nat.strongRecOn with
  | _ k ih =>
    intro hk
    rcases Nat.eq_zero_or_pos k with rfl | hp
    · exact Nat.le_refl _
    · exact Nat.le_trans (ih ((k - 1) / 2) (by omega) (by omega)) (H k hp hk)

theorem up_step {h h' : Nat → Nat} {n i p : Nat} (hp : (i - 1) / 2 = p) (hi : 0 < i) (U : UpH h n i) (hin : i < n) (hlt : h i < h p) (e1 : h' p = h i) (e2 : h' i = h p) (e3 : ∀ k, k ≠ p → k ≠ i → h' k = h k) : UpH h' n p := by
  obtain ⟨a, b⟩ := U
  refine ⟨fun k k0 kn kp => ?_, fun k k0 kn kp p0 => ?_⟩
  · by_cases hki : k = i
    · subst hki; rw [hp, e1, e2]; omega
    · rw [e3 k kp hki]
      by_cases h1 : (k - 1) / 2 = i
      · rw [h1, e2, ← hp]; exact b k k0 kn h1 hi
      · by_cases h2 : (k - 1) / 2 = p
        · rw [h2, e1]
          have := a k k0 kn hki
          rw [h2] at this
          omega
        · rw [e3 _ h2 h1]; exact a k k0 kn hki
  · have hpp : h' ((p - 1) / 2) = h ((p - 1) / 2) := e3 _ (by omega) (by omega)
    rw [hpp]
    have h1 := a p p0 (by omega) (by omega)
    by_cases hki : k = i
    · subst hki; rw [e2]; exact h1
    · rw [e3 k (by omega) hki]
      have h2 := a k k0 kn hki
      rw [kp] at h2
      omega

theorem up_stop {h : Nat → Nat} {n i : Nat} (U : UpH h n i) (hs : i = 0 ∨ h ((i - 1) / 2) ≤ h i) : HeapH h n := by
  intro k k0 kn
  by_cases hki : k = i
  · subst hki
    rcases hs with hs | hs
    · omega
    · exact hs
  · exact U.1 k k0 kn hki

theorem down_step {h h' : Nat → Nat} {n i c : Nat} (hc : c = 2 * i + 1 ∨ c = 2 * i + 2) (hcn : c < n) (hsib : ∀ k, 0 < k → k < n → (k - 1) / 2 = i → h c ≤ h k) (D : DownH h n i) (hlt : h c < h i) (e1 : h' c = h i) (e2 : h' i = h c) (e3 : ∀ k, k ≠ c → k ≠ i → h' k = h k) : DownH h' n c := by
  obtain ⟨a, b⟩ := D
  have hpc : (c - 1) / 2 = i := by omega
  refine ⟨fun k k0 kn kp => ?_, fun k k0 kn kp p0 => ?_⟩
  · by_cases hkc : k = c
    · subst hkc; rw [hpc, e1, e2]; omega
    · by_cases h1 : (k - 1) / 2 = i
      · rw [h1, e2, e3 k hkc (by omega)]; exact hsib k k0 kn h1
      · rw [e3 _ kp h1]
        by_cases hki : k = i
        · subst hki
          rw [e2]
          exact b c (by omega) hcn hpc k0
        · rw [e3 k hkc hki]; exact a k k0 kn h1
  · rw [hpc, e2, e3 k (by omega) (by omega)]
    have := a k k0 kn (by omega)
    rw [kp] at this
    exact this

theorem down_stop {h : Nat → Nat} {n i : Nat} (D : DownH h n i) (hs : ∀ k, 0 < k → k < n → (k - 1) / 2 = i → h i ≤ h k) : HeapH h n := by
  intro k k0 kn
  by_cases hk : (k - 1) / 2 = i
  · rw [hk]; exact hs k k0 kn hk
  · exact D.1 k k0 kn hk

section
variable (rk : Nat × Nat → Nat)

/-- 'bef' is the ranks' order on these items. -/
def Ranked (L : List (Nat × Nat)) : Prop := ∀ a ∈ L, ∀ b ∈ L, bef a b = decide (rk a < rk b)
def hAt (L : List (Nat × Nat)) (k : Nat) : Nat := rk (L.getD k dI)
def HeapL (L : List (Nat × Nat)) : Prop := HeapH (hAt rk L) L.length
variable {rk}

theorem Ranked.perm {L L' : List (Nat × Nat)} (h : Ranked rk L) (p : L'.Perm L) : Ranked rk L' := fun a ha b hb => h a (p.mem_iff.1 ha) b (p.mem_iff.1 hb)
theorem Ranked.at {L : List (Nat × Nat)} (h : Ranked rk L) {i j : Nat} (hi : i < L.length) (hj : j < L.length) : bef (L.getD i dI) (L.getD j dI) = decide (hAt rk L i < hAt rk L j) :=
  h _ (by simp [List.getD, hi]) _ (by simp [List.getD, hj])

theorem swapL_at {L : List (Nat × Nat)} {i p : Nat} (hi : i < L.length) (hp : p < L.length) : hAt rk (swapL L i p) p = hAt rk L i ∧ (i ≠ p → hAt rk (swapL L i p) i = hAt rk L p) ∧ ∀ k, k ≠ p → k ≠ i → hAt rk (swapL L i p) k = hAt rk L k := by
  unfold hAt swapL
  refine ⟨?_, fun hne => ?_, fun k k1 k2 => ?_⟩
  · simp [List.getD, hp]
  · simp [List.getD, hi, hp, Ne.symm hne]
  · simp [List.getD, Ne.symm k1, Ne.symm k2]

theorem upF_heap : ∀ (f : Nat) (L : List (Nat × Nat)) (i : Nat), i < f → i < L.length → Ranked rk L → UpH (hAt rk L) L.length i → HeapL rk (upF f L i)
  | 0, _, _, hf, _, _, _ => by omega
  | f + 1, L, i, hf, hi, hR, hU => by
    unfold upF
    by_cases h0 : i = 0
    · rw [if_pos h0]; exact up_stop hU (.inl h0)
    · rw [if_neg h0]
      have hp : (i - 1) / 2 < L.length := by omega
      have hb := hR.at hi hp
      by_cases hlt : hAt rk L i < hAt rk L ((i - 1) / 2)
      · rw [if_pos (by rw [hb]; exact decide_eq_true hlt)]
        obtain ⟨e1, e2, e3⟩ := swapL_at (rk := rk) hi hp
        have hU' : UpH (hAt rk (swapL L i ((i - 1) / 2))) (swapL L i ((i - 1) / 2)).length ((i - 1) / 2) := by
          rw [swapL_length]
          exact up_step rfl (by omega) hU hi hlt e1 (e2 (by omega)) e3
        exact upF_heap f _ _ (by omega) (by rw [swapL_length]; exact hp) (hR.perm (swapL_perm hi hp)) hU'
      · rw [if_neg (by rw [hb]; simpa using hlt)]
        exact up_stop hU (.inr (by omega))

theorem pushL_heap {L : List (Nat × Nat)} {x : Nat × Nat} (hR : Ranked rk (x :: L)) (hH : HeapL rk L) : HeapL rk (pushL L x) := by
  unfold pushL
  have hl : (L ++ [x]).length = L.length + 1 := by simp
  have hat : ∀ k, k < L.length → hAt rk (L ++ [x]) k = hAt rk L k := by
    intro k hk
    unfold hAt
    simp [List.getD, List.getElem?_append_left hk]
  refine upF_heap _ _ _ (by omega) (by omega) (hR.perm (List.perm_append_singleton x L)) ?_
  rw [hl]
  refine ⟨fun k k0 kn ki => ?_, fun k k0 kn kp p0 => by omega⟩
  rw [hat _ (by omega), hat _ (by omega)]
  exact hH k k0 (by omega)

theorem downF_heap : ∀ (f : Nat) (L : List (Nat × Nat)) (i : Nat), L.length ≤ f + i → Ranked rk L → DownH (hAt rk L) L.length i → HeapL rk (downF f L i)
  | 0, L, i, hf, _, hD => by
    show HeapH (hAt rk L) L.length
    exact down_stop hD (fun k k0 kn kp => by omega)
  | f + 1, L, i, hf, hR, hD => by
    unfold downF
    by_cases hc : 2 * i + 1 < L.length
    · rw [if_pos hc]
      obtain ⟨k1, k2⟩ := kid_lt hc
      have hsib : ∀ k, 0 < k → k < L.length → (k - 1) / 2 = i → hAt rk L (kid L i) ≤ hAt rk L k := by
        intro k k0 kn kp
        unfold kid
        by_cases h2 : 2 * i + 2 < L.length
        · have hb := hR.at h2 hc
          by_cases hlt : hAt rk L (2 * i + 2) < hAt rk L (2 * i + 1)
          · rw [if_pos ⟨h2, by rw [hb]; exact decide_eq_true hlt⟩]
            rcases (show k = 2 * i + 1 ∨ k = 2 * i + 2 by omega) with rfl | rfl <;> omega
          · rw [if_neg (by rw [hb]; simp; omega)]
            rcases (show k = 2 * i + 1 ∨ k = 2 * i + 2 by omega) with rfl | rfl <;> omega
        · rw [if_neg (by omega)]
          rw [show k = 2 * i + 1 by omega]
          exact Nat.le_refl _
      have hb := hR.at k1 (show i < L.length by omega)
      by_cases hlt : hAt rk L (kid L i) < hAt rk L i
      · rw [if_pos (by rw [hb]; exact decide_eq_true hlt)]
        obtain ⟨e1, e2, e3⟩ := swapL_at (rk := rk) (show i < L.length by omega) k1
        have hkk : kid L i = 2 * i + 1 ∨ kid L i = 2 * i + 2 := by unfold kid; split <;> omega
        refine downF_heap f _ _ (by rw [swapL_length]; omega) (hR.perm (swapL_perm (by omega) k1)) ?_
        rw [swapL_length]
        exact down_step hkk k1 hsib hD hlt e1 (e2 (by omega)) e3
      · rw [if_neg (by rw [hb]; simpa using hlt)]
        exact down_stop hD (fun k k0 kn kp => Nat.le_trans (Nat.not_lt.1 hlt) (hsib k k0 kn kp))
    · rw [if_neg hc]
      exact down_stop hD (fun k k0 kn kp => by omega)

theorem popL_heap {L : List (Nat × Nat)} (h0 : 0 < L.length) (hR : Ranked rk L) (hH : HeapL rk L) : HeapL rk (popL L) := by
  unfold popL
  have hl : ((L.set 0 (L.getD (L.length - 1) dI)).take (L.length - 1)).length = L.length - 1 := by simp
  have hat : ∀ k, 0 < k → k < L.length - 1 → hAt rk ((L.set 0 (L.getD (L.length - 1) dI)).take (L.length - 1)) k = hAt rk L k := by
    intro k k0 hk
    unfold hAt
    have : ¬ 0 = k := by omega
    have hk2 : k < L.length := by omega
    simp [List.getD, hk, this, hk2]
  have hmem : ∀ a ∈ (L.set 0 (L.getD (L.length - 1) dI)).take (L.length - 1), a ∈ L := by
    intro a ha
    rcases List.mem_or_eq_of_mem_set (List.mem_of_mem_take ha) with h | h
    · exact h
    · rw [h]
      have : L.length - 1 < L.length := by omega
      simp [List.getD, this]
  refine downF_heap _ _ _ (by rw [hl]; omega) (fun a ha b hb => hR a (hmem a ha) b (hmem b hb)) ?_
  rw [hl]
  refine ⟨fun k k0 kn kp => ?_, fun k k0 kn kp p0 => by omega⟩
  rw [hat _ (by omega) (by omega), hat _ k0 kn]
  exact hH k k0 (by omega)

/-- The first of a heap is the least. -/
theorem heap_first {L : List (Nat × Nat)} (hH : HeapL rk L) {a : Nat × Nat} (ha : a ∈ L) : rk (L.getD 0 dI) ≤ rk a := by
  obtain ⟨k, hk, rfl⟩ := List.mem_iff_getElem.1 ha
  have := hH.min k hk
  unfold hAt at this
  simpa [List.getD, hk] using this
end

end Go.Proofs.Ybulkcnam
