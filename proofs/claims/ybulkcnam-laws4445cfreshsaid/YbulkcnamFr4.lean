/-
  THE INSERTION SORT AND THE POPS. Plain mathematics.
-/
import Derived.Test.YbulkcnamFr3
namespace Go.Proofs.Ybulkcnam

def rkI (vs : List Nat) (i : Nat) : Nat := (16 - vs.getD i 0) * 1000 + i

/-- The first i are in order. -/
def SortedTo (f : Nat → Nat) (i : Nat) : Prop := ∀ a b, a < b → b < i → f a < f b
/-- The first i + 1 are, but for the one at j. -/
def InvJ (f : Nat → Nat) (i j : Nat) : Prop := j ≤ i ∧ ∀ a b, a < b → b ≤ i → b ≠ j → f a < f b

theorem SortedTo.inv {f : Nat → Nat} {i : Nat} (h : SortedTo f i) : InvJ f i i := ⟨Nat.le_refl _, fun a b hab hb hne => h a b hab (by omega)⟩
theorem InvJ.zero {f : Nat → Nat} {i : Nat} (h : InvJ f i 0) : SortedTo f (i + 1) := fun a b hab hb => h.2 a b hab (by omega) (by omega)
theorem InvJ.stop {f : Nat → Nat} {i j : Nat} (h : InvJ f i j) (hlt : f (j - 1) < f j) : SortedTo f (i + 1) := by
  intro a b hab hb
  by_cases hbj : b = j
  · subst hbj
    by_cases ha : a = b - 1
    · rw [ha]; exact hlt
    · exact Nat.lt_trans (h.2 a (b - 1) (by omega) (by omega) (by omega)) hlt
  · exact h.2 a b hab (by omega) hbj
theorem InvJ.step {f f' : Nat → Nat} {i j : Nat} (h : InvJ f i j) (h0 : 0 < j) (hlt : f j < f (j - 1)) (e1 : f' (j - 1) = f j) (e2 : f' j = f (j - 1)) (e3 : ∀ k, k ≠ j → k ≠ j - 1 → f' k = f k) : InvJ f' i (j - 1) := by
  have hji := h.1
  refine ⟨by omega, fun a b hab hb hne => ?_⟩
  by_cases hbj : b = j
  · subst hbj
    rw [e2]
    by_cases ha : a = b - 1
    · rw [ha, e1]; exact hlt
    · rw [e3 a (by omega) ha]; exact h.2 a (b - 1) (by omega) (by omega) (by omega)
  · rw [e3 b hbj hne]
    by_cases ha : a = j
    · rw [ha, e2]; exact h.2 (j - 1) b (by omega) hb hbj
    · by_cases ha2 : a = j - 1
      · rw [ha2, e1]; exact h.2 j b (by omega) hb hbj
      · rw [e3 a ha ha2]; exact h.2 a b hab hb hbj

def fAt (vs l : List Nat) (k : Nat) : Nat := rkI vs (l.getD k 0)
def swapN (l : List Nat) (j : Nat) : List Nat := (l.set j (l.getD (j - 1) 0)).set (j - 1) (l.getD j 0)
theorem swapN_length (l : List Nat) (j : Nat) : (swapN l j).length = l.length := by simp [swapN]
theorem swapN_perm {l : List Nat} {j : Nat} (h : j < l.length) : (swapN l j).Perm l := by
  unfold swapN
  have e1 : l.getD j 0 = l[j] := by simp [List.getD, h]
  have e2 : l.getD (j - 1) 0 = l[j - 1]'(by omega) := by simp [List.getD, show j - 1 < l.length by omega]
  rw [e1, e2]
  exact List.set_set_perm h (by omega)
theorem swapN_at {vs l : List Nat} {j : Nat} (h0 : 0 < j) (h : j < l.length) : fAt vs (swapN l j) (j - 1) = fAt vs l j ∧ fAt vs (swapN l j) j = fAt vs l (j - 1) ∧ ∀ k, k ≠ j → k ≠ j - 1 → fAt vs (swapN l j) k = fAt vs l k := by
  unfold fAt swapN
  have h1 : j - 1 < l.length := by omega
  have h2 : ¬ j - 1 = j := by omega
  refine ⟨?_, ?_, fun k k1 k2 => ?_⟩
  · simp [List.getD, h1]
  · simp [List.getD, h, h1, h2]
  · simp [List.getD, Ne.symm k1, Ne.symm k2]
theorem rkI_inj {vs : List Nat} {a b : Nat} (ha : a < 1000) (hb : b < 1000) (h : rkI vs a = rkI vs b) : a = b := by
  unfold rkI at h
  omega
theorem fAt_ne {vs l : List Nat} {n a b : Nat} (hp : l.Perm (List.range n)) (hn : n ≤ 301) (ha : a < n) (hb : b < n) (hab : a ≠ b) : fAt vs l a ≠ fAt vs l b := by
  have hl : l.length = n := by rw [hp.length_eq, List.length_range]
  have ea : l.getD a 0 = l[a]'(by omega) := by simp [List.getD, show a < l.length by omega]
  have eb : l.getD b 0 = l[b]'(by omega) := by simp [List.getD, show b < l.length by omega]
  intro h
  unfold fAt at h
  rw [ea, eb] at h
  have m1 : l[a]'(by omega) < n := List.mem_range.1 (hp.mem_iff.1 (List.getElem_mem _))
  have m2 : l[b]'(by omega) < n := List.mem_range.1 (hp.mem_iff.1 (List.getElem_mem _))
  have he := rkI_inj (by omega) (by omega) h
  have hnd : l.Nodup := hp.symm.nodup List.nodup_range
  unfold List.Nodup at hnd
  rw [List.pairwise_iff_getElem] at hnd
  rcases Nat.lt_or_ge a b with h1 | h1
  · exact hnd a b (by omega) (by omega) h1 he
  · exact hnd b a (by omega) (by omega) (by omega) he.symm

section
variable {sc : Nat} {s : Rat} {vs : List Nat}

/-- What is left of the heap before the k-th pop. -/
def Left (sc : Nat) (vs l : List Nat) (k : Nat) (L : List (Nat × Nat)) : Prop :=
  HeapL (rkOf vs) L ∧ (L.map (·.2)).Perm (l.drop k) ∧ ∀ a ∈ L, a = (keyF sc vs a.2, a.2)

theorem Fresh.pop (h : Fresh sc s vs) {l : List Nat} {k : Nat} {L : List (Nat × Nat)} (hp : l.Perm (List.range vs.length)) (hs : SortedTo (fAt vs l) vs.length) (hk : k < vs.length) (hL : Left sc vs l k L) :
    0 < L.length ∧ (L.getD 0 dI).2 = l.getD k 0 ∧ Left sc vs l (k + 1) (popL L) := by
  obtain ⟨hH, hP, hI⟩ := hL
  have hl : l.length = vs.length := by rw [hp.length_eq, List.length_range]
  have hlen : L.length = l.length - k := by have := hP.length_eq; simpa using this
  have h0 : 0 < L.length := by omega
  have hk' : k < l.length := by omega
  have ed : l.drop k = l[k] :: l.drop (k + 1) := List.drop_eq_getElem_cons hk'
  have ek : l.getD k 0 = l[k] := by simp [List.getD, hk']
  have ha0 : L.getD 0 dI ∈ L := getD_memI h0
  have hidx : ∀ a ∈ L, a.2 < vs.length := by
    intro a ha
    have := hP.mem_iff.1 (List.mem_map_of_mem (f := (·.2)) ha)
    exact List.mem_range.1 (hp.mem_iff.1 (List.mem_of_mem_drop this))
  have hR : Ranked (rkOf vs) L := by
    intro a ha b hb
    rw [hI a ha, hI b hb]
    exact h.bef (hidx a ha) (hidx b hb)
  have hfirst : (L.getD 0 dI).2 = l[k] := by
    have hm : (L.getD 0 dI).2 ∈ l.drop k := hP.mem_iff.1 (List.mem_map_of_mem (f := (·.2)) ha0)
    have hm2 : l[k] ∈ L.map (·.2) := hP.mem_iff.2 (by rw [ed]; exact List.mem_cons_self)
    obtain ⟨a, ha, hae⟩ := List.mem_map.1 hm2
    have hle := heap_first hH ha
    rw [List.mem_iff_getElem] at hm
    obtain ⟨b, hb, hbe⟩ := hm
    rw [List.getElem_drop] at hbe
    rw [List.length_drop] at hb
    by_cases hb0 : b = 0
    · subst hb0; rw [← hbe]; rfl
    · have hlt := hs k (k + b) (by omega) (by omega)
      unfold fAt at hlt
      have e2 : l.getD (k + b) 0 = l[k + b]'(by omega) := by simp [List.getD, show k + b < l.length by omega]
      rw [ek, e2, hbe] at hlt
      have e3 : rkOf vs a = rkI vs l[k] := by show rkI vs a.2 = _; rw [hae]
      have e4 : rkOf vs (L.getD 0 dI) = rkI vs (L.getD 0 dI).2 := rfl
      omega
  refine ⟨h0, by rw [ek]; exact hfirst, popL_heap h0 hR hH, ?_, ?_⟩
  · have hpp := (popL_perm L h0).map (·.2)
    simp only [List.map_cons] at hpp
    rw [hfirst] at hpp
    have := hpp.trans hP
    rw [ed] at this
    exact this.cons_inv
  · intro a ha
    exact hI a ((popL_perm L h0).mem_iff.1 (List.mem_cons_of_mem _ ha))

theorem Fresh.start (h : Fresh sc s vs) {l : List Nat} (hp : l.Perm (List.range vs.length)) : Left sc vs l 0 (waitK (zeros vs.length) (shrL (wsOf sc vs)) (slackOf vs.length) vs.length) := by
  obtain ⟨h1, h2⟩ := h.wait vs.length (Nat.le_refl _)
  refine ⟨h1, ?_, fun a ha => (h2 a ha).2⟩
  rw [List.drop_zero]
  exact (waitK_perm _ _ _ _).trans hp.symm

end
end Go.Proofs.Ybulkcnam
