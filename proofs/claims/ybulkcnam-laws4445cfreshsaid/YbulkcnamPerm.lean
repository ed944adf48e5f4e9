/-
  THE HEAP's LISTS: pushing and popping turn nothing but the order. Plain mathematics.
-/
import Derived.Test.YbulkcnamPop
namespace Go.Proofs.Ybulkcnam

theorem getD_get {L : List (Nat × Nat)} {i : Nat} (h : i < L.length) : L.getD i dI = L[i] := by simp [List.getD, h]

theorem swapL_perm {L : List (Nat × Nat)} {i p : Nat} (hi : i < L.length) (hp : p < L.length) : (swapL L i p).Perm L := by
  unfold swapL
  rw [getD_get hi, getD_get hp]
  exact List.set_set_perm hi hp

theorem upF_perm : ∀ (f : Nat) (L : List (Nat × Nat)) (i : Nat), i < L.length → (upF f L i).Perm L
  | 0, _, _, _ => .refl _
  | f + 1, L, i, hi => by
    unfold upF
    split
    · exact .refl _
    · split
      · have hp : (i - 1) / 2 < L.length := by omega
        exact (upF_perm f _ _ (by rw [swapL_length]; exact hp)).trans (swapL_perm hi hp)
      · exact .refl _

theorem pushL_perm (L : List (Nat × Nat)) (x : Nat × Nat) : (pushL L x).Perm (x :: L) := by
  unfold pushL
  exact (upF_perm _ _ _ (by simp)).trans (List.perm_append_singleton x L)

theorem downF_perm : ∀ (f : Nat) (L : List (Nat × Nat)) (i : Nat), i < L.length ∨ L.length = 0 → (downF f L i).Perm L
  | 0, _, _, _ => .refl _
  | f + 1, L, i, hi => by
    unfold downF
    split
    · rename_i hc
      have hk := kid_lt hc
      split
      · exact (downF_perm f _ _ (.inl (by rw [swapL_length]; exact hk.1))).trans (swapL_perm (by omega) hk.1)
      · exact .refl _
    · exact .refl _

/-- What is left behind a pop, and what came out. -/
theorem popL_perm (L : List (Nat × Nat)) (h : 0 < L.length) : (L.getD 0 dI :: popL L).Perm L := by
  obtain ⟨n, hn⟩ : ∃ n, L.length = n + 1 := ⟨L.length - 1, by omega⟩
  unfold popL
  rw [hn]
  simp only [Nat.add_sub_cancel]
  have h1 : (downF (n + 1 + 1) ((L.set 0 (L.getD n dI)).take n) 0).Perm ((L.set 0 (L.getD n dI)).take n) := by
    refine downF_perm _ _ _ ?_
    rw [List.length_take, List.length_set, hn]
    omega
  refine (h1.cons _).trans ?_
  cases L with
  | nil => simp at h
  | cons x xs =>
    have hxs : xs.length = n := by simpa using hn
    cases n with
    | zero =>
      have : xs = [] := List.eq_nil_of_length_eq_zero hxs
      subst this
      exact .refl _
    | succ m =>
      have e1 : (x :: xs).getD (m + 1) dI = xs[m]'(by omega) := by simp [List.getD, show m < xs.length by omega]
      rw [e1]
      have e2 : ((x :: xs).set 0 (xs[m]'(by omega))).take (m + 1) = xs[m]'(by omega) :: xs.take m := by simp
      rw [e2]
      have e3 : (x :: xs).getD 0 dI = x := rfl
      rw [e3]
      refine List.Perm.cons x ?_
      have e4 : xs = xs.take m ++ [xs[m]'(by omega)] := by
        rw [← List.take_succ_eq_append_getElem (by omega), List.take_of_length_le (by omega)]
      conv => rhs; rw [e4]
      exact (List.perm_append_singleton _ _).symm

end Go.Proofs.Ybulkcnam
