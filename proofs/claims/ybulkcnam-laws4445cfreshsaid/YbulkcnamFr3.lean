/-
  FRESH WEIGHTS: the keys order the replicas as their whole weights do, ties by the lower index.
-/
import Derived.Test.YbulkcnamFr2
namespace Go.Proofs.Ybulkcnam
open Fl

def zeros (n : Nat) : List Nat := (List.replicate n 0).map fi
theorem zeros_get (n i : Nat) : (zeros n).getD i 0 = 0 := by
  unfold zeros
  rw [List.map_replicate, Go.Proofs.Ybulkcnam.fi_zero]
  by_cases h : i < n <;> simp [List.getD, h]

section
variable {sc : Nat} {s : Rat} {vs : List Nat}

/-- The key of replica i. -/
def keyF (sc : Nat) (vs : List Nat) (i : Nat) : Nat := keyAt (zeros vs.length) (shrL (wsOf sc vs)) (slackOf vs.length) i
theorem keyF_eq {i : Nat} (h : i < vs.length) : keyF sc vs i = fdiv (fadd 0 (slackOf vs.length)) (fdiv (fdiv (fmul (fi (vs.getD i 0)) sc) (maxL (wsOf sc vs))) (totL (wsOf sc vs))) := by
  unfold keyF keyAt
  rw [zeros_get, shr_at h]
theorem keyF_same {i j : Nat} (hi : i < vs.length) (hj : j < vs.length) (h : vs.getD i 0 = vs.getD j 0) : keyF sc vs i = keyF sc vs j := by rw [keyF_eq hi, keyF_eq hj, h]

theorem slack_nice {n : Nat} (h : 1 < n) (h1 : n ≤ 301) : ∃ l, Nice (fadd 0 (slackOf n)) l ∧ 1 / 2000 ≤ l ∧ l ≤ 2 := by
  have ho : Nice 4607182418800017408 ((1 : Nat) : Rat) := by rw [← fi_one]; exact nice_int 1 (by omega) (by decide)
  have hf := nice_int (2 * n - 2) (by omega) (by omega)
  have l1 : (2 : Rat) ≤ ((2 * n - 2 : Nat) : Rat) := cast_le (show 2 ≤ 2 * n - 2 by omega)
  have l2 : ((2 * n - 2 : Nat) : Rat) ≤ 600 := cast_le (show 2 * n - 2 ≤ 600 by omega)
  have pf := hf.pos
  have e1 : ((1 : Nat) : Rat) = 1 := rfl
  rw [e1] at ho
  have e : (1 : Rat) / ((2 * n - 2 : Nat) : Rat) * ((2 * n - 2 : Nat) : Rat) = 1 := Rat.div_mul_cancel (by grind)
  generalize ((2 * n - 2 : Nat) : Rat) = d at *
  have b1 : 1 / d ≤ 1 := by
    refine Rat.le_of_mul_le_mul_right (c := d) ?_ pf
    rw [e]; grind
  have b2 : 1 / 1000 ≤ 1 / d := by
    refine Rat.le_of_mul_le_mul_right (c := d) ?_ pf
    rw [e]; grind
  obtain ⟨r, k1, k2, k3⟩ := div_mod ho hf (by grind) (by grind)
  have es : slackOf n = fdiv 4607182418800017408 (fi (2 * n - 2)) := by unfold slackOf; rw [if_pos h]
  rw [es]
  generalize 1 / d = q at *
  unfold Near at k3
  obtain ⟨l, _, m2, m3⟩ := add0_mod k2 (by grind) (by grind)
  unfold Near at m3
  exact ⟨l, m2, by grind, by grind⟩

theorem Fresh.keyNN (h : Fresh sc s vs) {i : Nat} (hi : i < vs.length) : NN (keyF sc vs i) := by
  have hz : NN 0 := Fl.Fin.nn ⟨_, _, _, read_zero⟩
  obtain ⟨z, h1, h2⟩ := add_nn hz (slack_ok h.len).1
  have e1 : fadd 0 (slackOf vs.length) = z := by unfold fadd; rw [h1]; rfl
  obtain ⟨C, _, _, _, hσ⟩ := h.shares
  obtain ⟨σ, k1, _⟩ := hσ _ (getD_memN hi)
  obtain ⟨y, y1, y2⟩ := div_nn h2 k1
  rw [keyF_eq hi, e1]
  have e2 : fdiv z (fdiv (fdiv (fmul (fi (vs.getD i 0)) sc) (maxL (wsOf sc vs))) (totL (wsOf sc vs))) = y := by unfold fdiv at y1 ⊢; rw [y1]; rfl
  rw [e2]; exact y2

/-- The quotients of one number by two, the second clearly less. -/
theorem quo_lt {l σ τ : Rat} (hl : 0 < l) (hσ : 0 < σ) (hτ : 0 < τ) (h : 4503599627370497 * τ < 4503599627370495 * σ) : 4503599627370497 * (l / σ) < 4503599627370495 * (l / τ) := by
  have e1 : l / σ * σ = l := Rat.div_mul_cancel (by grind)
  have e2 : l / τ * τ = l := Rat.div_mul_cancel (by grind)
  have p : 0 < σ * τ := Rat.mul_pos hσ hτ
  refine Rat.lt_of_mul_lt_mul_right (c := σ * τ) ?_ (Rat.le_of_lt p)
  have a1 : 4503599627370497 * (l / σ) * (σ * τ) = 4503599627370497 * τ * (l / σ * σ) := by
    generalize l / σ = A; grind
  have a2 : 4503599627370495 * (l / τ) * (σ * τ) = 4503599627370495 * σ * (l / τ * τ) := by
    generalize l / τ = A; grind
  rw [a1, a2, e1, e2]
  exact Rat.mul_lt_mul_of_pos_right h hl

theorem order_flip {x y : Nat} {a b : Rat} (hx : Nice x a) (hy : Nice y b) (h : Ieee.double.order x y = some .lt) : Ieee.double.order y x = some .gt := by
  have ho := order_nice hx hy
  have ho2 := order_nice hy hx
  rcases (show a < b ∨ a = b ∨ b < a by grind) with h1 | h1 | h1
  · exact ho2.2.2 h1
  · rw [ho.2.1 h1] at h; cases h
  · rw [ho.2.2 h1] at h; cases h

theorem Fresh.keyLt (h : Fresh sc s vs) {i j : Nat} (hi : i < vs.length) (hj : j < vs.length) (hv : vs.getD j 0 < vs.getD i 0) : Ieee.double.order (keyF sc vs i) (keyF sc vs j) = some .lt ∧ Ieee.double.order (keyF sc vs j) (keyF sc vs i) = some .gt := by
  have hne : i ≠ j := fun e => by subst e; omega
  obtain ⟨l, hl, l1, l2⟩ := slack_nice (n := vs.length) (by omega) h.len
  obtain ⟨C, hC, hV, hV2, hσ⟩ := h.shares
  have small : ∀ j, j < vs.length → ((vs.getD j 0 : Nat) : Rat) * C ≤ 2 := by
    intro j hj
    have hm : ((vSum vs (j + 1) : Nat) : Rat) * C ≤ ((vSum vs vs.length : Nat) : Rat) * C := mulr (cast_le (vSum_mono (by omega) (Nat.le_refl _))) (Rat.le_of_lt hC)
    have hm0 : (0 : Rat) ≤ ((vSum vs j : Nat) : Rat) * C := Rat.mul_nonneg (cast_le (Nat.zero_le _)) (Rat.le_of_lt hC)
    rw [vSum_cast hj] at hm
    grind
  have si := small i hi
  have sj := small j hj
  obtain ⟨σ, a1, a2, a3⟩ := hσ _ (getD_memN hi)
  obtain ⟨τ, b1, b2, b3⟩ := hσ _ (getD_memN hj)
  rw [keyF_eq hi, keyF_eq hj]
  have ui := (h.bd _ (getD_memN hi)).2
  have c1 : ((vs.getD j 0 : Nat) : Rat) * C + C ≤ ((vs.getD i 0 : Nat) : Rat) * C := by
    have := mulr (cast_le (show vs.getD j 0 + 1 ≤ vs.getD i 0 by omega)) (Rat.le_of_lt hC)
    rw [Rat.natCast_add, Rat.add_mul] at this
    have e1 : ((1 : Nat) : Rat) = 1 := rfl
    rw [e1] at this
    grind
  have c2 : ((vs.getD j 0 : Nat) : Rat) * C ≤ 15 * C := mulr (show ((vs.getD j 0 : Nat) : Rat) ≤ 15 from cast_le (show vs.getD j 0 ≤ 15 by omega)) (Rat.le_of_lt hC)
  generalize ((vs.getD j 0 : Nat) : Rat) * C = g at *
  generalize ((vs.getD i 0 : Nat) : Rat) * C = f at *
  unfold Near5 at a2 b2
  have hq := quo_lt (l := l) (σ := σ) (τ := τ) (by grind) a1.pos b1.pos (by grind)
  have e1 : l / σ * σ = l := Rat.div_mul_cancel (by have := a1.pos; grind)
  have e2 : l / τ * τ = l := Rat.div_mul_cancel (by have := b1.pos; grind)
  have bounds : ∀ x : Rat, 1 / 20000 ≤ x → x ≤ 3 → l / x * x = l → 1 / 1000000 ≤ l / x ∧ l / x ≤ 1000000 := by
    intro x x1 x2 ex
    constructor
    · refine Rat.le_of_mul_le_mul_right (c := x) ?_ (by grind)
      rw [ex]; grind
    · refine Rat.le_of_mul_le_mul_right (c := x) ?_ (by grind)
      rw [ex]; grind
  obtain ⟨ρ, _, r2, r3⟩ := div_mod hl a1 (bounds σ a3 (by grind) e1).1 (bounds σ a3 (by grind) e1).2
  obtain ⟨π, _, q2, q3⟩ := div_mod hl b1 (bounds τ b3 (by grind) e2).1 (bounds τ b3 (by grind) e2).2
  suffices hlt : ρ < π from ⟨(order_nice r2 q2).1 hlt, order_flip r2 q2 ((order_nice r2 q2).1 hlt)⟩
  unfold Near at r3 q3
  generalize l / σ = A at *
  generalize l / τ = B at *
  grind

/-- The rank of an item: the heavier first, then the lower index. -/
def rkOf (vs : List Nat) (a : Nat × Nat) : Nat := (16 - vs.getD a.2 0) * 1000 + a.2

theorem Fresh.bef (h : Fresh sc s vs) {i j : Nat} (hi : i < vs.length) (hj : j < vs.length) : bef (keyF sc vs i, i) (keyF sc vs j, j) = decide (rkOf vs (keyF sc vs i, i) < rkOf vs (keyF sc vs j, j)) := by
  have ui := h.bd _ (getD_memN hi)
  have uj := h.bd _ (getD_memN hj)
  have hl := h.len
  have e : rkOf vs (keyF sc vs i, i) = (16 - vs.getD i 0) * 1000 + i := rfl
  have e' : rkOf vs (keyF sc vs j, j) = (16 - vs.getD j 0) * 1000 + j := rfl
  rw [e, e']
  unfold Go.Proofs.Ybulkcnam.bef
  simp only []
  rcases Nat.lt_trichotomy (vs.getD j 0) (vs.getD i 0) with hv | hv | hv
  · rw [(h.keyLt hi hj hv).1]
    have : (16 - vs.getD i 0) * 1000 + i < (16 - vs.getD j 0) * 1000 + j := by omega
    rw [decide_eq_true this]
    rfl
  · have hk := keyF_same (sc := sc) hi hj hv.symm
    rw [hk, order_self (h.keyNN hj), hv]
    by_cases hij : i < j
    · simp [hij]
    · simp [hij]
  · rw [(h.keyLt hj hi hv).2]
    have : ¬ (16 - vs.getD i 0) * 1000 + i < (16 - vs.getD j 0) * 1000 + j := by omega
    rw [decide_eq_false this]
    rfl

/-- What waits, after k replicas were put in: a heap by rank; each is a replica with its key. -/
theorem Fresh.wait (h : Fresh sc s vs) : ∀ k, k ≤ vs.length → HeapL (rkOf vs) (waitK (zeros vs.length) (shrL (wsOf sc vs)) (slackOf vs.length) k) ∧ ∀ a ∈ waitK (zeros vs.length) (shrL (wsOf sc vs)) (slackOf vs.length) k, a.2 < k ∧ a = (keyF sc vs a.2, a.2) := by
  intro k
  induction k with
  | zero => intro _; exact ⟨fun k k0 kn => by simp [waitK] at kn, fun a ha => by simp [waitK] at ha⟩
  | succ k ih =>
    intro hk
    obtain ⟨i1, i2⟩ := ih (by omega)
    rw [waitK_succ]
    have hmem : ∀ a ∈ (keyF sc vs k, k) :: waitK (zeros vs.length) (shrL (wsOf sc vs)) (slackOf vs.length) k, a.2 < k + 1 ∧ a = (keyF sc vs a.2, a.2) := by
      intro a ha
      rcases List.mem_cons.1 ha with rfl | ha
      · exact ⟨Nat.lt_succ_self _, rfl⟩
      · have := i2 a ha; exact ⟨by omega, this.2⟩
    have hR : Ranked (rkOf vs) ((keyF sc vs k, k) :: waitK (zeros vs.length) (shrL (wsOf sc vs)) (slackOf vs.length) k) := by
      intro a ha b hb
      obtain ⟨a1, a2⟩ := hmem a ha
      obtain ⟨b1, b2⟩ := hmem b hb
      rw [a2, b2]
      exact h.bef (by omega) (by omega)
    refine ⟨pushL_heap hR i1, fun a ha => hmem a ((pushL_perm _ _).mem_iff.1 ha)⟩

end
end Go.Proofs.Ybulkcnam
