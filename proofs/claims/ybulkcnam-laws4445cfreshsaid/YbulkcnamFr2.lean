/-
  FRESH WEIGHTS: what the law's float tests come to.
-/
import Derived.Test.YbulkcnamFr
import Derived.Test.YbulkcnamCarry
import Derived.Test.YbulkcnamHp
namespace Go.Proofs.Ybulkcnam
open Fl

section
variable {sc : Nat} {s : Rat} {vs : List Nat}

theorem shrL_get {ws : List Nat} {i : Nat} (h : i < ws.length) : (shrL ws).getD i 0 = fdiv (fdiv (ws.getD i 0) (maxL ws)) (totL ws) := by simp [shrL, List.getD, h]
theorem shr_at {i : Nat} (h : i < vs.length) : (shrL (wsOf sc vs)).getD i 0 = fdiv (fdiv (fmul (fi (vs.getD i 0)) sc) (maxL (wsOf sc vs))) (totL (wsOf sc vs)) := by
  rw [shrL_get (by rw [wsOf_length]; exact h), wsOf_get h]

def sumK (sh : List Nat) (k : Nat) : Nat := (sh.take k).foldl fadd 0
theorem sumK_succ {sh : List Nat} {k : Nat} (h : k < sh.length) : sumK sh (k + 1) = fadd (sumK sh k) (sh.getD k 0) := by
  unfold sumK
  rw [List.take_succ_eq_append_getElem h, List.foldl_append]
  simp [List.getD, h]

theorem Fresh.sums (h : Fresh sc s vs) {C : Rat} (hC : 0 < C) (hV : ((vSum vs vs.length : Nat) : Rat) * C ≤ 1 + 1 / 200000000000)
    (hσ : ∀ v ∈ vs, ∃ σ, Nice (fdiv (fdiv (fmul (fi v) sc) (maxL (wsOf sc vs))) (totL (wsOf sc vs))) σ ∧ Near5 σ ((v : Rat) * C) ∧ 1 / 20000 ≤ σ) :
    ∀ k, k < vs.length → ∃ S, Ieee.double.add (sumK (shrL (wsOf sc vs)) k) ((shrL (wsOf sc vs)).getD k 0) = some (sumK (shrL (wsOf sc vs)) (k + 1)) ∧ Nice (sumK (shrL (wsOf sc vs)) (k + 1)) S ∧ 1 / 30000 ≤ S ∧
      S ≤ ((vSum vs (k + 1) : Nat) : Rat) * C + ((k : Rat) + 1) * (1 / 100000000000000) ∧ ((vSum vs (k + 1) : Nat) : Rat) * C ≤ S + ((k : Rat) + 1) * (1 / 100000000000000) := by
  intro k
  induction k with
  | zero =>
    intro hk
    obtain ⟨σ, h1, h2, h3⟩ := hσ _ (getD_memN hk)
    have hk' : 0 < (shrL (wsOf sc vs)).length := by rw [shrL_length, wsOf_length]; exact hk
    have hm : ((vSum vs (0 + 1) : Nat) : Rat) * C ≤ ((vSum vs vs.length : Nat) : Rat) * C := mulr (cast_le (vSum_mono (by omega) (Nat.le_refl _))) (Rat.le_of_lt hC)
    rw [vSum_cast hk] at hm
    rw [sumK_succ hk', vSum_cast hk, shr_at hk]
    have e : sumK (shrL (wsOf sc vs)) 0 = 0 := by simp [sumK]
    have e2 : ((vSum vs 0 : Nat) : Rat) = 0 := by simp [vSum]
    rw [e2] at hm
    rw [e, e2]
    generalize ((vs.getD 0 0 : Nat) : Rat) * C = y at *
    unfold Near5 at h2
    obtain ⟨t, k1, k2, k3⟩ := add0_mod h1 (by grind) (by grind)
    unfold Near at k3
    have : ((0 : Nat) : Rat) = 0 := rfl
    refine ⟨t, k1, k2, by grind, ?_, ?_⟩
    · rw [this]; grind
    · rw [this]; grind
  | succ k ih =>
    intro hk
    obtain ⟨t, _, ht, t0, t1, t2⟩ := ih (by omega)
    obtain ⟨σ, h1, h2, h3⟩ := hσ _ (getD_memN hk)
    have hk' : k + 1 < (shrL (wsOf sc vs)).length := by rw [shrL_length, wsOf_length]; exact hk
    have hm : ((vSum vs (k + 1 + 1) : Nat) : Rat) * C ≤ ((vSum vs vs.length : Nat) : Rat) * C := mulr (cast_le (vSum_mono (by omega) (Nat.le_refl _))) (Rat.le_of_lt hC)
    have hm0 : (0 : Rat) ≤ ((vSum vs (k + 1) : Nat) : Rat) * C := Rat.mul_nonneg (cast_le (Nat.zero_le _)) (Rat.le_of_lt hC)
    have hk3 : ((k : Nat) : Rat) ≤ 301 := cast_le (show k ≤ 301 by have := h.len; omega)
    rw [vSum_cast hk] at hm
    rw [sumK_succ hk', vSum_cast hk, shr_at hk]
    generalize ((vs.getD (k + 1) 0 : Nat) : Rat) * C = y at *
    generalize ((vSum vs (k + 1) : Nat) : Rat) * C = Y at *
    unfold Near5 at h2
    obtain ⟨t', k1, k2, k3⟩ := add_mod ht h1 (by grind) (by grind)
    have : ((k + 1 : Nat) : Rat) = (k : Rat) + 1 := by rw [Rat.natCast_add]; rfl
    unfold Near at k3
    refine ⟨t', k1, k2, by grind, ?_, ?_⟩
    · rw [this]; grind
    · rw [this]; grind

theorem Fresh.sumStep (h : Fresh sc s vs) {k : Nat} (hk : k < vs.length) : Ieee.double.add (sumK (shrL (wsOf sc vs)) k) ((shrL (wsOf sc vs)).getD k 0) = some (sumK (shrL (wsOf sc vs)) (k + 1)) := by
  obtain ⟨C, hC, hV, _, hσ⟩ := h.shares
  obtain ⟨S, h1, _⟩ := h.sums hC hV hσ k hk
  exact h1

/-- The shares add up to 1. -/
theorem Fresh.sumOne (h : Fresh sc s vs) : ∃ z, Ieee.double.sub (sumK (shrL (wsOf sc vs)) vs.length) 4607182418800017408 = some z ∧ (Ieee.double.order (z % 2 ^ 63) 4472406533629990549 == some .gt) = false := by
  obtain ⟨C, hC, hV, hV2, hσ⟩ := h.shares
  obtain ⟨n, hn⟩ : ∃ n, vs.length = n + 1 := ⟨vs.length - 1, by have := List.length_pos_iff.2 h.ne; omega⟩
  obtain ⟨S, _, hS, S0, S1, S2⟩ := h.sums hC hV hσ n (by omega)
  have ho : Nice 4607182418800017408 ((1 : Nat) : Rat) := by rw [← fi_one]; exact nice_int 1 (by omega) (by decide)
  have e1 : ((1 : Nat) : Rat) = 1 := rfl
  rw [e1] at ho
  have hk3 : ((n : Nat) : Rat) ≤ 301 := cast_le (show n ≤ 301 by have := h.len; omega)
  rw [hn] at hV hV2 ⊢
  generalize ((vSum vs (n + 1) : Nat) : Rat) * C = Y at *
  obtain ⟨z, hz, hd⟩ := sub_small (B := 1 / 10000000000) hS ho (by grind) (by grind) (by grind) (by grind) (by grind)
  obtain ⟨c, hc, hcl⟩ := c9
  exact ⟨z, hz, abs_le hc hd (by grind)⟩

theorem mul_mod {x y : Nat} {a b : Rat} (hx : Nice x a) (hy : Nice y b) (lo : 1 / 1000000 ≤ a * b) (hi : a * b ≤ 1000000) : ∃ r, Ieee.double.mul x y = some (fmul x y) ∧ Nice (fmul x y) r ∧ Near r (a * b) := by
  have l1 := p2_m1000
  have l2 := p2_1000
  obtain ⟨z, r, h1, h2, h3⟩ := mul_nice hx hy (Rat.le_trans l1 lo) (Rat.le_trans hi l2)
  have e : fmul x y = z := by unfold fmul; rw [h1]; rfl
  exact ⟨r, by rw [e]; exact h1, by rw [e]; exact h2, h3⟩

/-- A share against the number that is proportional to its weight, times a whole weight. -/
theorem cross {x v u : Nat} {σ C : Rat} (hx : Nice x σ) (hn : Near5 σ ((v : Rat) * C)) (hl : 1 / 20000 ≤ σ) (hC : (v : Rat) * C ≤ 2) (hC0 : 0 ≤ (v : Rat) * C) (u1 : 1 ≤ u) (u2 : u ≤ 16) :
    ∃ r, Ieee.double.mul x (fi u) = some (fmul x (fi u)) ∧ Nice (fmul x (fi u)) r ∧ 1 / 30000 ≤ r ∧ 4503599627370496 * r ≤ 4503599627370504 * ((v : Rat) * C * (u : Rat)) ∧ 4503599627370488 * ((v : Rat) * C * (u : Rat)) ≤ 4503599627370496 * r ∧ (v : Rat) * C * (u : Rat) ≤ 32 := by
  have hu := nice_int u (by omega) (by omega)
  have c1 : (1 : Rat) ≤ (u : Rat) := cast_le u1
  have c2 : (u : Rat) ≤ 16 := cast_le u2
  generalize (v : Rat) * C = y at *
  have hσ0 := hx.pos
  have p1 : σ * 1 ≤ σ * (u : Rat) := Rat.mul_le_mul_of_nonneg_left c1 (Rat.le_of_lt hσ0)
  have p2 : σ * (u : Rat) ≤ σ * 16 := Rat.mul_le_mul_of_nonneg_left c2 (Rat.le_of_lt hσ0)
  have p3 : y * (u : Rat) ≤ y * 16 := Rat.mul_le_mul_of_nonneg_left c2 hC0
  have p4 : 0 ≤ y * (u : Rat) := Rat.mul_nonneg hC0 (by grind)
  unfold Near5 at hn
  have n1 := mulr hn.1 (show 0 ≤ (u : Rat) by grind)
  have n2 := mulr hn.2 (show 0 ≤ (u : Rat) by grind)
  obtain ⟨r, k1, k2, k3⟩ := mul_mod hx hu (by grind) (by grind)
  unfold Near at k3
  have e1 : 4503599627370496 * σ * (u : Rat) = 4503599627370496 * (σ * (u : Rat)) := by grind
  have e2 : 4503599627370501 * y * (u : Rat) = 4503599627370501 * (y * (u : Rat)) := by grind
  have e3 : 4503599627370491 * y * (u : Rat) = 4503599627370491 * (y * (u : Rat)) := by grind
  rw [e1, e2] at n1
  rw [e1, e3] at n2
  generalize y * (u : Rat) = Y at *
  generalize σ * (u : Rat) = Q at *
  refine ⟨r, k1, k2, by grind, by grind, by grind, by grind⟩

/-- The shares are in proportion to the weights. -/
theorem Fresh.prop (h : Fresh sc s vs) {i : Nat} (hi : i < vs.length) : Ieee.double.mul ((shrL (wsOf sc vs)).getD i 0) (fi (vs.getD 0 0)) = some (fmul ((shrL (wsOf sc vs)).getD i 0) (fi (vs.getD 0 0))) ∧
    Ieee.double.mul ((shrL (wsOf sc vs)).getD 0 0) (fi (vs.getD i 0)) = some (fmul ((shrL (wsOf sc vs)).getD 0 0) (fi (vs.getD i 0))) ∧
    ∃ z, Ieee.double.sub (fmul ((shrL (wsOf sc vs)).getD i 0) (fi (vs.getD 0 0))) (fmul ((shrL (wsOf sc vs)).getD 0 0) (fi (vs.getD i 0))) = some z ∧ (Ieee.double.order (z % 2 ^ 63) 4427486594234968593 == some .gt) = false := by
  obtain ⟨C, hC, hV, hV2, hσ⟩ := h.shares
  have h0 : 0 < vs.length := by omega
  have small : ∀ j, j < vs.length → ((vs.getD j 0 : Nat) : Rat) * C ≤ 2 ∧ 0 ≤ ((vs.getD j 0 : Nat) : Rat) * C := by
    intro j hj
    have hm : ((vSum vs (j + 1) : Nat) : Rat) * C ≤ ((vSum vs vs.length : Nat) : Rat) * C := mulr (cast_le (vSum_mono (by omega) (Nat.le_refl _))) (Rat.le_of_lt hC)
    have hm0 : (0 : Rat) ≤ ((vSum vs j : Nat) : Rat) * C := Rat.mul_nonneg (cast_le (Nat.zero_le _)) (Rat.le_of_lt hC)
    have hm1 : (0 : Rat) ≤ ((vs.getD j 0 : Nat) : Rat) * C := Rat.mul_nonneg (cast_le (Nat.zero_le _)) (Rat.le_of_lt hC)
    rw [vSum_cast hj] at hm
    exact ⟨by grind, hm1⟩
  obtain ⟨σi, a1, a2, a3⟩ := hσ _ (getD_memN hi)
  obtain ⟨σ0, b1, b2, b3⟩ := hσ _ (getD_memN h0)
  rw [← shr_at hi] at a1
  rw [← shr_at h0] at b1
  have u0 := h.bd _ (getD_memN h0)
  have ui := h.bd _ (getD_memN hi)
  obtain ⟨ra, x1, x2, x3, x4, x5, x6⟩ := cross a1 a2 a3 (small i hi).1 (small i hi).2 u0.1 u0.2
  obtain ⟨rb, y1, y2, y3, y4, y5, y6⟩ := cross b1 b2 b3 (small 0 h0).1 (small 0 h0).2 ui.1 ui.2
  refine ⟨x1, y1, ?_⟩
  have e : ((vs.getD 0 0 : Nat) : Rat) * C * ((vs.getD i 0 : Nat) : Rat) = ((vs.getD i 0 : Nat) : Rat) * C * ((vs.getD 0 0 : Nat) : Rat) := by grind
  rw [e] at y4 y5
  generalize ((vs.getD i 0 : Nat) : Rat) * C * ((vs.getD 0 0 : Nat) : Rat) = W at *
  obtain ⟨z, hz, hd⟩ := sub_small (B := 1 / 4398046511104) x2 y2 (by grind) (by grind) (by grind) (by grind) (by grind)
  obtain ⟨c, hc, hcl⟩ := c12
  exact ⟨z, hz, abs_le hc hd (by grind)⟩

end
end Go.Proofs.Ybulkcnam
