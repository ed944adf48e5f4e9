/-
  THE SHARES OF FRESH WEIGHTS, over rational numbers: positive, in proportion, adding up to 1.
-/
import Derived.Test.YbulkcnamSub
namespace Go.Proofs.Ybulkcnam
open Fl

/-- A scale: what the whole weights are multiplied by. -/
def ScaleOk (sc : Nat) (s : Rat) : Prop := 0 < s ∧ ∀ v : Nat, 1 ≤ v → v ≤ 16 → Ieee.double.mul (fi v) sc = some (fmul (fi v) sc) ∧ ∃ r, Nice (fmul (fi v) sc) r ∧ Near r ((v : Rat) * s)

def chk (sc Ms : Nat) (Ps : Int) (v : Nat) : Bool := match Ieee.double.mul (fi v) sc with
  | none => false
  | some x => match Ieee.double.read x with
    | .number false M P => decide (2 ^ 52 ≤ M) && decide (M < 2 ^ 53) && decide (Ps ≤ P) && decide (4503599627370496 * (M * 2 ^ (P - Ps).toNat) ≤ 4503599627370497 * (v * Ms)) && decide (4503599627370495 * (v * Ms) ≤ 4503599627370496 * (M * 2 ^ (P - Ps).toNat))
    | _ => false

theorem chk_spec {sc Ms : Nat} {Ps : Int} {v : Nat} (h : chk sc Ms Ps v = true) : Ieee.double.mul (fi v) sc = some (fmul (fi v) sc) ∧ ∃ r, Nice (fmul (fi v) sc) r ∧ Near r ((v : Rat) * ((Ms : Rat) * p2 Ps)) := by
  unfold chk at h
  cases hm : Ieee.double.mul (fi v) sc with
  | none => rw [hm] at h; cases h
  | some x =>
    rw [hm] at h
    simp only [] at h
    have e : fmul (fi v) sc = x := by unfold fmul; rw [hm, Option.getD_some]
    rw [e]
    refine ⟨rfl, ?_⟩
    cases hr : Ieee.double.read x with
    | number s M P =>
      rw [hr] at h
      cases s with
      | true => simp at h
      | false =>
        simp only [Bool.and_eq_true, decide_eq_true_eq] at h
        obtain ⟨⟨⟨⟨h1, h2⟩, h3⟩, h4⟩, h5⟩ := h
        refine ⟨_, ⟨M, P, hr, h1, h2, rfl⟩, ?_⟩
        have ep : p2 P = ((2 ^ (P - Ps).toNat : Nat) : Rat) * p2 Ps := by
          rw [← p2_nat, ← p2_add]; congr 1; omega
        have c4 := Rat.mul_le_mul_of_nonneg_right (cast_le h4) (Rat.le_of_lt (p2_pos Ps))
        have c5 := Rat.mul_le_mul_of_nonneg_right (cast_le h5) (Rat.le_of_lt (p2_pos Ps))
        simp only [Rat.natCast_mul] at c4 c5
        have n1 : ((4503599627370496 : Nat) : Rat) = 4503599627370496 := rfl
        have n2 : ((4503599627370497 : Nat) : Rat) = 4503599627370497 := rfl
        have n3 : ((4503599627370495 : Nat) : Rat) = 4503599627370495 := rfl
        rw [n1, n2] at c4
        rw [n1, n3] at c5
        rw [ep]
        generalize ((2 ^ (P - Ps).toNat : Nat) : Rat) = u at *
        generalize p2 Ps = t at *
        unfold Near
        constructor <;> grind
    | infinity s => rw [hr] at h; cases h
    | nan s f => rw [hr] at h; cases h

theorem scale_of {sc Ms : Nat} {Ps : Int} (hm : 0 < Ms) (h : ∀ v, v < 17 → 1 ≤ v → chk sc Ms Ps v = true) : ScaleOk sc ((Ms : Rat) * p2 Ps) :=
  ⟨Rat.mul_pos (Rat.natCast_lt_natCast.2 hm) (p2_pos Ps), fun v h1 h2 => chk_spec (h v (by omega) h1)⟩

theorem scale1 : ∃ s, ScaleOk 4607182418800017408 s := ⟨_, scale_of (Ms := 4503599627370496) (Ps := -52) (by decide) (by decide +kernel)⟩
theorem scale2 : ∃ s, ScaleOk 118622047889322841 s := ⟨_, scale_of (Ms := 6032057205060441) (Ps := -1049) (by decide) (by decide +kernel)⟩
theorem scale3 : ∃ s, ScaleOk 9094988921128908188 s := ⟨_, scale_of (Ms := 6724873095247260) (Ps := 944) (by decide) (by decide +kernel)⟩

def Near3 (r t : Rat) : Prop := 4503599627370496 * r ≤ 4503599627370499 * t ∧ 4503599627370493 * t ≤ 4503599627370496 * r
def Near5 (r t : Rat) : Prop := 4503599627370496 * r ≤ 4503599627370501 * t ∧ 4503599627370491 * t ≤ 4503599627370496 * r
theorem near_comp {r u t : Rat} (h : Near r u) (k : Near u t) (_ht : 0 ≤ t) : Near3 r t := by unfold Near at *; unfold Near3; constructor <;> grind
theorem near_comp3 {r u t : Rat} (h : Near r u) (k : Near3 u t) (_ht : 0 ≤ t) : Near5 r t := by unfold Near at *; unfold Near3 at *; unfold Near5; constructor <;> grind
theorem inv_nonneg {d : Rat} (hd : 0 < d) : 0 ≤ d⁻¹ := Rat.le_of_lt (Rat.inv_pos.2 hd)
theorem near_div {a b d : Rat} (h : Near a b) (hd : 0 < d) : Near (a / d) (b / d) := by
  obtain ⟨h1, h2⟩ := h
  have c1 := Rat.mul_le_mul_of_nonneg_right h1 (inv_nonneg hd)
  have c2 := Rat.mul_le_mul_of_nonneg_right h2 (inv_nonneg hd)
  unfold Near
  rw [Rat.div_def, Rat.div_def]
  generalize d⁻¹ = u at *
  constructor <;> grind
theorem near3_div {a b d : Rat} (h : Near3 a b) (hd : 0 < d) : Near3 (a / d) (b / d) := by
  obtain ⟨h1, h2⟩ := h
  have c1 := Rat.mul_le_mul_of_nonneg_right h1 (inv_nonneg hd)
  have c2 := Rat.mul_le_mul_of_nonneg_right h2 (inv_nonneg hd)
  unfold Near3
  rw [Rat.div_def, Rat.div_def]
  generalize d⁻¹ = u at *
  constructor <;> grind
theorem mul_div3 (a b c : Rat) : a * b / c = a * (b / c) := by rw [Rat.div_def, Rat.div_def, Rat.mul_assoc]

/-- Whole weights at a scale. -/
structure Fresh (sc : Nat) (s : Rat) (vs : List Nat) : Prop where
  ok : ScaleOk sc s
  ne : vs ≠ []
  len : vs.length ≤ 301
  bd : ∀ v ∈ vs, 1 ≤ v ∧ v ≤ 16

section
variable {sc : Nat} {s : Rat} {vs : List Nat}

theorem cast_one_le {v : Nat} (h : 1 ≤ v) : (1 : Rat) ≤ (v : Rat) := cast_le h
theorem mulr {a b c : Rat} (h : a ≤ b) (hc : 0 ≤ c) : a * c ≤ b * c := Rat.mul_le_mul_of_nonneg_right h hc

theorem Fresh.val (h : Fresh sc s vs) {x : Nat} (hx : x ∈ wsOf sc vs) : ∃ (v : Nat) (a : Rat), v ∈ vs ∧ x = fmul (fi v) sc ∧ Nice x a ∧ Near a ((v : Rat) * s) ∧ s ≤ (v : Rat) * s ∧ (v : Rat) * s ≤ 16 * s := by
  obtain ⟨v, hv, rfl⟩ := List.mem_map.1 hx
  obtain ⟨b1, b2⟩ := h.bd v hv
  obtain ⟨_, a, h1, h2⟩ := h.ok.2 v b1 b2
  have hs := Rat.le_of_lt h.ok.1
  have m1 := mulr (cast_one_le b1) hs
  have m2 := mulr (show (v : Rat) ≤ 16 from cast_le b2) hs
  exact ⟨v, a, hv, rfl, h1, h2, by grind, m2⟩

theorem Fresh.wts (h : Fresh sc s vs) : Wts (wsOf sc vs) := by
  refine ⟨fun e => h.ne (List.map_eq_nil_iff.1 e), by rw [wsOf_length]; exact h.len, fun x hx => ?_, fun x hx y hy a b ha hb => ?_⟩
  · obtain ⟨v, a, _, _, h1, _⟩ := h.val hx; exact ⟨a, h1⟩
  · obtain ⟨v, a', _, _, h1, h2, h3, h4⟩ := h.val hx
    obtain ⟨u, b', _, _, k1, k2, k3, k4⟩ := h.val hy
    rw [nice_uniq ha h1, nice_uniq hb k1]
    have hs := h.ok.1
    unfold Near at h2 k2
    generalize (v : Rat) * s = p at *
    generalize (u : Rat) * s = q at *
    grind

/-- The largest weight, and the weights against it. -/
theorem Fresh.max (h : Fresh sc s vs) : ∃ m, Nice (maxL (wsOf sc vs)) m ∧ 1 / 17 ≤ s / m ∧
    ∀ v ∈ vs, 1 / 17 ≤ (v : Rat) * (s / m) ∧ (v : Rat) * (s / m) ≤ 1001 / 1000 ∧ ∃ q, Nice (fdiv (fmul (fi v) sc) (maxL (wsOf sc vs))) q ∧ Near3 q ((v : Rat) * (s / m)) := by
  have hW := h.wts
  obtain ⟨vm, m, _, _, hm, hn, hl1, hl2⟩ := h.val (maxL_mem hW.1)
  have pm := hm.pos
  have hs := h.ok.1
  have e : s / m * m = s := Rat.div_mul_cancel (by grind)
  have d1 : 1 / 17 ≤ s / m := by
    refine Rat.le_of_mul_le_mul_right (c := m) ?_ pm
    rw [e]
    unfold Near at hn
    generalize (vm : Rat) * s = p at *
    grind
  refine ⟨m, hm, d1, fun v hv => ?_⟩
  have hx : fmul (fi v) sc ∈ wsOf sc vs := List.mem_map.2 ⟨v, hv, rfl⟩
  obtain ⟨b1, b2⟩ := h.bd v hv
  obtain ⟨_, a, ha, han⟩ := h.ok.2 v b1 b2
  obtain ⟨a', m', q, ha', hm', ham, _, _, _, hq, hqn, _, _⟩ := quo_ok hW hx
  rw [nice_uniq ha' ha] at ham hqn
  rw [nice_uniq hm' hm] at ham hqn
  have hvd : (v : Rat) * (s / m) * m = (v : Rat) * s := by rw [Rat.mul_assoc, e]
  have g1 : 1 / 17 ≤ (v : Rat) * (s / m) := by
    have := mulr (cast_one_le b1) (show 0 ≤ s / m by grind)
    grind
  have g2 : (v : Rat) * (s / m) ≤ 1001 / 1000 := by
    refine Rat.le_of_mul_le_mul_right (c := m) ?_ pm
    rw [hvd]
    unfold Near at han
    generalize (v : Rat) * s = p at *
    grind
  refine ⟨g1, g2, q, hq, ?_⟩
  have := near_div han pm
  rw [mul_div3] at this
  exact near_comp hqn this (by grind)

/-- The sum of the first k whole weights. -/
def vSum (vs : List Nat) (k : Nat) : Nat := (vs.take k).sum
theorem vSum_succ {vs : List Nat} {k : Nat} (h : k < vs.length) : vSum vs (k + 1) = vSum vs k + vs.getD k 0 := by
  unfold vSum
  rw [List.take_succ_eq_append_getElem h, List.sum_append]
  simp [List.getD, h]
theorem vSum_cast {vs : List Nat} {k : Nat} (h : k < vs.length) (D : Rat) : ((vSum vs (k + 1) : Nat) : Rat) * D = ((vSum vs k : Nat) : Rat) * D + ((vs.getD k 0 : Nat) : Rat) * D := by
  rw [vSum_succ h, Rat.natCast_add, Rat.add_mul]
theorem vSum_ge {vs : List Nat} (h : ∀ v ∈ vs, 1 ≤ v) : ∀ k, k ≤ vs.length → k ≤ vSum vs k := by
  intro k
  induction k with
  | zero => intro _; exact Nat.zero_le _
  | succ k ih =>
    intro hk
    rw [vSum_succ (by omega)]
    have := h _ (getD_memN (k := k) (by omega))
    have := ih (by omega)
    omega
theorem vSum_mono {vs : List Nat} {k l : Nat} (h : k ≤ l) (hl : l ≤ vs.length) : vSum vs k ≤ vSum vs l := by
  induction l with
  | zero => rw [show k = 0 by omega]; exact Nat.le_refl _
  | succ l ih =>
    rcases Nat.lt_or_ge l k with h1 | h1
    · rw [show k = l + 1 by omega]; exact Nat.le_refl _
    · rw [vSum_succ (by omega)]
      have := ih h1 (by omega)
      omega

/-- The total against the exact one. -/
theorem Fresh.total (h : Fresh sc s vs) {m : Rat} (hm : Nice (maxL (wsOf sc vs)) m) : ∀ k, k < vs.length → ∃ t, Nice (totK (wsOf sc vs) (maxL (wsOf sc vs)) (k + 1)) t ∧
    t ≤ ((vSum vs (k + 1) : Nat) : Rat) * (s / m) + ((k : Rat) + 1) * (1 / 5000000000000) ∧ ((vSum vs (k + 1) : Nat) : Rat) * (s / m) ≤ t + ((k : Rat) + 1) * (1 / 5000000000000) := by
  obtain ⟨m', hm', hd, hv⟩ := h.max
  obtain rfl := nice_uniq hm' hm
  have hW := h.wts
  intro k
  induction k with
  | zero =>
    intro hk
    obtain ⟨g1, g2, q, hq, hqn⟩ := hv _ (getD_memN hk)
    have hk' : 0 < (wsOf sc vs).length := by rw [wsOf_length]; exact hk
    rw [totK_succ _ _ _ hk', wsOf_get hk, vSum_cast hk]
    have e : totK (wsOf sc vs) (maxL (wsOf sc vs)) 0 = 0 := by simp [totK]
    have e2 : ((vSum vs 0 : Nat) : Rat) = 0 := by simp [vSum]
    rw [e, e2]
    generalize ((vs.getD 0 0 : Nat) : Rat) * (s / m') = y at *
    unfold Near3 at hqn
    obtain ⟨t, k1, k2, k3⟩ := add0_mod hq (by grind) (by grind)
    refine ⟨t, k2, ?_, ?_⟩
    · unfold Near at k3
      have : ((0 : Nat) : Rat) = 0 := rfl
      rw [this]; grind
    · unfold Near at k3
      have : ((0 : Nat) : Rat) = 0 := rfl
      rw [this]; grind
  | succ k ih =>
    intro hk
    obtain ⟨t, ht, t1, t2⟩ := ih (by omega)
    obtain ⟨g1, g2, q, hq, hqn⟩ := hv _ (getD_memN hk)
    have hk' : k + 1 < (wsOf sc vs).length := by rw [wsOf_length]; exact hk
    obtain ⟨tt, _, htt, tb1, tb2⟩ := tot_ok hW k (by omega)
    rw [nice_uniq htt ht] at tb1 tb2
    have hk3 : ((k : Nat) : Rat) ≤ 301 := cast_le (show k ≤ 301 by have := h.len; omega)
    rw [totK_succ _ _ _ hk', wsOf_get hk, vSum_cast hk]
    generalize ((vs.getD (k + 1) 0 : Nat) : Rat) * (s / m') = y at *
    generalize ((vSum vs (k + 1) : Nat) : Rat) * (s / m') = Y at *
    unfold Near3 at hqn
    obtain ⟨t', k1, k2, k3⟩ := add_mod ht hq (by grind) (by grind)
    have : ((k + 1 : Nat) : Rat) = (k : Rat) + 1 := by rw [Rat.natCast_add]; rfl
    unfold Near at k3
    refine ⟨t', k2, ?_, ?_⟩
    · rw [this]; grind
    · rw [this]; grind

/-- The shares: each is its whole weight times one number C, but for a 2^50th part; all together are 1, nearly. -/
theorem Fresh.shares (h : Fresh sc s vs) : ∃ C, 0 < C ∧ ((vSum vs vs.length : Nat) : Rat) * C ≤ 1 + 1 / 200000000000 ∧ 1 - 1 / 200000000000 ≤ ((vSum vs vs.length : Nat) : Rat) * C ∧
    ∀ v ∈ vs, ∃ σ, Nice (fdiv (fdiv (fmul (fi v) sc) (maxL (wsOf sc vs))) (totL (wsOf sc vs))) σ ∧ Near5 σ ((v : Rat) * C) ∧ 1 / 20000 ≤ σ := by
  obtain ⟨m, hm, hd, hv⟩ := h.max
  have hW := h.wts
  obtain ⟨n, hn⟩ : ∃ n, vs.length = n + 1 := ⟨vs.length - 1, by have := List.length_pos_iff.2 h.ne; omega⟩
  obtain ⟨t, ht, t1, t2⟩ := h.total hm n (by omega)
  have hte : totL (wsOf sc vs) = totK (wsOf sc vs) (maxL (wsOf sc vs)) (n + 1) := by unfold totL; rw [wsOf_length, hn]
  have hvs := vSum_ge (fun v hv => (h.bd v hv).1) (n + 1) (by omega)
  have hvc : ((n : Rat) + 1) ≤ ((vSum vs (n + 1) : Nat) : Rat) := by
    have := cast_le hvs
    rw [Rat.natCast_add] at this
    exact this
  have hn0 : (0 : Rat) ≤ (n : Rat) := cast_le (Nat.zero_le n)
  have hY : ((n : Rat) + 1) * (1 / 17) ≤ ((vSum vs (n + 1) : Nat) : Rat) * (s / m) := by
    have c1 := mulr hvc (show 0 ≤ s / m by grind)
    have c2 : ((n : Rat) + 1) * (1 / 17) ≤ ((n : Rat) + 1) * (s / m) := Rat.mul_le_mul_of_nonneg_left hd (by grind)
    exact Rat.le_trans c2 c1
  have pt := ht.pos
  have e : s / m / t * t = s / m := Rat.div_mul_cancel (by grind)
  have eV : ((vSum vs (n + 1) : Nat) : Rat) * (s / m / t) * t = ((vSum vs (n + 1) : Nat) : Rat) * (s / m) := by rw [Rat.mul_assoc, e]
  have hdp : 0 < s / m := by grind
  refine ⟨s / m / t, ?_, ?_, ?_, fun v hvm => ?_⟩
  · rw [Rat.div_def (s / m) t]; exact Rat.mul_pos hdp (Rat.inv_pos.2 pt)
  · rw [hn]
    refine Rat.le_of_mul_le_mul_right (c := t) ?_ pt
    rw [eV]
    generalize ((vSum vs (n + 1) : Nat) : Rat) * (s / m) = Y at *
    grind
  · rw [hn]
    refine Rat.le_of_mul_le_mul_right (c := t) ?_ pt
    rw [eV]
    generalize ((vSum vs (n + 1) : Nat) : Rat) * (s / m) = Y at *
    grind
  · obtain ⟨g1, g2, q, hq, hqn⟩ := hv v hvm
    have hx : fmul (fi v) sc ∈ wsOf sc vs := List.mem_map.2 ⟨v, hvm, rfl⟩
    obtain ⟨q', t', σ, hq', ht', _, hσ, hσn, l1, _⟩ := shr_ok hW hx
    rw [nice_uniq hq' hq] at hσn
    rw [hte] at ht'
    rw [nice_uniq ht' ht] at hσn
    refine ⟨σ, hσ, ?_, l1⟩
    have := near3_div hqn pt
    rw [mul_div3] at this
    refine near_comp3 hσn this ?_
    rw [Rat.div_def (s / m) t]
    exact Rat.mul_nonneg (by grind) (Rat.mul_nonneg (by grind) (inv_nonneg pt))

end
end Go.Proofs.Ybulkcnam
