/-
  BINARY64 NEAR ONE: what '+', '-', '*', '/' of the model's floats do to positive normal numbers of moderate size, over rational numbers: each result is within a 2^52nd part of the exact one. Plain mathematics over Ieee's own functions; no Go function is walked here.
-/
import Derived.Test.YbulkcnamRows
namespace Go.Proofs.Ybulkcnam.Fl
open Ieee

/-! ### Powers of two -/
def p2 (z : Int) : Rat := (2 : Rat) ^ z
theorem two_ne : (2 : Rat) ≠ 0 := by decide
theorem p2_add (a b : Int) : p2 (a + b) = p2 a * p2 b := Rat.zpow_add two_ne a b
theorem p2_pos (a : Int) : 0 < p2 a := Rat.zpow_pos (by decide)
theorem p2_nat (n : Nat) : p2 (n : Int) = ((2 ^ n : Nat) : Rat) := by
  unfold p2
  rw [Rat.zpow_natCast]
  induction n with
  | zero => rfl
  | succ n ih => rw [Rat.pow_succ, ih, Nat.pow_succ, Rat.natCast_mul]; rfl
theorem p2_zero : p2 0 = 1 := by have := p2_nat 0; simpa using this
theorem p2_one_le {z : Int} (h : 0 ≤ z) : 1 ≤ p2 z := by
  obtain ⟨n, rfl⟩ := Int.eq_ofNat_of_zero_le h
  rw [p2_nat]
  have : (1 : Nat) ≤ 2 ^ n := Nat.one_le_two_pow
  exact_mod_cast this
theorem p2_le {a b : Int} (h : a ≤ b) : p2 a ≤ p2 b := by
  have e : p2 b = p2 a * p2 (b - a) := by rw [← p2_add]; congr 1; omega
  have h1 := p2_one_le (show 0 ≤ b - a by omega)
  have h2 := p2_pos a
  have h3 := Rat.mul_le_mul_of_nonneg_left h1 (Rat.le_of_lt h2)
  rw [e]; grind
theorem p2_lt_iff {a b : Int} : p2 a < p2 b → a < b := by
  intro h
  rcases Int.lt_or_le a b with h1 | h1
  · exact h1
  · have := p2_le h1; grind

theorem rlt {a b c : Rat} (h : a ≤ b) (k : b < c) : a < c := by grind
theorem rlt2 {a b c : Rat} (h : a < b) (k : b ≤ c) : a < c := by grind
theorem p2_succ (a : Int) : p2 (a + 1) = 2 * p2 a := by
  rw [p2_add, show (1 : Int) = ((1 : Nat) : Int) from rfl, p2_nat]
  have e2 : ((2 ^ 1 : Nat) : Rat) = 2 := rfl
  rw [e2]; grind
theorem p2_lt {a b : Int} (h : a < b) : p2 a < p2 b := by
  have h1 := p2_le (show a + 1 ≤ b by omega)
  have h2 := p2_pos a
  rw [p2_succ] at h1
  grind

/-! ### Cutting to the nearest whole number -/
theorem cut_even (neg : Bool) (n drop : Nat) (h : drop ≤ n.log2 + 2) :
    2 * (Toward.even.cut neg n drop * 2 ^ drop) ≤ 2 * n + 2 ^ drop ∧ 2 * n ≤ 2 * (Toward.even.cut neg n drop * 2 ^ drop) + 2 ^ drop := by
  have hg : 1 <<< min drop (n.log2 + 2) = 2 ^ drop := by rw [Nat.min_eq_left h, Nat.shiftLeft_eq, Nat.one_mul]
  have hpos : 0 < 2 ^ drop := Nat.two_pow_pos drop
  have hdm := Nat.div_add_mod n (2 ^ drop)
  have hr := Nat.mod_lt n hpos
  unfold Toward.cut
  simp only [hg]
  generalize hG : 2 ^ drop = g at *
  generalize n / g = low at *
  generalize n % g = rest at *
  cases hb : (decide (g < 2 * rest) || (g == 2 * rest && low % 2 == 1)) with
  | true =>
    have : g ≤ 2 * rest := by
      simp only [Bool.or_eq_true, decide_eq_true_eq, Bool.and_eq_true, beq_iff_eq] at hb
      omega
    simp only [Bool.toNat_true]
    rw [Nat.add_mul, Nat.mul_comm low g]
    omega
  | false =>
    have : 2 * rest ≤ g := by
      simp only [Bool.or_eq_false_iff, decide_eq_false_iff_not] at hb
      omega
    simp only [Bool.toNat_false, Nat.add_zero]
    rw [Nat.mul_comm low g]
    omega

theorem cut_zero (neg : Bool) (n : Nat) : Toward.even.cut neg n 0 = n := by
  unfold Toward.cut
  simp
  omega

/-! ### Rounding to a normal number -/
theorem log2_le {m : Nat} (h : 0 < m) : 2 ^ m.log2 ≤ m := Nat.log2_self_le (by omega)
theorem lt_log2 (m : Nat) : m < 2 ^ (m.log2 + 1) := Nat.lt_log2_self

theorem binade_eq : double.binade = 2 ^ 52 := rfl
theorem infRung_eq : double.infRung = 2047 * 2 ^ 52 := rfl
theorem least_eq : double.leastPlace = -1074 := rfl
theorem fbits_eq : (double.fractionBits : Int) = 52 := rfl
theorem sign_eq : double.signWeight = 2 ^ 63 := rfl

/-- The significand that is kept, between 2^52 and 2^53; how far it is off. -/
theorem kept_spec (neg : Bool) (mag : Nat) (hm : 0 < mag) :
    2 ^ 52 ≤ Toward.even.cut neg (mag <<< (52 - mag.log2)) (mag.log2 - 52) ∧ Toward.even.cut neg (mag <<< (52 - mag.log2)) (mag.log2 - 52) ≤ 2 ^ 53 ∧
    Toward.even.cut neg (mag <<< (52 - mag.log2)) (mag.log2 - 52) * 2 ^ (mag.log2 - 52) * 2 ^ 53 ≤ mag * 2 ^ (52 - mag.log2) * (2 ^ 53 + 1) ∧
    mag * 2 ^ (52 - mag.log2) * (2 ^ 53 - 1) ≤ Toward.even.cut neg (mag <<< (52 - mag.log2)) (mag.log2 - 52) * 2 ^ (mag.log2 - 52) * 2 ^ 53 := by
  have h1 := log2_le hm
  have h2 := lt_log2 mag
  rcases Nat.lt_or_ge 52 mag.log2 with hL | hL
  · obtain ⟨d, hd⟩ : ∃ d, mag.log2 = 52 + d := ⟨mag.log2 - 52, by omega⟩
    have e1 : 52 - mag.log2 = 0 := by omega
    have e2 : mag.log2 - 52 = d := by omega
    have hc := cut_even neg mag d (by omega)
    rw [e1, e2, Nat.shiftLeft_zero]
    rw [hd] at h1 h2
    rw [Nat.pow_add] at h1
    rw [show 52 + d + 1 = 53 + d by omega, Nat.pow_add] at h2
    have hg : 0 < 2 ^ d := Nat.two_pow_pos d
    generalize Toward.even.cut neg mag d = K at *
    generalize 2 ^ d = g at *
    have hx : K * g * 2 ^ 53 = K * g * 9007199254740992 := rfl
    refine ⟨?_, ?_, ?_, ?_⟩
    · rcases Nat.lt_or_ge K (2 ^ 52) with h | h
      · exfalso
        have : K * g + g ≤ 2 ^ 52 * g := by
          have := Nat.mul_le_mul_right g (show K + 1 ≤ 2 ^ 52 from h)
          rw [Nat.add_mul, Nat.one_mul] at this; exact this
        omega
      · exact h
    · rcases Nat.lt_or_ge (2 ^ 53) K with h | h
      · exfalso
        have : 2 ^ 53 * g + g ≤ K * g := by
          have := Nat.mul_le_mul_right g (show 2 ^ 53 + 1 ≤ K from h)
          rw [Nat.add_mul, Nat.one_mul] at this; exact this
        omega
      · exact h
    · rw [Nat.pow_zero, Nat.mul_one]; omega
    · rw [Nat.pow_zero, Nat.mul_one]; omega
  · have e2 : mag.log2 - 52 = 0 := by omega
    rw [e2, cut_zero, Nat.shiftLeft_eq, Nat.pow_zero, Nat.mul_one]
    have hp : 2 ^ 52 = 2 ^ mag.log2 * 2 ^ (52 - mag.log2) := by rw [← Nat.pow_add]; congr 1; omega
    have hp3 : 2 ^ 53 = 2 ^ (mag.log2 + 1) * 2 ^ (52 - mag.log2) := by rw [← Nat.pow_add]; congr 1; omega
    refine ⟨?_, ?_, ?_, ?_⟩
    · rw [hp]; exact Nat.mul_le_mul_right _ h1
    · rw [hp3]; exact Nat.mul_le_mul_right _ (Nat.le_of_lt h2)
    · exact Nat.mul_le_mul_left _ (by omega)
    · exact Nat.mul_le_mul_left _ (by omega)

theorem nearest_normal (neg : Bool) (mag : Nat) (place : Int) (hm : 0 < mag) (hlo : -1022 ≤ place + mag.log2) (hhi : place + mag.log2 ≤ 1022) :
    double.nearest neg mag place = double.word neg ((place + mag.log2 + 1022).toNat * 2 ^ 52 + Toward.even.cut neg (mag <<< (52 - mag.log2)) (mag.log2 - 52)) := by
  have hk := (kept_spec neg mag hm).2.1
  unfold Format.nearest
  rw [if_neg (by omega)]
  simp only [fbits_eq, least_eq, binade_eq, infRung_eq]
  have e0 : max (place + (mag.log2 : Int) - 52) (-1074) = place + (mag.log2 : Int) - 52 := by omega
  rw [e0]
  have e1 : (place - (place + (mag.log2 : Int) - 52)).toNat = 52 - mag.log2 := by omega
  have e2 : (place + (mag.log2 : Int) - 52 - place).toNat = mag.log2 - 52 := by omega
  have e3 : (place + (mag.log2 : Int) - 52 - -1074).toNat = (place + mag.log2 + 1022).toNat := by omega
  rw [e1, e2, e3]
  congr 1
  rw [Nat.min_eq_left]
  have : (place + mag.log2 + 1022).toNat ≤ 2044 := by omega
  omega

/-- The word's reading: its significand M has 53 digits. -/
theorem read_word (neg : Bool) (E K : Nat) (hE : E ≤ 2044) (h1 : 2 ^ 52 ≤ K) (h2 : K ≤ 2 ^ 53) :
    ∃ M P, double.read (double.word neg (E * 2 ^ 52 + K)) = .number neg M P ∧ 2 ^ 52 ≤ M ∧ M < 2 ^ 53 ∧ (P = (E : Int) - 1074 ∧ M = K ∨ P = (E : Int) - 1073 ∧ K = 2 * M) := by
  have hs : (double.word neg (E * 2 ^ 52 + K)) / 2 ^ 63 % 2 = neg.toNat ∧ (double.word neg (E * 2 ^ 52 + K)) % 2 ^ 63 = E * 2 ^ 52 + K := by
    unfold Format.word
    rw [sign_eq]
    cases neg <;> simp only [Bool.false_eq_true, if_false, if_true, Bool.toNat_true, Bool.toNat_false] <;> omega
  unfold Format.read
  simp only [sign_eq, hs.1, hs.2, binade_eq, infRung_eq, least_eq]
  have hneg : (neg.toNat == 1) = neg := by cases neg <;> rfl
  rw [if_neg (by omega), if_pos (by omega), hneg]
  rcases Nat.lt_or_ge K (2 ^ 53) with h | h
  · have e1 : (E * 2 ^ 52 + K) % 2 ^ 52 = K - 2 ^ 52 := by omega
    have e2 : (E * 2 ^ 52 + K) / 2 ^ 52 - 1 = E := by omega
    refine ⟨_, _, rfl, by omega, by omega, .inl ⟨?_, ?_⟩⟩
    · rw [e2]; omega
    · rw [e1]; omega
  · have e1 : (E * 2 ^ 52 + K) % 2 ^ 52 = 0 := by omega
    have e2 : (E * 2 ^ 52 + K) / 2 ^ 52 - 1 = E + 1 := by omega
    refine ⟨_, _, rfl, by omega, by omega, .inr ⟨?_, ?_⟩⟩
    · rw [e2]; omega
    · rw [e1]; omega

/-! ### Over rational numbers -/
theorem cast_le {a b : Nat} (h : a ≤ b) : (a : Rat) ≤ (b : Rat) := Rat.natCast_le_natCast.2 h

/-- THE ROUNDING LAW: a number of moderate size is rounded to a normal one, off by at most its 2^53rd part. -/
theorem round_spec (neg : Bool) (mag : Nat) (place : Int) (hm : 0 < mag) (hlo : -1022 ≤ place + mag.log2) (hhi : place + mag.log2 ≤ 1022) :
    ∃ M P, double.read (double.nearest neg mag place) = .number neg M P ∧ 2 ^ 52 ≤ M ∧ M < 2 ^ 53 ∧
      9007199254740992 * ((M : Rat) * p2 P) ≤ 9007199254740993 * ((mag : Rat) * p2 place) ∧ 9007199254740991 * ((mag : Rat) * p2 place) ≤ 9007199254740992 * ((M : Rat) * p2 P) := by
  have hk := kept_spec neg mag hm
  rw [nearest_normal neg mag place hm hlo hhi]
  obtain ⟨h1, h2, h3, h4⟩ := hk
  generalize hK : Toward.even.cut neg (mag <<< (52 - mag.log2)) (mag.log2 - 52) = K at *
  obtain ⟨M, P, hr, hM1, hM2, hcase⟩ := read_word neg (place + mag.log2 + 1022).toNat K (by omega) h1 h2
  refine ⟨M, P, hr, hM1, hM2, ?_⟩
  have hval : (M : Rat) * p2 P = (K : Rat) * p2 (place + mag.log2 - 52) := by
    rcases hcase with ⟨hP, rfl⟩ | ⟨hP, rfl⟩
    · rw [hP]; congr 2; omega
    · have e : P = (place + mag.log2 - 52) + 1 := by omega
      rw [e, p2_add, show (1 : Int) = ((1 : Nat) : Int) from rfl, p2_nat, Rat.natCast_mul]
      have e2 : ((2 ^ 1 : Nat) : Rat) = 2 := rfl
      have e3 : ((2 : Nat) : Rat) = 2 := rfl
      rw [e2]; grind
  rw [hval]
  have e1 : p2 (place + mag.log2 - 52) = ((2 ^ (mag.log2 - 52) : Nat) : Rat) * p2 (place - ((52 - mag.log2 : Nat) : Int)) := by
    rw [← p2_nat, ← p2_add]; congr 1; omega
  have e2 : p2 place = ((2 ^ (52 - mag.log2) : Nat) : Rat) * p2 (place - ((52 - mag.log2 : Nat) : Int)) := by
    rw [← p2_nat, ← p2_add]; congr 1; omega
  rw [e1, e2]
  have t := p2_pos (place - ((52 - mag.log2 : Nat) : Int))
  generalize p2 (place - ((52 - mag.log2 : Nat) : Int)) = u at *
  have c3 := Rat.mul_le_mul_of_nonneg_right (cast_le h3) (Rat.le_of_lt t)
  have c4 := Rat.mul_le_mul_of_nonneg_right (cast_le h4) (Rat.le_of_lt t)
  simp only [Rat.natCast_mul] at c3 c4
  have n1 : ((2 ^ 53 : Nat) : Rat) = 9007199254740992 := by rfl
  have n2 : ((2 ^ 53 + 1 : Nat) : Rat) = 9007199254740993 := by rfl
  have n3 : ((2 ^ 53 - 1 : Nat) : Rat) = 9007199254740991 := by rfl
  rw [n1, n2] at c3
  rw [n1, n3] at c4
  generalize ((2 ^ (mag.log2 - 52) : Nat) : Rat) = a at *
  generalize ((2 ^ (52 - mag.log2) : Nat) : Rat) = b at *
  constructor
  · grind
  · grind

/-- x is the word of a positive normal number, r. -/
def Nice (x : Nat) (r : Rat) : Prop := ∃ M P, double.read x = .number false M P ∧ 2 ^ 52 ≤ M ∧ M < 2 ^ 53 ∧ r = (M : Rat) * p2 P

theorem mag_bounds (mag : Nat) (place : Int) (hm : 0 < mag) : p2 (place + mag.log2) ≤ (mag : Rat) * p2 place ∧ (mag : Rat) * p2 place < p2 (place + mag.log2 + 1) := by
  have t := p2_pos place
  have h1 := Rat.mul_le_mul_of_nonneg_right (cast_le (log2_le hm)) (Rat.le_of_lt t)
  have h2 := Rat.mul_lt_mul_of_pos_right (Rat.natCast_lt_natCast.2 (lt_log2 mag)) t
  rw [← p2_nat, ← p2_add] at h1 h2
  constructor
  · rw [Int.add_comm]; exact h1
  · rw [show place + (mag.log2 : Int) + 1 = ((mag.log2 + 1 : Nat) : Int) + place by omega]; exact h2

/-- Rounding, told by the number's size alone. -/
theorem round_nice (mag : Nat) (place : Int) (hm : 0 < mag) (hlo : p2 (-1000) ≤ (mag : Rat) * p2 place) (hhi : (mag : Rat) * p2 place ≤ p2 1000) :
    ∃ r, Nice (double.nearest false mag place) r ∧ 9007199254740992 * r ≤ 9007199254740993 * ((mag : Rat) * p2 place) ∧ 9007199254740991 * ((mag : Rat) * p2 place) ≤ 9007199254740992 * r := by
  obtain ⟨b1, b2⟩ := mag_bounds mag place hm
  have l1 : (-1000 : Int) < place + mag.log2 + 1 := p2_lt_iff (rlt hlo b2)
  have l2 : place + (mag.log2 : Int) < 1001 := by
    have : p2 1000 < p2 1001 := p2_lt (by omega)
    exact p2_lt_iff (rlt b1 (rlt hhi this))
  obtain ⟨M, P, hr, h1, h2, h3, h4⟩ := round_spec false mag place hm (by omega) (by omega)
  exact ⟨_, ⟨M, P, hr, h1, h2, rfl⟩, h3, h4⟩

theorem Nice.pos {x : Nat} {r : Rat} (h : Nice x r) : 0 < r := by
  obtain ⟨M, P, _, h1, _, rfl⟩ := h
  have : (0 : Rat) < (M : Rat) := Rat.natCast_lt_natCast.2 (show 0 < M by omega)
  exact Rat.mul_pos this (p2_pos P)

/-- r is t, but for at most its 2^52nd part. -/
def Near (r t : Rat) : Prop := 4503599627370496 * r ≤ 4503599627370497 * t ∧ 4503599627370495 * t ≤ 4503599627370496 * r

/-! ### Exact sums, products, quotients -/
theorem shl_val (m : Nat) (i base : Int) (h : base ≤ i) : ((m <<< (i - base).toNat : Nat) : Rat) * p2 base = (m : Rat) * p2 i := by
  obtain ⟨k, hk⟩ : ∃ k : Nat, i = base + k := ⟨(i - base).toNat, by omega⟩
  have e : (i - base).toNat = k := by omega
  rw [e, Nat.shiftLeft_eq, Rat.natCast_mul, hk, p2_add, p2_nat]
  grind

theorem sum_pos (m n : Nat) (i j : Int) (h : 0 < m ∨ 0 < n) :
    ∃ T base, (Datum.number false m i).sum (.number false n j) = some (.number false T base) ∧ 0 < T ∧ (T : Rat) * p2 base = (m : Rat) * p2 i + (n : Rat) * p2 j := by
  have hb1 : min i j ≤ i := by omega
  have hb2 : min i j ≤ j := by omega
  have e1 := shl_val m i _ hb1
  have e2 := shl_val n j _ hb2
  have hp : 0 < m <<< (i - min i j).toNat + n <<< (j - min i j).toNat := by
    rw [Nat.shiftLeft_eq, Nat.shiftLeft_eq]
    rcases h with h | h
    · have := Nat.mul_pos h (Nat.two_pow_pos (i - min i j).toNat); omega
    · have := Nat.mul_pos h (Nat.two_pow_pos (j - min i j).toNat); omega
  refine ⟨m <<< (i - min i j).toNat + n <<< (j - min i j).toNat, min i j, ?_, hp, ?_⟩
  · simp only [Datum.sum, signed, Bool.false_eq_true, if_false]
    rw [if_neg (by omega)]
    have : decide (((m <<< (i - min i j).toNat : Nat) : Int) + ((n <<< (j - min i j).toNat : Nat) : Int) < 0) = false := decide_eq_false (by omega)
    rw [this]
    rfl
  · rw [Rat.natCast_add, ← e1, ← e2]; grind

theorem near_of {r t : Rat} (ht : 0 ≤ t) (h1 : 9007199254740992 * r ≤ 9007199254740993 * t) (h2 : 9007199254740991 * t ≤ 9007199254740992 * r) : Near r t := by
  unfold Near; constructor <;> grind

theorem write_nice (T : Nat) (base : Int) (hT : 0 < T) (hlo : p2 (-1000) ≤ (T : Rat) * p2 base) (hhi : (T : Rat) * p2 base ≤ p2 1000) :
    ∃ r, Nice (double.write (.number false T base)) r ∧ Near r ((T : Rat) * p2 base) := by
  obtain ⟨r, hr, h1, h2⟩ := round_nice T base hT hlo hhi
  have := p2_pos (-1000)
  exact ⟨r, hr, near_of (by grind) h1 h2⟩

theorem add_nice {x y : Nat} {a b : Rat} (hx : Nice x a) (hy : Nice y b) (hlo : p2 (-1000) ≤ a + b) (hhi : a + b ≤ p2 1000) :
    ∃ z r, double.add x y = some z ∧ Nice z r ∧ Near r (a + b) := by
  obtain ⟨m, i, hrx, h1, _, rfl⟩ := hx
  obtain ⟨n, j, hry, _, _, rfl⟩ := hy
  obtain ⟨T, base, hs, hT, hv⟩ := sum_pos m n i j (.inl (by omega))
  rw [← hv] at hlo hhi ⊢
  obtain ⟨r, hr, hn⟩ := write_nice T base hT hlo hhi
  exact ⟨_, r, by rw [Format.add, hrx, hry, hs]; rfl, hr, hn⟩

theorem read_zero : double.read 0 = .number false 0 (-1074) := by decide

theorem add_zero_nice {y : Nat} {b : Rat} (hy : Nice y b) (hlo : p2 (-1000) ≤ b) (hhi : b ≤ p2 1000) :
    ∃ z r, double.add 0 y = some z ∧ Nice z r ∧ Near r b := by
  obtain ⟨n, j, hry, h1, _, rfl⟩ := hy
  obtain ⟨T, base, hs, hT, hv⟩ := sum_pos 0 n (-1074) j (.inr (by omega))
  have e : ((0 : Nat) : Rat) * p2 (-1074) + (n : Rat) * p2 j = (n : Rat) * p2 j := by
    have : ((0 : Nat) : Rat) = 0 := rfl
    rw [this]; grind
  rw [e] at hv
  rw [← hv] at hlo hhi ⊢
  obtain ⟨r, hr, hn⟩ := write_nice T base hT hlo hhi
  exact ⟨_, r, by rw [Format.add, read_zero, hry, hs]; rfl, hr, hn⟩

theorem mul_nice {x y : Nat} {a b : Rat} (hx : Nice x a) (hy : Nice y b) (hlo : p2 (-1000) ≤ a * b) (hhi : a * b ≤ p2 1000) :
    ∃ z r, double.mul x y = some z ∧ Nice z r ∧ Near r (a * b) := by
  obtain ⟨m, i, hrx, h1, _, rfl⟩ := hx
  obtain ⟨n, j, hry, h2, _, rfl⟩ := hy
  have hv : ((m * n : Nat) : Rat) * p2 (i + j) = (m : Rat) * p2 i * ((n : Rat) * p2 j) := by
    rw [Rat.natCast_mul, p2_add]; grind
  rw [← hv] at hlo hhi ⊢
  obtain ⟨r, hr, hn⟩ := write_nice (m * n) (i + j) (Nat.mul_pos (by omega) (by omega)) hlo hhi
  exact ⟨_, r, by rw [Format.mul, hrx, hry]; rfl, hr, hn⟩

theorem log2_53 {m : Nat} (h1 : 2 ^ 52 ≤ m) (h2 : m < 2 ^ 53) : m.log2 = 52 := by
  have := (Nat.log2_eq_iff (by omega)).2 ⟨h1, h2⟩
  exact this

theorem p2_55 (i : Int) : p2 i = 36028797018963968 * p2 (i - 55) := by
  have : p2 i = p2 ((55 : Nat) : Int) * p2 (i - 55) := by rw [← p2_add]; congr 1; omega
  rw [this, p2_nat]; rfl
theorem p2_q (i j : Int) : p2 (i - j - 54 - 1) * p2 j = p2 (i - 55) := by rw [← p2_add]; congr 1; omega
theorem lo_aux {q t v : Rat} (h0 : 0 < q) (h : 2 * t ≤ q) (w : 18014398509481983 * q ≤ 18014398509481984 * v) : t ≤ v := by grind
theorem hi_aux {q t v : Rat} (h0 : 0 < q) (h : q ≤ t) (w : 18014398509481984 * v ≤ 18014398509481985 * q) : v ≤ 2 * t := by grind

theorem div_nice {x y : Nat} {a b : Rat} (hx : Nice x a) (hy : Nice y b) (hlo : p2 (-999) ≤ a / b) (hhi : a / b ≤ p2 999) :
    ∃ z r, double.div x y = some z ∧ Nice z r ∧ Near r (a / b) := by
  have hbp := hy.pos
  obtain ⟨m, i, hrx, h1, h1', rfl⟩ := hx
  obtain ⟨n, j, hry, h2, h2', rfl⟩ := hy
  have hq : (Datum.number false m i).quotient 54 (.number false n j) = some (.number false (2 * (m <<< 54 / n) + (m <<< 54 % n != 0).toNat) (i - j - 54 - 1)) := by
    simp only [Datum.quotient]
    rw [if_neg (by omega), log2_53 h1 h1', log2_53 h2 h2']
    rfl
  have hdm := Nat.div_add_mod (m <<< 54) n
  have hr := Nat.mod_lt (m <<< 54) (show 0 < n by omega)
  rw [Nat.shiftLeft_eq] at *
  generalize hR : m * 2 ^ 54 % n = R at *
  generalize hF : m * 2 ^ 54 / n = F at *
  obtain ⟨S, hS⟩ : ∃ S, S = (R != 0).toNat := ⟨_, rfl⟩
  have hSn : n * S ≤ 2 * R + n ∧ 2 * R ≤ n * S + n := by
    by_cases h : R = 0
    · have : S = 0 := by rw [hS, h]; rfl
      rw [this]; omega
    · have : S = 1 := by rw [hS]; simp [h]
      rw [this]; omega
  rw [← hS] at hq
  have u1 : n * (2 * F + S) ≤ 2 * m * (2 ^ 54 + 1) := by
    have e : n * (2 * F + S) = 2 * (n * F) + n * S := by rw [Nat.mul_add, Nat.mul_left_comm]
    omega
  have u2 : 2 * m * (2 ^ 54 - 1) ≤ n * (2 * F + S) := by
    have e : n * (2 * F + S) = 2 * (n * F) + n * S := by rw [Nat.mul_add, Nat.mul_left_comm]
    omega
  have hQp : 0 < 2 * F + S := by
    rcases Nat.eq_zero_or_pos (2 * F + S) with h | h
    · rw [h] at u2; omega
    · exact h
  generalize 2 * F + S = Q at *
  have c1 := cast_le u1
  have c2 := cast_le u2
  simp only [Rat.natCast_mul] at c1 c2
  have n1 : ((2 ^ 54 + 1 : Nat) : Rat) = 18014398509481985 := by rfl
  have n2 : ((2 ^ 54 - 1 : Nat) : Rat) = 18014398509481983 := by rfl
  have n3 : ((2 : Nat) : Rat) = 2 := rfl
  rw [n1, n3] at c1
  rw [n2, n3] at c2
  -- the exact quotient, and the one that is written
  have ei := p2_55 i
  have eQ := p2_q i j
  have hpj := p2_pos j
  have hpi := p2_pos (i - 55)
  have hpk := p2_pos (i - j - 54 - 1)
  have hnp : (0 : Rat) < (n : Rat) := Rat.natCast_lt_natCast.2 (show 0 < n by omega)
  have hq0 : (m : Rat) * p2 i / ((n : Rat) * p2 j) * ((n : Rat) * p2 j) = (m : Rat) * p2 i := Rat.div_mul_cancel (fun h => by rw [h] at hbp; exact absurd hbp (by decide))
  generalize (m : Rat) * p2 i / ((n : Rat) * p2 j) = q at *
  have hqp : 0 < q := rlt2 (p2_pos (-999)) hlo
  -- 'Q * p2 k' against q, both times 'n * p2 j'
  have d1 := Rat.mul_le_mul_of_nonneg_right c1 (Rat.le_of_lt hpi)
  have d2 := Rat.mul_le_mul_of_nonneg_right c2 (Rat.le_of_lt hpi)
  have hnj : 0 < (n : Rat) * p2 j := Rat.mul_pos hnp hpj
  have w1 : 18014398509481984 * ((Q : Rat) * p2 (i - j - 54 - 1)) ≤ 18014398509481985 * q := by
    refine Rat.le_of_mul_le_mul_right ?_ hnj
    have e1 : 18014398509481984 * ((Q : Rat) * p2 (i - j - 54 - 1)) * ((n : Rat) * p2 j) = 18014398509481984 * ((n : Rat) * (Q : Rat) * p2 (i - 55)) := by rw [← eQ]; grind
    have e2 : 18014398509481985 * q * ((n : Rat) * p2 j) = 18014398509481985 * ((m : Rat) * (36028797018963968 * p2 (i - 55))) := by rw [← ei]; grind
    rw [e1, e2]; grind
  have w2 : 18014398509481983 * q ≤ 18014398509481984 * ((Q : Rat) * p2 (i - j - 54 - 1)) := by
    refine Rat.le_of_mul_le_mul_right ?_ hnj
    have e1 : 18014398509481984 * ((Q : Rat) * p2 (i - j - 54 - 1)) * ((n : Rat) * p2 j) = 18014398509481984 * ((n : Rat) * (Q : Rat) * p2 (i - 55)) := by rw [← eQ]; grind
    have e2 : 18014398509481983 * q * ((n : Rat) * p2 j) = 18014398509481983 * ((m : Rat) * (36028797018963968 * p2 (i - 55))) := by rw [← ei]; grind
    rw [e1, e2]; grind
  have b1 : p2 (-1000 + 1) = 2 * p2 (-1000) := p2_succ _
  have b2 : p2 (999 + 1) = 2 * p2 999 := p2_succ _
  have b3 := p2_pos 999
  have b4 := p2_pos (-1000)
  rw [show (-999 : Int) = -1000 + 1 from rfl, b1] at hlo
  obtain ⟨r, hr2, hn1, hn2⟩ := round_nice Q (i - j - 54 - 1) hQp (lo_aux hqp hlo w2) (by rw [show (1000 : Int) = 999 + 1 from rfl, b2]; exact hi_aux hqp hhi w1)
  clear hlo hhi b1 b2 b3 b4
  refine ⟨_, r, by rw [Format.div, hrx, hry]; show ((Datum.number false m i).quotient 54 (.number false n j)).map double.write = _; rw [hq]; rfl, hr2, ?_⟩
  unfold Near
  constructor
  · grind
  · grind

/-! ### Comparing -/
theorem shl_lt {m n : Nat} {i j : Int} (h : (m : Rat) * p2 i < (n : Rat) * p2 j) : m <<< (i - min i j).toNat < n <<< (j - min i j).toNat := by
  have e1 := shl_val m i (min i j) (by omega)
  have e2 := shl_val n j (min i j) (by omega)
  rw [← e1, ← e2] at h
  have t := p2_pos (min i j)
  rcases Nat.lt_or_ge (m <<< (i - min i j).toNat) (n <<< (j - min i j).toNat) with k | k
  · exact k
  · have := Rat.mul_le_mul_of_nonneg_right (cast_le k) (Rat.le_of_lt t)
    grind

theorem order_nice {x y : Nat} {a b : Rat} (hx : Nice x a) (hy : Nice y b) :
    (a < b → double.order x y = some .lt) ∧ (a = b → double.order x y = some .eq) ∧ (b < a → double.order x y = some .gt) := by
  obtain ⟨m, i, hrx, _, _, rfl⟩ := hx
  obtain ⟨n, j, hry, _, _, rfl⟩ := hy
  unfold Format.order
  rw [hrx, hry]
  simp only [Datum.order, signed, Bool.false_eq_true, if_false]
  refine ⟨fun h => ?_, fun h => ?_, fun h => ?_⟩
  · have := shl_lt h
    rw [Int.compare_eq_lt.2 (by omega)]
  · have e1 := shl_val m i (min i j) (by omega)
    have e2 := shl_val n j (min i j) (by omega)
    have t := p2_pos (min i j)
    have : m <<< (i - min i j).toNat = n <<< (j - min i j).toNat := by
      rcases Nat.lt_trichotomy (m <<< (i - min i j).toNat) (n <<< (j - min i j).toNat) with k | k | k
      · have := Rat.mul_lt_mul_of_pos_right (Rat.natCast_lt_natCast.2 k) t; grind
      · exact k
      · have := Rat.mul_lt_mul_of_pos_right (Rat.natCast_lt_natCast.2 k) t; grind
    rw [this, Int.compare_eq_eq.2 rfl]
  · have h' := shl_lt h
    rw [Int.min_comm] at h'
    rw [Int.compare_eq_gt.2 (by omega)]

/-! ### Not a NaN -/
def NN (x : Nat) : Prop := (double.read x).isNaN = false

theorem read_le (neg : Bool) (r : Nat) (h : r ≤ 2047 * 2 ^ 52) : (double.read (double.word neg r)).isNaN = false := by
  have hs : (double.word neg r) % 2 ^ 63 = r := by
    unfold Format.word
    rw [sign_eq]
    cases neg <;> simp only [Bool.false_eq_true, if_false, if_true] <;> omega
  unfold Format.read
  simp only [sign_eq, hs, binade_eq, infRung_eq]
  split
  · rfl
  · split
    · rfl
    · rw [if_pos (by omega)]; rfl

theorem nn_write {d : Datum} (h : d.isNaN = false) : NN (double.write d) := by
  unfold NN
  cases d with
  | number s m e =>
    show (double.read (double.nearest s m e)).isNaN = false
    unfold Format.nearest
    split
    · exact read_le s 0 (by omega)
    · exact read_le s _ (by rw [infRung_eq]; exact Nat.min_le_right _ _)
  | infinity s => exact read_le s _ (by rw [infRung_eq]; exact Nat.le_refl _)
  | nan s f => cases h

theorem order_self {x : Nat} (h : NN x) : double.order x x = some .eq := by
  unfold NN at h
  unfold Format.order
  cases hd : double.read x with
  | number s m e => simp [Datum.order]
  | infinity s => simp [Datum.order]
  | nan s f => rw [hd] at h; cases h

/-- x is the word of a number (not an infinity). -/
def Fin (x : Nat) : Prop := ∃ s m e, double.read x = .number s m e
theorem Nice.fin {x : Nat} {r : Rat} (h : Nice x r) : Fin x := by obtain ⟨M, P, h, _⟩ := h; exact ⟨_, _, _, h⟩
theorem Fin.nn {x : Nat} (h : Fin x) : NN x := by obtain ⟨s, m, e, h⟩ := h; unfold NN; rw [h]; rfl

theorem add_nn {x y : Nat} (hx : NN x) (hy : Fin y) : ∃ z, double.add x y = some z ∧ NN z := by
  obtain ⟨t, n, j, hy⟩ := hy
  unfold NN at hx
  unfold Format.add
  rw [hy]
  cases hd : double.read x with
  | number s m e => exact ⟨_, rfl, nn_write rfl⟩
  | infinity s => exact ⟨_, rfl, nn_write rfl⟩
  | nan s f => rw [hd] at hx; cases hx

theorem sub_nn {x y : Nat} (hx : Fin x) (hy : NN y) : ∃ z, double.sub x y = some z ∧ NN z := by
  obtain ⟨t, n, j, hx⟩ := hx
  unfold NN at hy
  unfold Format.sub
  rw [hx]
  cases hd : double.read y with
  | number s m e => exact ⟨_, rfl, nn_write rfl⟩
  | infinity s => exact ⟨_, rfl, nn_write rfl⟩
  | nan s f => rw [hd] at hy; cases hy

theorem sub_nn' {x y : Nat} (hx : NN x) (hy : Fin y) : ∃ z, double.sub x y = some z ∧ NN z := by
  obtain ⟨t, n, j, hy⟩ := hy
  unfold NN at hx
  unfold Format.sub
  rw [hy]
  cases hd : double.read x with
  | number s m e => exact ⟨_, rfl, nn_write rfl⟩
  | infinity s => exact ⟨_, rfl, nn_write rfl⟩
  | nan s f => rw [hd] at hx; cases hx

theorem mul_nn {x y : Nat} (hx : Fin x) (hy : Fin y) : ∃ z, double.mul x y = some z ∧ NN z := by
  obtain ⟨t, n, j, hx⟩ := hx
  obtain ⟨t', n', j', hy⟩ := hy
  exact ⟨_, by unfold Format.mul; rw [hx, hy]; rfl, nn_write rfl⟩

theorem div_nn {x y : Nat} {b : Rat} (hx : NN x) (hy : Nice y b) : ∃ z, double.div x y = some z ∧ NN z := by
  obtain ⟨n, j, hy, h1, _⟩ := hy
  unfold NN at hx
  unfold Format.div
  rw [hy]
  cases hd : double.read x with
  | number s m e =>
    refine ⟨_, ?_, nn_write (d := .number (s ^^ false) (2 * (m <<< (54 + n.log2 - m.log2) / n) + (m <<< (54 + n.log2 - m.log2) % n != 0).toNat) (e - j - ((54 + n.log2 - m.log2 : Nat) : Int) - 1)) rfl⟩
    simp only [Datum.quotient]
    rw [if_neg (by omega)]
    rfl
  | infinity s => exact ⟨_, rfl, nn_write rfl⟩
  | nan s f => rw [hd] at hx; cases hx

/-! ### Whole numbers -/
/-- The word of a whole number. -/
def fi (n : Nat) : Nat := double.write (.number false n 0)

theorem nice_int (n : Nat) (h0 : 0 < n) (h : n < 2 ^ 53) : Nice (fi n) (n : Rat) := by
  have hL : n.log2 ≤ 52 := by
    have := log2_le h0
    rcases Nat.lt_or_ge 52 n.log2 with h' | h'
    · have : 2 ^ 53 ≤ 2 ^ n.log2 := Nat.pow_le_pow_right (by omega) h'
      omega
    · exact h'
  have e2 : n.log2 - 52 = 0 := by omega
  have hk := kept_spec false n h0
  have hr := nearest_normal false n 0 h0 (by omega) (by omega)
  rw [e2, cut_zero, Nat.shiftLeft_eq] at hr
  rw [e2, cut_zero, Nat.shiftLeft_eq] at hk
  obtain ⟨M, P, h1, h2, h3, h4⟩ := read_word false ((0 : Int) + n.log2 + 1022).toNat (n * 2 ^ (52 - n.log2)) (by omega) hk.1 hk.2.1
  refine ⟨M, P, by rw [fi]; show double.read (double.nearest false n 0) = _; rw [hr]; exact h1, h2, h3, ?_⟩
  have hv : (M : Rat) * p2 P = ((n * 2 ^ (52 - n.log2) : Nat) : Rat) * p2 ((n.log2 : Int) - 52) := by
    rcases h4 with ⟨hP, hM⟩ | ⟨hP, hM⟩
    · rw [hM, show P = (n.log2 : Int) - 52 by omega]
    · rw [hM, show P = ((n.log2 : Int) - 52) + 1 by omega, p2_succ, Rat.natCast_mul]
      have e3 : ((2 : Nat) : Rat) = 2 := rfl
      rw [e3]; grind
  rw [hv, Rat.natCast_mul, ← p2_nat, Rat.mul_assoc, ← p2_add, show ((52 - n.log2 : Nat) : Int) + ((n.log2 : Int) - 52) = 0 by omega, p2_zero, Rat.mul_one]

theorem fi_zero : fi 0 = 0 := by decide +kernel
theorem fin_fi (n : Nat) (h : n < 2 ^ 53) : Fin (fi n) := by
  rcases Nat.eq_zero_or_pos n with rfl | h0
  · rw [fi_zero]; exact ⟨_, _, _, read_zero⟩
  · exact (nice_int n h0 h).fin

theorem fi_succ : ∀ n, n < 64 → double.add (fi n) 4607182418800017408 = some (fi (n + 1)) := by decide +kernel
theorem fi_one : fi 1 = 4607182418800017408 := by decide +kernel
theorem fi_mul_one : ∀ n, n < 17 → double.mul (fi n) 4607182418800017408 = some (fi n) := by decide +kernel

end Go.Proofs.Ybulkcnam.Fl
