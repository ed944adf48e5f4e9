/-
  DIFFERENCES OF DOUBLES THAT LIE CLOSE, and their absolute value.
-/
import Derived.Test.YbulkcnamOk
namespace Go.Proofs.Ybulkcnam.Fl
open Ieee

theorem word_abs (neg : Bool) (r : Nat) (h : r ≤ 2047 * 2 ^ 52) : double.word neg r % 2 ^ 63 = double.word false r := by
  unfold Format.word
  rw [sign_eq]
  cases neg <;> simp only [Bool.false_eq_true, if_false, if_true] <;> omega

theorem nearest_abs (neg : Bool) (mag : Nat) (place : Int) : double.nearest neg mag place % 2 ^ 63 = double.nearest false mag place := by
  unfold Format.nearest
  by_cases hm : mag = 0
  · rw [if_pos hm, if_pos hm]; exact word_abs neg 0 (by omega)
  · rw [if_neg hm, if_neg hm]
    exact word_abs neg _ (by rw [infRung_eq]; omega)

theorem sum_opp (m n : Nat) (i j : Int) :
    ∃ s T base, base = min i j ∧ (Datum.number false m i).sum (.number true n j) = some (.number s T base) ∧ ((m : Rat) * p2 i - (n : Rat) * p2 j = (T : Rat) * p2 base ∨ (n : Rat) * p2 j - (m : Rat) * p2 i = (T : Rat) * p2 base) := by
  have hb1 : min i j ≤ i := by omega
  have hb2 : min i j ≤ j := by omega
  have e1 := shl_val m i _ hb1
  have e2 := shl_val n j _ hb2
  obtain ⟨A, hA⟩ : ∃ A, A = m <<< (i - min i j).toNat := ⟨_, rfl⟩
  obtain ⟨B, hB⟩ : ∃ B, B = n <<< (j - min i j).toNat := ⟨_, rfl⟩
  rw [← hA] at e1
  rw [← hB] at e2
  refine ⟨if ((A : Int) + -(B : Int)) = 0 then (false && true) else decide (((A : Int) + -(B : Int)) < 0), ((A : Int) + -(B : Int)).natAbs, min i j, rfl, ?_, ?_⟩
  · rw [hA, hB]; rfl
  · rw [← e1, ← e2]
    rcases Nat.le_total B A with h | h
    · left
      have : ((A : Int) + -(B : Int)).natAbs = A - B := by omega
      rw [this]
      have e : (A : Rat) = ((A - B : Nat) : Rat) + (B : Rat) := by rw [← Rat.natCast_add]; congr 1; omega
      rw [e]; grind
    · right
      have : ((A : Int) + -(B : Int)).natAbs = B - A := by omega
      rw [this]
      have e : (B : Rat) = ((B - A : Nat) : Rat) + (A : Rat) := by rw [← Rat.natCast_add]; congr 1; omega
      rw [e]; grind

/-- Two numbers of moderate size, less than B apart. -/
theorem sub_small {x y : Nat} {a b B : Rat} (hx : Nice x a) (hy : Nice y b) (la : 1 / 1000000 ≤ a) (lb : 1 / 1000000 ≤ b) (h1 : a - b ≤ B) (h2 : b - a ≤ B) (hB : B ≤ 1) :
    ∃ z, double.sub x y = some z ∧ (z % 2 ^ 63 = 0 ∨ ∃ r, Nice (z % 2 ^ 63) r ∧ r ≤ 2 * B) := by
  obtain ⟨m, i, hrx, hm1, hm2, rfl⟩ := hx
  obtain ⟨n, j, hry, hn1, hn2, rfl⟩ := hy
  obtain ⟨s, T, base, hbase, hs, hv⟩ := sum_opp m n i j
  have hsub : double.sub x y = some (double.nearest s T base) := by
    unfold Format.sub
    rw [hrx, hry]
    show Option.map _ ((Datum.number false m i).sum (.number true n j)) = _
    rw [hs]; rfl
  refine ⟨_, hsub, ?_⟩
  rw [nearest_abs]
  by_cases hT : T = 0
  · left; unfold Format.nearest; rw [if_pos hT]; rfl
  · right
    have low : ∀ (k : Nat) (e : Int), k < 2 ^ 53 → 1 / 1000000 ≤ (k : Rat) * p2 e → -1000 ≤ e := by
      intro k e hk hl
      have hc : (k : Rat) ≤ ((2 ^ 53 : Nat) : Rat) := cast_le (by omega)
      have hmul := Rat.mul_le_mul_of_nonneg_right hc (Rat.le_of_lt (p2_pos e))
      rw [← p2_nat, ← p2_add] at hmul
      have h20 : p2 (-20) ≤ 1 / 1000000 := by
        have h2 : p2 (-20) * p2 ((20 : Nat) : Int) = 1 := by rw [← p2_add, show (-20 : Int) + ((20 : Nat) : Int) = 0 from rfl, p2_zero]
        rw [p2_nat] at h2
        have e : ((2 ^ 20 : Nat) : Rat) = 1048576 := rfl
        rw [e] at h2
        grind
      have hle : p2 (-21) < p2 (((53 : Nat) : Int) + e) := by
        have : p2 (-21) < p2 (-20) := p2_lt (by omega)
        exact rlt2 this (Rat.le_trans h20 (Rat.le_trans hl hmul))
      have := p2_lt_iff hle
      omega
    have li := low m i hm2 la
    have lj := low n j hn2 lb
    have hT1 : (1 : Rat) ≤ (T : Rat) := cast_le (show 1 ≤ T by omega)
    have hTb : p2 base ≤ (T : Rat) * p2 base := by
      have := Rat.mul_le_mul_of_nonneg_right hT1 (Rat.le_of_lt (p2_pos base))
      grind
    have hTB : (T : Rat) * p2 base ≤ B := by
      rcases hv with h | h
      · rw [← h]; exact h1
      · rw [← h]; exact h2
    obtain ⟨r, hr, hn⟩ := write_nice T base (by omega) (Rat.le_trans (p2_le (by omega)) hTb) (Rat.le_trans hTB (Rat.le_trans hB (p2_one_le (by omega))))
    refine ⟨r, hr, ?_⟩
    have hp := p2_pos base
    unfold Near at hn
    generalize (T : Rat) * p2 base = q at *
    grind

theorem p2_neg (k : Nat) (d : Rat) (hd : ((2 ^ k : Nat) : Rat) = d) (e : Int) (he : e = -(k : Int)) : p2 e * d = 1 := by
  rw [← hd, ← p2_nat, ← p2_add, he, show -(k : Int) + (k : Int) = 0 by omega, p2_zero]

/-- 1e-12 and 1e-9. -/
theorem c12 : ∃ c, Nice 4427486594234968593 c ∧ 1 / 1099511627776 ≤ c := by
  refine ⟨_, ⟨4951760157141521, -92, by decide +kernel, by decide, by decide, rfl⟩, ?_⟩
  have := p2_neg 92 4951760157141521099596496896 rfl (-92) rfl
  have e : ((4951760157141521 : Nat) : Rat) = 4951760157141521 := rfl
  rw [e]
  generalize p2 (-92) = u at *
  grind
theorem c9 : ∃ c, Nice 4472406533629990549 c ∧ 1 / 1073741824 ≤ c := by
  refine ⟨_, ⟨4835703278458517, -82, by decide +kernel, by decide, by decide, rfl⟩, ?_⟩
  have := p2_neg 82 4835703278458516698824704 rfl (-82) rfl
  have e : ((4835703278458517 : Nat) : Rat) = 4835703278458517 := rfl
  rw [e]
  generalize p2 (-82) = u at *
  grind

theorem abs_le {z c : Nat} {rc B : Rat} (hc : Nice c rc) (hz : z % 2 ^ 63 = 0 ∨ ∃ r, Nice (z % 2 ^ 63) r ∧ r ≤ 2 * B) (hB : 2 * B < rc) : (double.order (z % 2 ^ 63) c == some .gt) = false := by
  have hcp := hc.pos
  rcases hz with h | ⟨r, hr, hl⟩
  · rw [h]
    obtain ⟨M, P, hrd, h1, _, _⟩ := hc
    unfold Format.order
    rw [read_zero, hrd]
    have hlt : (0 : Int) < ((M <<< (P - min (-1074) P).toNat : Nat) : Int) := by
      have : 0 < M <<< (P - min (-1074) P).toNat := by rw [Nat.shiftLeft_eq]; exact Nat.mul_pos (by omega) (Nat.two_pow_pos _)
      omega
    have e : (Datum.number false 0 (-1074)).order (.number false M P) = some (compare (((0 <<< (-1074 - min (-1074) P).toNat : Nat) : Int)) ((M <<< (P - min (-1074) P).toNat : Nat) : Int)) := rfl
    rw [e, Nat.zero_shiftLeft]
    generalize ((M <<< (P - min (-1074) P).toNat : Nat) : Int) = q at *
    have : compare ((0 : Nat) : Int) q = .lt := by rw [Int.compare_eq_lt]; exact hlt
    rw [this]; rfl
  · rw [(order_nice hr hc).1 (by grind)]; rfl

end Go.Proofs.Ybulkcnam.Fl
