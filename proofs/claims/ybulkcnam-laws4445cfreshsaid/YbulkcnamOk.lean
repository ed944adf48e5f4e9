/-
  THAT THE REAL NUMBERS' ARITHMETIC OF setWeights AND pick IS NEVER INVALID, and how large the shares are.
-/
import Derived.Test.YbulkcnamBuild
namespace Go.Proofs.Ybulkcnam
open Fl

/-- Positive weights, none more than 17 times another. -/
def Wts (ws : List Nat) : Prop := ws ≠ [] ∧ ws.length ≤ 301 ∧ (∀ x ∈ ws, NiceW x) ∧ ∀ x ∈ ws, ∀ y ∈ ws, ∀ a b, Nice x a → Nice y b → a ≤ 17 * b

theorem fmax_mem (x y : Nat) : fmax x y = x ∨ fmax x y = y := by unfold fmax; split <;> simp
theorem foldl_fmax_mem : ∀ (l : List Nat) (x : Nat), l.foldl fmax x = x ∨ l.foldl fmax x ∈ l
  | [], _ => .inl rfl
  | y :: l, x => by
    rw [List.foldl_cons]
    rcases foldl_fmax_mem l (fmax x y) with h | h
    · rw [h]
      rcases fmax_mem x y with h2 | h2
      · exact .inl h2
      · rw [h2]; exact .inr List.mem_cons_self
    · exact .inr (List.mem_cons_of_mem _ h)
theorem maxL_mem {ws : List Nat} (h : ws ≠ []) : maxL ws ∈ ws := by
  cases ws with
  | nil => exact absurd rfl h
  | cons x xs =>
    rcases foldl_fmax_mem xs x with h | h
    · show xs.foldl fmax x ∈ _; rw [h]; exact List.mem_cons_self
    · exact List.mem_cons_of_mem _ h

theorem fmax_ge {x y : Nat} {a b m : Rat} (hx : Nice x a) (hy : Nice y b) (hm : Nice (fmax x y) m) : a ≤ m ∧ b ≤ m := by
  have ho := order_nice hx hy
  have uniq : ∀ {z : Nat} {p q : Rat}, Nice z p → Nice z q → p = q := by
    rintro z p q ⟨M, P, h1, _, _, rfl⟩ ⟨M', P', h1', _, _, rfl⟩
    rw [h1] at h1'
    simp at h1'
    rw [h1'.1, h1'.2]
  unfold fmax at hm
  by_cases h : a < b
  · rw [if_pos (ho.1 h)] at hm
    have := uniq hy hm
    grind
  · have hne : ¬ Ieee.double.order x y = some .lt := by
      by_cases h2 : a = b
      · rw [ho.2.1 h2]; decide
      · rw [ho.2.2 (by grind)]; decide
    rw [if_neg hne] at hm
    have := uniq hx hm
    grind
theorem nice_uniq {z : Nat} {p q : Rat} (h : Nice z p) (h' : Nice z q) : p = q := by
  obtain ⟨M, P, h1, _, _, rfl⟩ := h
  obtain ⟨M', P', h1', _, _, rfl⟩ := h'
  rw [h1] at h1'
  simp at h1'
  rw [h1'.1, h1'.2]
theorem foldl_fmax_ge : ∀ (l : List Nat) (x : Nat), NiceW x → (∀ y ∈ l, NiceW y) → ∀ m, Nice (l.foldl fmax x) m → (∀ a, Nice x a → a ≤ m) ∧ ∀ y ∈ l, ∀ b, Nice y b → b ≤ m
  | [], x, _, _, m, hm => ⟨fun a ha => by rw [nice_uniq ha hm]; grind, fun _ h => by cases h⟩
  | y :: l, x, hx, hl, m, hm => by
    obtain ⟨ax, hax⟩ := hx
    obtain ⟨ay, hay⟩ := hl y List.mem_cons_self
    have hf : NiceW (fmax x y) := fmax_nice ⟨ax, hax⟩ ⟨ay, hay⟩
    obtain ⟨af, haf⟩ := hf
    obtain ⟨i1, i2⟩ := foldl_fmax_ge l (fmax x y) ⟨af, haf⟩ (fun z hz => hl z (List.mem_cons_of_mem _ hz)) m hm
    have g := fmax_ge hax hay haf
    have j := i1 af haf
    refine ⟨fun a ha => by rw [nice_uniq ha hax]; grind, ?_⟩
    intro z hz b hb
    rcases List.mem_cons.1 hz with rfl | hz
    · rw [nice_uniq hb hay]; grind
    · exact i2 z hz b hb
theorem maxL_ge {ws : List Nat} (hn : ∀ x ∈ ws, NiceW x) (h : ws ≠ []) {m : Rat} (hm : Nice (maxL ws) m) : ∀ y ∈ ws, ∀ b, Nice y b → b ≤ m := by
  cases ws with
  | nil => exact absurd rfl h
  | cons x xs =>
    obtain ⟨i1, i2⟩ := foldl_fmax_ge xs x (hn x List.mem_cons_self) (fun z hz => hn z (List.mem_cons_of_mem _ hz)) m hm
    intro y hy b hb
    rcases List.mem_cons.1 hy with rfl | hy
    · exact i1 b hb
    · exact i2 y hy b hb

theorem p2_m1000 : p2 (-1000) ≤ 1 / 1000000 := by
  have h1 : p2 (-1000) ≤ p2 (-20) := p2_le (by omega)
  have h2 : p2 (-20) * p2 ((20 : Nat) : Int) = 1 := by rw [← p2_add, show (-20 : Int) + ((20 : Nat) : Int) = 0 from rfl, p2_zero]
  rw [p2_nat] at h2
  have e : ((2 ^ 20 : Nat) : Rat) = 1048576 := rfl
  rw [e] at h2
  grind
theorem p2_999 : (1000000 : Rat) ≤ p2 999 := by
  have h1 : p2 ((20 : Nat) : Int) ≤ p2 999 := p2_le (by decide)
  rw [p2_nat] at h1
  have e : ((2 ^ 20 : Nat) : Rat) = 1048576 := rfl
  rw [e] at h1
  grind
theorem p2_1000 : (1000000 : Rat) ≤ p2 1000 := by have := p2_999; have := p2_le (show (999 : Int) ≤ 1000 by omega); grind
theorem p2_m999 : p2 (-999) ≤ 1 / 1000000 := by
  have h1 : p2 (-999) ≤ p2 (-20) := p2_le (by omega)
  have h2 : p2 (-20) * p2 ((20 : Nat) : Int) = 1 := by rw [← p2_add, show (-20 : Int) + ((20 : Nat) : Int) = 0 from rfl, p2_zero]
  rw [p2_nat] at h2
  have e : ((2 ^ 20 : Nat) : Rat) = 1048576 := rfl
  rw [e] at h2
  grind

/-- Division of numbers of moderate ratio. -/
theorem div_mod {x y : Nat} {a b : Rat} (hx : Nice x a) (hy : Nice y b) (lo : 1 / 1000000 ≤ a / b) (hi : a / b ≤ 1000000) : ∃ r, Ieee.double.div x y = some (fdiv x y) ∧ Nice (fdiv x y) r ∧ Near r (a / b) := by
  have l1 := p2_m999
  have l2 := p2_999
  obtain ⟨z, r, h1, h2, h3⟩ := div_nice hx hy (Rat.le_trans l1 lo) (Rat.le_trans hi l2)
  have e : fdiv x y = z := by unfold fdiv; rw [h1]; rfl
  exact ⟨r, by rw [e]; exact h1, by rw [e]; exact h2, h3⟩
theorem add_mod {x y : Nat} {a b : Rat} (hx : Nice x a) (hy : Nice y b) (lo : 1 / 1000000 ≤ a + b) (hi : a + b ≤ 1000000) : ∃ r, Ieee.double.add x y = some (fadd x y) ∧ Nice (fadd x y) r ∧ Near r (a + b) := by
  have l1 := p2_m1000
  have l2 := p2_1000
  obtain ⟨z, r, h1, h2, h3⟩ := add_nice hx hy (Rat.le_trans l1 lo) (Rat.le_trans hi l2)
  have e : fadd x y = z := by unfold fadd; rw [h1]; rfl
  exact ⟨r, by rw [e]; exact h1, by rw [e]; exact h2, h3⟩
theorem add0_mod {y : Nat} {b : Rat} (hy : Nice y b) (lo : 1 / 1000000 ≤ b) (hi : b ≤ 1000000) : ∃ r, Ieee.double.add 0 y = some (fadd 0 y) ∧ Nice (fadd 0 y) r ∧ Near r b := by
  have l1 := p2_m1000
  have l2 := p2_1000
  obtain ⟨z, r, h1, h2, h3⟩ := add_zero_nice hy (Rat.le_trans l1 lo) (Rat.le_trans hi l2)
  have e : fadd 0 y = z := by unfold fadd; rw [h1]; rfl
  exact ⟨r, by rw [e]; exact h1, by rw [e]; exact h2, h3⟩

/-- A weight against the largest. -/
theorem quo_ok {ws : List Nat} (h : Wts ws) {x : Nat} (hx : x ∈ ws) : ∃ a m r, Nice x a ∧ Nice (maxL ws) m ∧ a ≤ m ∧ m ≤ 17 * a ∧ 0 < a ∧ Ieee.double.div x (maxL ws) = some (fdiv x (maxL ws)) ∧ Nice (fdiv x (maxL ws)) r ∧ Near r (a / m) ∧ 1 / 18 ≤ r ∧ r ≤ 1001 / 1000 := by
  obtain ⟨a, ha⟩ := h.2.2.1 x hx
  obtain ⟨m, hm⟩ := h.2.2.1 _ (maxL_mem h.1)
  have h1 := maxL_ge h.2.2.1 h.1 hm x hx a ha
  have h2 := h.2.2.2 _ (maxL_mem h.1) x hx m a hm ha
  have pa := ha.pos
  have pm := hm.pos
  have e : a / m * m = a := Rat.div_mul_cancel (by grind)
  have b1 : a / m ≤ 1 := by
    refine Rat.le_of_mul_le_mul_right (c := m) ?_ pm
    rw [e]; grind
  have b2 : 1 / 17 ≤ a / m := by
    refine Rat.le_of_mul_le_mul_right (c := m) ?_ pm
    rw [e]; grind
  obtain ⟨r, k1, k2, k3⟩ := div_mod ha hm (by grind) (by grind)
  refine ⟨a, m, r, ha, hm, h1, h2, pa, k1, k2, k3, ?_, ?_⟩
  · unfold Near at k3; generalize a / m = q at *; grind
  · unfold Near at k3; generalize a / m = q at *; grind

theorem totK_succ (ws : List Nat) (m k : Nat) (h : k < ws.length) : totK ws m (k + 1) = fadd (totK ws m k) (fdiv (ws.getD k 0) m) := by
  unfold totK
  rw [List.take_succ_eq_append_getElem h, List.map_append, List.foldl_append]
  simp [List.getD, h]

/-- The running total. -/
theorem tot_ok {ws : List Nat} (h : Wts ws) : ∀ k, k < ws.length → ∃ t, Ieee.double.add (totK ws (maxL ws) k) (fdiv (ws.getD k 0) (maxL ws)) = some (totK ws (maxL ws) (k + 1)) ∧ Nice (totK ws (maxL ws) (k + 1)) t ∧ 1 / 20 ≤ t ∧ t ≤ 2 * ((k : Rat) + 1) := by
  intro k
  induction k with
  | zero =>
    intro hk
    obtain ⟨a, m, r, _, _, _, _, _, _, hr, _, l1, l2⟩ := quo_ok h (getD_memN hk)
    rw [totK_succ _ _ _ hk]
    have e : totK ws (maxL ws) 0 = 0 := by simp [totK]
    rw [e]
    obtain ⟨t, k1, k2, k3⟩ := add0_mod hr (by grind) (by grind)
    refine ⟨t, k1, k2, ?_, ?_⟩
    · unfold Near at k3; grind
    · unfold Near at k3
      have : ((0 : Nat) : Rat) = 0 := rfl
      rw [this]; grind
  | succ k ih =>
    intro hk
    obtain ⟨t, _, hn, t1, t2⟩ := ih (by omega)
    obtain ⟨a, m, r, _, _, _, _, _, _, hr, _, l1, l2⟩ := quo_ok h (getD_memN hk)
    have hk3 : ((k : Nat) : Rat) ≤ 301 := by
      have := cast_le (show k ≤ 301 by have := h.2.1; omega)
      exact this
    obtain ⟨t', k1, k2, k3⟩ := add_mod hn hr (by grind) (by grind)
    rw [totK_succ _ _ _ hk]
    refine ⟨t', k1, k2, ?_, ?_⟩
    · unfold Near at k3; grind
    · unfold Near at k3
      have : ((k + 1 : Nat) : Rat) = (k : Rat) + 1 := by rw [Rat.natCast_add]; rfl
      rw [this]; grind

theorem total_ok {ws : List Nat} (h : Wts ws) : ∃ t, Nice (totL ws) t ∧ 1 / 20 ≤ t ∧ t ≤ 602 := by
  obtain ⟨n, hn⟩ : ∃ n, ws.length = n + 1 := ⟨ws.length - 1, by have := List.length_pos_iff.2 h.1; omega⟩
  obtain ⟨t, _, h1, h2, h3⟩ := tot_ok h n (by omega)
  refine ⟨t, by unfold totL; rw [hn]; exact h1, h2, ?_⟩
  have : ((n : Nat) : Rat) ≤ 300 := cast_le (show n ≤ 300 by have := h.2.1; omega)
  grind

theorem shr_ok {ws : List Nat} (h : Wts ws) {x : Nat} (hx : x ∈ ws) : ∃ q t s, Nice (fdiv x (maxL ws)) q ∧ Nice (totL ws) t ∧ Ieee.double.div (fdiv x (maxL ws)) (totL ws) = some (fdiv (fdiv x (maxL ws)) (totL ws)) ∧ Nice (fdiv (fdiv x (maxL ws)) (totL ws)) s ∧ Near s (q / t) ∧ 1 / 20000 ≤ s ∧ s ≤ 25 := by
  obtain ⟨a, m, q, _, _, _, _, _, _, hq, _, l1, l2⟩ := quo_ok h hx
  obtain ⟨t, ht, t1, t2⟩ := total_ok h
  have pt := ht.pos
  have e : q / t * t = q := Rat.div_mul_cancel (by grind)
  have b1 : q / t ≤ 21 := by
    refine Rat.le_of_mul_le_mul_right (c := t) ?_ pt
    rw [e]; grind
  have b2 : 1 / 11000 ≤ q / t := by
    refine Rat.le_of_mul_le_mul_right (c := t) ?_ pt
    rw [e]; grind
  obtain ⟨s, k1, k2, k3⟩ := div_mod hq ht (by grind) (by grind)
  refine ⟨q, t, s, hq, ht, k1, k2, k3, ?_, ?_⟩
  · unfold Near at k3; generalize q / t = z at *; grind
  · unfold Near at k3; generalize q / t = z at *; grind

theorem shrL_nice {ws : List Nat} (h : Wts ws) {i : Nat} (hi : i < ws.length) : ∃ s, Nice ((shrL ws).getD i 0) s := by
  obtain ⟨_, _, s, _, _, _, hs, _⟩ := shr_ok h (getD_memN hi)
  refine ⟨s, ?_⟩
  have : (shrL ws).getD i 0 = fdiv (fdiv (ws.getD i 0) (maxL ws)) (totL ws) := by simp [shrL, List.getD, hi]
  rw [this]; exact hs

theorem slack_ok {n : Nat} (h1 : n ≤ 301) : Fin (slackOf n) ∧ (1 < n → Ieee.double.div 4607182418800017408 (fi (2 * n - 2)) = some (slackOf n)) := by
  by_cases h : 1 < n
  · have ho : Nice 4607182418800017408 ((1 : Nat) : Rat) := by rw [← fi_one]; exact nice_int 1 (by omega) (by decide)
    have hf := nice_int (2 * n - 2) (by omega) (by omega)
    have l1 : (2 : Rat) ≤ ((2 * n - 2 : Nat) : Rat) := cast_le (show 2 ≤ 2 * n - 2 by omega)
    have l2 : ((2 * n - 2 : Nat) : Rat) ≤ 600 := cast_le (show 2 * n - 2 ≤ 600 by omega)
    have pf := hf.pos
    have e1 : ((1 : Nat) : Rat) = 1 := rfl
    rw [e1] at ho
    have e : (1 : Rat) / ((2 * n - 2 : Nat) : Rat) * ((2 * n - 2 : Nat) : Rat) = 1 := Rat.div_mul_cancel (by grind)
    generalize ((2 * n - 2 : Nat) : Rat) = d at *
    have b1 : 1 / d ≤ 1 := by
      refine Rat.le_of_mul_le_mul_right (c := d) ?_ pf
      rw [e]; grind
    have b2 : 1 / 1000 ≤ 1 / d := by
      refine Rat.le_of_mul_le_mul_right (c := d) ?_ pf
      rw [e]; grind
    obtain ⟨r, k1, k2, _⟩ := div_mod ho hf (by grind) (by grind)
    have es : slackOf n = fdiv 4607182418800017408 (fi (2 * n - 2)) := by unfold slackOf; rw [if_pos h]
    rw [es]
    exact ⟨k2.fin, fun _ => k1⟩
  · have es : slackOf n = 0 := by unfold slackOf; rw [if_neg h]
    rw [es]
    exact ⟨⟨_, _, _, read_zero⟩, fun h' => absurd h' h⟩

/-- What was picked so far, and the shares in force: numbers. -/
theorem setOk_of {ws sh pk : List Nat} {picks : Nat} (h : Wts ws) (hsh : ∀ i, i < sh.length → Fl.Fin (sh.getD i 0)) (hpk : ∀ i, i < sh.length → Fl.Fin (pk.getD i 0)) (hp : Fl.Fin picks) : SetOk ws sh pk picks := by
  have hm : ∀ i, i < sh.length → Ieee.double.mul picks (sh.getD i 0) = some (fmul picks (sh.getD i 0)) ∧ NN (fmul picks (sh.getD i 0)) := by
    intro i hi
    obtain ⟨z, h1, h2⟩ := mul_nn hp (hsh i hi)
    have e : fmul picks (sh.getD i 0) = z := by unfold fmul; rw [h1]; rfl
    rw [e]; exact ⟨h1, h2⟩
  have hs : ∀ i, i < sh.length → Ieee.double.sub (pk.getD i 0) (fmul picks (sh.getD i 0)) = some (fsub (pk.getD i 0) (fmul picks (sh.getD i 0))) ∧ NN (fsub (pk.getD i 0) (fmul picks (sh.getD i 0))) := by
    intro i hi
    obtain ⟨z, h1, h2⟩ := sub_nn (hpk i hi) (hm i hi).2
    have e : fsub (pk.getD i 0) (fmul picks (sh.getD i 0)) = z := by unfold fsub; rw [h1]; rfl
    rw [e]; exact ⟨h1, h2⟩
  have hl : ∀ i, i < ws.length → NN ((leadL sh pk picks ws.length).getD i 0) := by
    intro i hi
    have e : (leadL sh pk picks ws.length).getD i 0 = if i < sh.length then fsub (pk.getD i 0) (fmul picks (sh.getD i 0)) else 0 := by simp [leadL, leadK, List.getD, hi]
    rw [e]
    split
    · rename_i h; exact (hs i h).2
    · exact Fl.Fin.nn ⟨_, _, _, read_zero⟩
  have hsl := slack_ok h.2.1
  have ha : ∀ i, i < ws.length → Ieee.double.add ((leadL sh pk picks ws.length).getD i 0) (slackOf ws.length) = some (fadd ((leadL sh pk picks ws.length).getD i 0) (slackOf ws.length)) ∧ NN (fadd ((leadL sh pk picks ws.length).getD i 0) (slackOf ws.length)) := by
    intro i hi
    obtain ⟨z, h1, h2⟩ := add_nn (hl i hi) hsl.1
    have e : fadd ((leadL sh pk picks ws.length).getD i 0) (slackOf ws.length) = z := by unfold fadd; rw [h1]; rfl
    rw [e]; exact ⟨h1, h2⟩
  refine ⟨h.2.2.1, hsl.2, fun i hi => (hm i hi).1, fun i hi => (hs i hi).1, fun x hx => ?_, fun k hk => ?_, fun x hx => ?_, fun i hi => (ha i hi).1, fun i hi => ?_⟩
  · obtain ⟨_, _, _, _, _, _, _, _, h1, _⟩ := quo_ok h hx; exact h1
  · obtain ⟨_, h1, _⟩ := tot_ok h k hk; exact h1
  · obtain ⟨_, _, _, _, _, h1, _⟩ := shr_ok h hx; exact h1
  · obtain ⟨s, hs⟩ := shrL_nice h hi
    obtain ⟨z, h1, _⟩ := div_nn (ha i hi).2 hs
    have e : keyAt (leadL sh pk picks ws.length) (shrL ws) (slackOf ws.length) i = z := by unfold keyAt fdiv; rw [h1]; rfl
    rw [e]; exact h1

theorem fadd_fi {c : Nat} (h : c < 64) : fadd (fi c) 4607182418800017408 = fi (c + 1) := by unfold fadd; rw [fi_succ c h, Option.getD_some]

/-- A pick under shares that are positive, at counts below 64. -/
theorem pickOk_of {sh pk : List Nat} {k slack : Nat} (hsh : ∀ i, i < sh.length → ∃ s, Nice (sh.getD i 0) s) (hpk : ∀ i, i < sh.length → ∃ c : Nat, c < 64 ∧ pk.getD i 0 = fi c) (hk : k < 64) (hs : Fl.Fin slack) : PickOk sh pk (fi k) slack := by
  have hinc : ∀ i, i < sh.length → Ieee.double.add (pk.getD i 0) 4607182418800017408 = some (fadd (pk.getD i 0) 4607182418800017408) ∧ Fl.Fin (fadd (pk.getD i 0) 4607182418800017408) := by
    intro i hi
    obtain ⟨c, hc, e⟩ := hpk i hi
    rw [e, fadd_fi hc]
    exact ⟨fi_succ c hc, fin_fi _ (by omega)⟩
  have hsub : ∀ i, i < sh.length → Ieee.double.sub (fadd (pk.getD i 0) 4607182418800017408) slack = some (fsub (fadd (pk.getD i 0) 4607182418800017408) slack) ∧ NN (fsub (fadd (pk.getD i 0) 4607182418800017408) slack) := by
    intro i hi
    obtain ⟨z, h1, h2⟩ := sub_nn (hinc i hi).2 hs.nn
    have e : fsub (fadd (pk.getD i 0) 4607182418800017408) slack = z := by unfold fsub; rw [h1]; rfl
    rw [e]; exact ⟨h1, h2⟩
  have hadd : ∀ i, i < sh.length → Ieee.double.add (fadd (pk.getD i 0) 4607182418800017408) slack = some (fadd (fadd (pk.getD i 0) 4607182418800017408) slack) ∧ NN (fadd (fadd (pk.getD i 0) 4607182418800017408) slack) := by
    intro i hi
    obtain ⟨z, h1, h2⟩ := add_nn (hinc i hi).2.nn hs
    have e : fadd (fadd (pk.getD i 0) 4607182418800017408) slack = z := by unfold fadd at h1 ⊢; rw [h1]; rfl
    rw [e]; exact ⟨h1, h2⟩
  refine ⟨by rw [fadd_fi hk]; exact fi_succ k hk, fun i hi => (hinc i hi).1, fun i hi => (hsub i hi).1, fun i hi => ?_, fun i hi => (hadd i hi).1, fun i hi => ?_⟩
  · obtain ⟨s, hs⟩ := hsh i hi
    obtain ⟨z, h1, _⟩ := div_nn (hsub i hi).2 hs
    have e : fdiv (fsub (fadd (pk.getD i 0) 4607182418800017408) slack) (sh.getD i 0) = z := by unfold fdiv; rw [h1]; rfl
    rw [e]; exact h1
  · obtain ⟨s, hs⟩ := hsh i hi
    obtain ⟨z, h1, _⟩ := div_nn (hadd i hi).2 hs
    have e : fdiv (fadd (fadd (pk.getD i 0) 4607182418800017408) slack) (sh.getD i 0) = z := by unfold fdiv; rw [h1]; rfl
    rw [e]; exact h1

/-- Whole weights from 1 to 16. -/
theorem wts_fi {vs : List Nat} (h0 : vs ≠ []) (hl : vs.length ≤ 301) (hv : ∀ v ∈ vs, 1 ≤ v ∧ v ≤ 16) : Wts (vs.map fi) := by
  have key : ∀ x ∈ vs.map fi, ∃ v : Nat, 1 ≤ v ∧ v ≤ 16 ∧ Nice x (v : Rat) := by
    intro x hx
    obtain ⟨v, hm, rfl⟩ := List.mem_map.1 hx
    have := hv v hm
    exact ⟨v, this.1, this.2, nice_int v (by omega) (by omega)⟩
  refine ⟨by simpa using h0, by simpa using hl, fun x hx => ?_, fun x hx y hy a b ha hb => ?_⟩
  · obtain ⟨v, _, _, h⟩ := key x hx; exact ⟨_, h⟩
  · obtain ⟨v, v1, v2, hvx⟩ := key x hx
    obtain ⟨u, u1, u2, huy⟩ := key y hy
    rw [nice_uniq ha hvx, nice_uniq hb huy]
    have c1 : ((v : Nat) : Rat) ≤ 16 := cast_le v2
    have c2 : (1 : Rat) ≤ ((u : Nat) : Rat) := cast_le u1
    grind

end Go.Proofs.Ybulkcnam
