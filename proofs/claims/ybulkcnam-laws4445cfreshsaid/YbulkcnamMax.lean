/-
  THE WALK over slices.Max[[]float64, float64], at positive normal numbers.
-/
import Derived.Test.YbulkcnamOrd
namespace Go.Proofs.Ybulkcnam
open Go.RowKit

def NiceW (x : Nat) : Prop := ∃ r, Fl.Nice x r
def fmax (x y : Nat) : Nat := if Ieee.double.order x y = some .lt then y else x
def maxL : List Nat → Nat
  | [] => 0
  | x :: xs => xs.foldl fmax x

theorem fmax_nice {x y : Nat} (hx : NiceW x) (hy : NiceW y) : NiceW (fmax x y) := by unfold fmax; split <;> assumption

theorem run_fmax {P : Program} (w : World) (ts : Array TypeId) (t : TypeId) {x y : Nat} (hx : NiceW x) (hy : NiceW y) :
    (Builtin.max_ ts t #[.float .f64 x, .float .f64 y]).run P w = .ok (.float .f64 (fmax x y)) w := by
  obtain ⟨a, ha⟩ := hx
  obtain ⟨b, hb⟩ := hy
  have ho := Fl.order_nice ha hb
  obtain ⟨M, Pl, hr, -⟩ := ha
  have hneg : (FloatKind.f64.decode x).neg = false := by show (Ieee.double.read x).neg = false; rw [hr]; rfl
  have hcase : a < b ∨ a = b ∨ b < a := by grind
  rcases hcase with h | h | h
  · have e : FloatKind.f64.format.order x y = some .lt := ho.1 h
    have e2 : fmax x y = y := by unfold fmax; rw [if_pos (ho.1 h)]
    simp [Builtin.max_, Builtin.max2, e, e2]
  · have e : FloatKind.f64.format.order x y = some .eq := ho.2.1 h
    have e2 : fmax x y = x := by unfold fmax; rw [if_neg (by rw [ho.2.1 h]; decide)]
    simp [Builtin.max_, Builtin.max2, e, e2, hneg]
  · have e : FloatKind.f64.format.order x y = some .gt := ho.2.2 h
    have e2 : fmax x y = x := by unfold fmax; rw [if_neg (by rw [ho.2.2 h]; decide)]
    simp [Builtin.max_, Builtin.max2, e, e2]

theorem maxL_take (ws : List Nat) (k : Nat) (h0 : 0 < k) (h : k < ws.length) : maxL (ws.take (k + 1)) = fmax (maxL (ws.take k)) (ws.getD k 0) := by
  cases ws with
  | nil => simp at h
  | cons x xs =>
    obtain ⟨j, rfl⟩ : ∃ j, k = j + 1 := ⟨k - 1, by omega⟩
    have hj : j < xs.length := by simpa using h
    rw [List.take_succ_cons, List.take_succ_cons]
    simp only [maxL]
    rw [List.take_succ_eq_append_getElem hj, List.foldl_append]
    simp [List.getD, hj]

theorem max_one {ws : List Nat} (h : 0 < ws.length) : maxL (ws.take 1) = ws.getD 0 0 := by
  cases ws with
  | nil => simp at h
  | cons x xs => simp [maxL]
theorem getD_memN {ws : List Nat} {k : Nat} (h : k < ws.length) : ws.getD k 0 ∈ ws := by simp [List.getD, h]

set_option maxHeartbeats 1000000 in
set_option maxRecDepth 10000 in
theorem max_any (g n cap : Nat) (ws : List Nat) (w : World) (hn : Hid (ws.length = n)) (h0 : 0 < n) (h1 : n ≤ 1000) (hw : Hid (∀ x ∈ ws, NiceW x)) (hc : Hid (∀ j, j < n → w.cell? ⟨g, j, none⟩ = some (.float .f64 (ws.getD j 0)))) :
    Calls Yba.prog 12 #[.slice (some ⟨g, 0, none⟩) n cap] w fun e w' => e = .returned (.float .f64 (maxL ws)) ∧ w' = w := by
  have hc0 : w.cell? ⟨g, 0, none⟩ = some (.float .f64 (ws.getD 0 0)) := hc.out 0 h0
  obtain ⟨X, hX⟩ : ∃ X, X = ws.getD 0 0 := ⟨_, rfl⟩
  rw [← hX] at hc0
  have HX := Lib.hid hX
  clear hX
  go_enter Yba.func12, Yba.ntmps12
  go_wp2_with fail
  go_loopg [3, 4] n (fun gk m iv wr => ∃ k : Nat, iv = .int .i64 k ∧ 0 < k ∧ k ≤ n ∧ n < k + gk ∧ m = .float .f64 (maxL (ws.take k)) ∧ Hid (NiceW (maxL (ws.take k))) ∧ wr = w)
  case atStart =>
    refine ⟨1, rfl, by omega, by omega, by omega, ?_, ?_, rfl⟩
    · rw [HX.out, max_one (by rw [hn.out]; exact h0)]
    · show NiceW _
      rw [max_one (by rw [hn.out]; exact h0)]
      exact hw.out _ (getD_memN (by rw [hn.out]; exact h0))
  case round =>
    obtain ⟨k, rfl, hk0, hk, hgk, rfl, hN, rfl⟩ := hrel
    by_cases hkn : k < n
    · have hx : NiceW (ws.getD k 0) := hw.out _ (getD_memN (by rw [hn.out]; exact hkn))
      have hck := hc.out k hkn
      have ht := maxL_take ws k hk0 (by rw [hn.out]; exact hkn)
      obtain ⟨M, hM⟩ : ∃ M, M = maxL (ws.take k) := ⟨_, rfl⟩
      obtain ⟨Y, hY⟩ : ∃ Y, Y = ws.getD k 0 := ⟨_, rfl⟩
      rw [← hM] at hN ht ⊢
      rw [← hY] at hx hck ht
      have hmx := fun w' ts t => run_fmax (P := Yba.prog) w' ts t hN.out hx
      have HT := Lib.hid ht
      have HXX := Lib.hid hx
      clear hM hY ht hx
      go_wp2_with fail
      go_roundg (gk - 1)
      case measure => omega
      case rel => exact ⟨k + 1, by go_num, by omega, by omega, by omega, by rw [HT.out], by show NiceW _; rw [HT.out]; exact fmax_nice hN.out HXX.out, rfl⟩
    · have e : ws.take k = ws := List.take_of_length_le (by rw [hn.out]; omega)
      have HE := Lib.hid e
      clear e
      go_wp2_with fail
      go_ret
      exact ⟨by rw [HE.out]; rfl, rfl⟩

end Go.Proofs.Ybulkcnam
