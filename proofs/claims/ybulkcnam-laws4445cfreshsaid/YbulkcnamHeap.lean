/-
  WALKS over internal/heap/heap.go at [float64, int]: before, Len, Clear, Peek, Push, Pop.
-/
import Derived.Test.YbulkcnamFloat
import Derived.WalkKit
import Derived.WalkSpells
import Derived.WalkLawsBesides
import Derived.Deep.QuietTactic
import Derived.BigQuiet
import Derived.Deep.LoopGhost
import Derived.Lib.Hide
namespace Go.Proofs.Ybulkcnam
open Go.RowKit

/-- One item: its key's bits, and its index (tie-breaker and value alike). -/
def bef (a b : Nat × Nat) : Bool := (Ieee.double.order a.1 b.1 == some .lt) || ((Ieee.double.order a.1 b.1 == some .eq) && decide (a.2 < b.2))

set_option maxHeartbeats 400000 in
theorem before_any (g1 o1 g2 o2 : Nat) (a b : Nat × Nat) (w : World) (ha : a.2 < 18446744073709551616) (hb : b.2 < 18446744073709551616)
    (ca0 : w.cell? ⟨g1, o1, none⟩ = some (.float .f64 a.1)) (ca1 : w.cell? ⟨g1, o1 + 1, none⟩ = some (.int .u64 (a.2 : Nat)))
    (cb0 : w.cell? ⟨g2, o2, none⟩ = some (.float .f64 b.1)) (cb1 : w.cell? ⟨g2, o2 + 1, none⟩ = some (.int .u64 (b.2 : Nat))) :
    Calls Yba.prog 17 #[.pointer (some ⟨g1, o1, none⟩), .pointer (some ⟨g2, o2, none⟩)] w fun e w' => e = .returned (.bool (bef a b)) ∧ ∃ n, w' = w.drewN n := by
  obtain ⟨k1, t1⟩ := a
  obtain ⟨k2, t2⟩ := b
  simp only at *
  cases h1 : (FloatKind.f64.format.order k1 k2 == some .lt) with
  | true =>
    have HB : Hid (bef (k1, t1) (k2, t2) = true) := by show _ = true; unfold bef; rw [show (Ieee.double.order k1 k2 == some Ordering.lt) = true from h1]; rfl
    go_enter Yba.func17, Yba.ntmps17
    go_wp2_with fail
    go_quiet (fail)
    go_wp2_with fail
    go_ret
    exact ⟨by rw [HB.out]; rfl, _, rfl⟩
  | false =>
    cases h2 : (FloatKind.f64.format.order k1 k2 == some .eq) with
    | true =>
      by_cases h3 : t1 < t2
      · have HB : Hid (bef (k1, t1) (k2, t2) = true) := by show _ = true; unfold bef; rw [show (Ieee.double.order k1 k2 == some Ordering.eq) = true from h2]; simp [h3]
        go_enter Yba.func17, Yba.ntmps17
        go_wp2_with fail
        go_quiet (fail)
        go_wp2_with fail
        go_ret
        exact ⟨by rw [HB.out]; simp, _, rfl⟩
      · have HB : Hid (bef (k1, t1) (k2, t2) = false) := by show _ = false; unfold bef; rw [show (Ieee.double.order k1 k2 == some Ordering.lt) = false from h1]; simp [h3]
        go_enter Yba.func17, Yba.ntmps17
        go_wp2_with fail
        go_quiet (fail)
        go_wp2_with fail
        go_ret
        exact ⟨by rw [HB.out]; simp, _, rfl⟩
    | false =>
      have HB : Hid (bef (k1, t1) (k2, t2) = false) := by show _ = false; unfold bef; rw [show (Ieee.double.order k1 k2 == some Ordering.lt) = false from h1, show (Ieee.double.order k1 k2 == some Ordering.eq) = false from h2]; rfl
      go_enter Yba.func17, Yba.ntmps17
      go_wp2_with fail
      go_quiet (fail)
      go_wp2_with fail
      go_ret
      exact ⟨by rw [HB.out]; rfl, _, rfl⟩

set_option maxHeartbeats 400000 in
/-- Len: how many items the slice in the field holds. -/
theorem len_any (b o : Nat) (sa : Option Addr) (len cap : Nat) (w : World) (hc : w.cell? ⟨b, o, none⟩ = some (.slice sa len cap)) :
    Calls Yba.prog 9 #[.pointer (some ⟨b, o, none⟩)] w fun e w' => e = .returned (.int .i64 len) ∧ w' = w := by
  go_enter Yba.func9, Yba.ntmps9
  go_wp2_with fail
  go_ret
  exact ⟨rfl, rfl⟩

set_option maxHeartbeats 400000 in
/-- Clear: the slice in the field, cut to no element. -/
theorem clear_any (b o : Nat) (sa : Option Addr) (len cap : Nat) (w : World) (hc : w.cell? ⟨b, o, none⟩ = some (.slice sa len cap)) (hf : w.frozen? ⟨b, o, none⟩ = false) :
    Calls Yba.prog 13 #[.pointer (some ⟨b, o, none⟩)] w fun e w' => e = .returned (.tuple #[]) ∧ w' = w.setCell ⟨b, o, none⟩ (.slice sa 0 cap) := by
  go_enter Yba.func13, Yba.ntmps13
  go_wp2_with fail
  go_end0
  exact ⟨rfl, rfl⟩

set_option maxHeartbeats 400000 in
/-- Peek: where the first item's value lies, and its key. -/
theorem peek_any (b o g : Nat) (len cap k : Nat) (w : World) (hp : 0 < len) (hc : w.cell? ⟨b, o, none⟩ = some (.slice (some ⟨g, 0, none⟩) len cap)) (hk : w.cell? ⟨g, 0, none⟩ = some (.float .f64 k)) :
    Calls Yba.prog 18 #[.pointer (some ⟨b, o, none⟩)] w fun e w' => (∃ v, e = .returned (.tuple #[v, .float .f64 k])) ∧ ∃ n, w' = w.drewN n := by
  have hp' : (0 : Int) < (len : Int) := by omega
  go_enter Yba.func18, Yba.ntmps18
  go_wp2_with fail
  go_quiet (fail)
  go_wp2_with fail
  go_ret2
  exact ⟨⟨_, rfl⟩, _, rfl⟩

end Go.Proofs.Ybulkcnam
