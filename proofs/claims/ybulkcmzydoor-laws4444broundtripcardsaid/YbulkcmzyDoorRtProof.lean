/-
  THE ROW AND THE TIED CARD of tsf.LawS4444BRoundTrip.
-/
import Derived.Test.YbulkcmzyDoorRtWalk
import Derived.Test.YbulkcmzyDoorTie
import Derived.Test.YbulkcmzyDoorCards
import Derived.ProofKit
import Derived.LaidMore
import Derived.OpenShut
import Derived.Stop.Joined
namespace Go.Proofs.YbulkcmzyDoor
open Go.ChangeShapes Go.WideShapes Go.ChangeAt Go.WideMaps Go.WideElems Go.RowKit

theorem own : ownKnob Ybad.prog.godebug = none := by kernel_rfl
theorem laidOut : laidOutB Ybad.prog = true := by kernel_rfl

/-- What the two rows of package tsf list. -/
def laidB : List (String × DataW Unit) := Rows.lawS4444BRoundTripRow.laid

set_option maxRecDepth 100000 in
/-- The door's own heap meets the condition. -/
theorem door_met (os : Os) (args : Array Value) : laidMetH Ybad.prog laidB ((World.doorLaid Ybad.prog 34 os).forCall (fun _ _ => 0) ⟨#[], args, []⟩).memory :=
  laidMetH_of_parts3 (fuel := 8) (laidMet_of_run' 8 (by kernel_rfl) (by kernel_rfl)) (by kernel_rfl) (by kernel_rfl)

theorem strs_at {w : World} {a : Addr} {ss : List ByteArray} (h : ∀ i, i < ss.length → w.cell? (a.add i) = some (.string (ss.getD i ByteArray.empty))) (hp : 0 < ss.length) :
    ∃ b off, a = ⟨b, off, none⟩ ∧ b < w.heap.size ∧ ∀ j, j < ss.length → w.cell? ⟨b, off + j, none⟩ = some (.string (ss.getD j ByteArray.empty)) := by
  obtain ⟨b, off, spot⟩ := a
  have h0 := h 0 hp
  have hspot : spot = none := by simpa [Addr.add] using World.cell?_spot h0
  subst hspot
  exact ⟨b, off, rfl, World.block_lt_of_cell? _ _ h0, fun j hj => by rw [← Go.WideShapes.add_plain]; exact h j hj⟩

theorem rt_walk (a : Option Addr) (len cap : Nat) (ss : List ByteArray) (w : World)
    (h : (a = none ∧ len = 0 ∧ cap = 0) ∨ ∃ x, a = some x ∧ len ≤ ss.length ∧ ss.length ≤ maxLen ∧ (∀ i, i < ss.length → w.cell? (x.add i) = some (.string (ss.getD i ByteArray.empty))) ∧ ∀ s ∈ ss, s.size ≤ maxLen) :
    Calls Ybad.prog 4 #[.slice a len cap] w fun e w' => e = .returned (.bool true) ∧ Below w.heap.size w w' := by
  by_cases h0 : len = 0
  · subst h0; exact rt_none a cap w
  · rcases h with ⟨-, h, -⟩ | ⟨x, rfl, hl, hm, hc, hs⟩
    · exact absurd h h0
    · unfold maxLen at hm hs
      obtain ⟨b, off, rfl, hb, hcell⟩ := strs_at hc (by omega)
      refine rt_some b off len cap (ss.take len) w (by omega) (by omega) (by rw [List.length_take]; omega) hb (fun s h => hs s (List.mem_of_mem_take h)) (fun j hj => ?_)
      rw [List.length_take] at hj
      rw [hcell j (by omega)]
      simp [List.getD, show j < len by omega]

set_option maxRecDepth 100000 in
theorem rt_lifted (os : Os) (started : os.Started) (H : Type) (enc : TypeId × Value → H) :
    ReturnsInHanded {} Ybad.checked os 4 .any (fun w args => (Rows.lawS4444BRoundTripSpec.pre enc Ybad.prog Ybad.f4 [] false w args ∧ laidMetH Ybad.prog laidB w) ∧ sizedMet enc Ybad.prog Ybad.f4 (OpenSpec.ofChange Rows.lawS4444BRoundTripSpec) false w args)
      (Rows.lawS4444BRoundTripSpec.post enc Ybad.prog Ybad.f4 false true false false) := by
  refine returnsInHanded_of_change_and (C := Ybad.checked) (X := fun w _ => laidMetH Ybad.prog laidB w) (fun _ _ _ hh h => h.of_heap hh) own started (by kernel_rfl) Ybad.func4
    (ChangeSpec.witness_shaped (enc := enc) (C := Ybad.checked) (os := os) (X := fun w _ => laidMetH Ybad.prog laidB w) false (World.doorLaid Ybad.prog 34 os) #[.slice none 0 0] 8 rfl (World.shaped_of_RefB (by kernel_rfl) (by kernel_rfl)) (by kernel_rfl) (by kernel_rfl) (by kernel_rfl) (door_met os _)) ?_
  intro W base args ds gs before hval0 hW _ _ hL _
  have hval : ∀ (j : Nat) t v, Ybad.f4.params[j]? = some t → args[j]? = some v → Value.okWide Ybad.prog W .any base t v := hval0
  have hW' := hW
  obtain ⟨p, q, hA0, hV, rfl, hfz, hnd⟩ := hW
  have hA : DataW.TrodAll enc Ybad.prog W 0 (fun _ => true) true Ybad.f4.params.toList args.toList ds p := hA0
  rw [Ybad.params4] at hA hval
  obtain ⟨v0, d0, rfl, rfl, h0⟩ := trodAll_one hA
  obtain ⟨rfl, rfl⟩ := trodVars_none hV
  obtain ⟨a0, len0, cap0, rfl⟩ := okWide_slice Ybad.underlying34 (hval 0 34 v0 rfl rfl)
  have k0 := h0
  have lt0 : ∀ x ∈ p, x.block < W.heap.size := by obtain ⟨m, hm⟩ := k0; exact DataW.trod_lt m _ _ _ hm
  obtain ⟨ss, w0⟩ : ∃ ss : List ByteArray, (a0 = none ∧ len0 = 0 ∧ cap0 = 0) ∨ ∃ x, a0 = some x ∧ len0 ≤ ss.length ∧ ss.length ≤ maxLen ∧ (∀ i, i < ss.length → W.cell? (x.add i) = some (.string (ss.getD i ByteArray.empty))) ∧ ∀ s ∈ ss, s.size ≤ maxLen := by
    obtain ⟨fuel, hf⟩ := h0
    rcases open_strings Ybad.underlying34 Ybad.underlying9 (by kernel_rfl) hf with ⟨hcs, _⟩ | ⟨x, l, c, ss, hcs, _, hl, hm, hz, _, hcell, hwz⟩
    · simp [Value.cells] at hcs
      obtain ⟨rfl, rfl, rfl⟩ := hcs
      exact ⟨[], .inl ⟨rfl, rfl, rfl⟩⟩
    · simp [Value.cells] at hcs
      obtain ⟨rfl, rfl, rfl⟩ := hcs
      simp at hz
      exact ⟨ss, .inr ⟨_, rfl, by omega, by omega, hcell, hwz⟩⟩
  clear hA0 hval0
  refine (rt_walk a0 len0 cap0 ss W w0).mono fun e W' ⟨he, bel⟩ => ?_
  subst he
  exact ⟨_, rfl, _, _, _, [], _, [], hW', trodAll_mk1 (shut_bool Ybad.underlying4 _), trodAll_mk1 (Below.trod laidOut (by kernel_rfl) (of_decide_eq_true (by kernel_rfl)) k0 bel lt0), rfl, bel.frame _, fun h => by cases h⟩

theorem rt_over : Rows.LawS4444BRoundTripSaid :=
  OpenClaim.holds_of_wide 4 Ybad.f4 rfl rfl rfl rfl rfl rfl rfl ⟨rfl, rfl, rfl, rfl, rfl⟩ rfl rfl rfl rfl rfl (by kernel_rfl) Ybad.func4 (by kernel_rfl)
    (of_decide_eq_true (by kernel_rfl)) (by unfold Func.isWrapper; first | (rw [if_pos (by decide +kernel)]; kernel_rfl) | (rw [if_neg (by decide +kernel)]; exact ⟨rfl, rfl⟩))
    (fun os started H enc _ => rt_lifted os started H enc)

/-- THE TIED CARD. -/
theorem rt_card : Rows.LawS4444BRoundTripCardSaid :=
  Claim7.holds_tied_plain_at .later [] [.data, .data, .data] true (true, "249f0d11ec510d9e70e0818ae3e474068be28c7e158274ca1861cb0ef380243e") false
    rt_over (fun _ h => by cases h) (by kernel_rfl) (fun _ h => by cases h) lawS4444BRoundTrip_row_tie rfl ⟨rfl, rfl⟩ (by kernel_rfl) rfl
    (fun f fn hf hfn => by
      obtain rfl : f = 4 := Option.some.inj ((show Ybad.prog.funcNamed Rows.lawS4444BRoundTripRow.func = some 4 by kernel_rfl).symm.trans hf) |>.symm
      obtain rfl : fn = Ybad.f4 := (Option.some.inj (Ybad.func4.symm.trans hfn)).symm
      exact ⟨by kernel_rfl, fun j t ht => by
        rw [Ybad.params4] at ht
        have hm : t ∈ [34] := by simpa using Array.mem_of_getElem? ht
        have hall : ([34].all fun u => !Ybad.prog.wantsStandIn u) = true := by kernel_rfl
        exact (show Ybad.prog.wantsStandIn t = false by simpa using List.all_eq_true.1 hall t hm)⟩)
    (by kernel_rfl)
end Go.Proofs.YbulkcmzyDoor
