/-
  THE WALK over (*heap.Min[float64, int]).Pop.
-/
import Derived.Test.YbulkcnamPush
namespace Go.Proofs.Ybulkcnam
open Go.RowKit

/-- The lesser child of i. -/
def kid (L : List (Nat × Nat)) (i : Nat) : Nat := if 2 * i + 2 < L.length ∧ bef (L.getD (2 * i + 2) dI) (L.getD (2 * i + 1) dI) = true then 2 * i + 2 else 2 * i + 1
/-- Sifting down, as the loop does it. -/
def downF : Nat → List (Nat × Nat) → Nat → List (Nat × Nat)
  | 0, L, _ => L
  | f + 1, L, i => if 2 * i + 1 < L.length then (if bef (L.getD (kid L i) dI) (L.getD i dI) then downF f (swapL L i (kid L i)) (kid L i) else L) else L
def popL (L : List (Nat × Nat)) : List (Nat × Nat) := downF (L.length + 1) ((L.set 0 (L.getD (L.length - 1) dI)).take (L.length - 1)) 0

theorem downF_length : ∀ f L i, (downF f L i).length = L.length
  | 0, _, _ => rfl
  | f + 1, L, i => by
    unfold downF
    split
    · split
      · rw [downF_length, swapL_length]
      · rfl
    · rfl
theorem popL_length (L : List (Nat × Nat)) : (popL L).length = L.length - 1 := by simp [popL, downF_length]

attribute [local go_sem] run_store_float

/-- The last item is laid first, and the row is cut by one. -/
theorem owns_last {w : World} {B g n cap : Nat} {L : List (Nat × Nat)} (hn : L.length = n + 1) (h : w.ownsRow B 47 3 (.slice (some ⟨g, 0, none⟩) (n + 1) cap) (n + 1) (ics L)) (Y : Nat × Nat) :
    (((w.setCell ⟨g, 0, none⟩ (.float .f64 Y.1)).setCell ⟨g, 1, none⟩ (.int .u64 (Y.2 : Nat))).setCell ⟨g, 2, none⟩ (.int .i64 (Y.2 : Nat))).ownsRow B 47 3 (.slice (some ⟨g, 0, none⟩) n cap) n (ics ((L.set 0 Y).take n)) := by
  have h3 := (((((h.stored 0 (.float .f64 Y.1)).1).stored 1 (.int .u64 (Y.2 : Nat))).1).stored 2 (.int .i64 (Y.2 : Nat))).1
  have e := ics_set L Y 0
  simp only [Nat.zero_mul, Nat.zero_add] at e
  rw [e] at h3
  have e2 : ics (L.set 0 Y) = ics ((L.set 0 Y).take n) ++ ics ((L.set 0 Y).drop n) := by rw [← ics_append, List.take_append_drop]
  rw [e2] at h3
  exact ownsRow_pop (by rw [ics_length, List.length_take, List.length_set]; omega) h3

theorem kid_lt {L : List (Nat × Nat)} {i : Nat} (h : 2 * i + 1 < L.length) : kid L i < L.length ∧ i < kid L i := by unfold kid; split <;> omega

theorem downF_leaf {gk : Nat} {L' R : List (Nat × Nat)} {i : Nat} (h : downF gk L' i = R) (hg : 0 < gk) (hn : ¬ 2 * i + 1 < L'.length) : L' = R := by
  obtain ⟨f, rfl⟩ : ∃ f, gk = f + 1 := ⟨gk - 1, by omega⟩
  unfold downF at h
  rw [if_neg hn] at h
  exact h
theorem downF_stop {gk : Nat} {L' R : List (Nat × Nat)} {i c : Nat} (h : downF gk L' i = R) (hg : 0 < gk) (hn : 2 * i + 1 < L'.length) (hk : kid L' i = c) (hb : bef (L'.getD c dI) (L'.getD i dI) = false) : L' = R := by
  obtain ⟨f, rfl⟩ : ∃ f, gk = f + 1 := ⟨gk - 1, by omega⟩
  unfold downF at h
  rw [if_pos hn, hk, if_neg (by rw [hb]; decide)] at h
  exact h
theorem downF_step {gk : Nat} {L' R : List (Nat × Nat)} {i c : Nat} (h : downF gk L' i = R) (hg : 0 < gk) (hn : 2 * i + 1 < L'.length) (hk : kid L' i = c) (hb : bef (L'.getD c dI) (L'.getD i dI) = true) : downF (gk - 1) (swapL L' i c) c = R := by
  obtain ⟨f, rfl⟩ : ∃ f, gk = f + 1 := ⟨gk - 1, by omega⟩
  unfold downF at h
  rw [if_pos hn, hk, if_pos hb] at h
  exact h

theorem end_facts {w wr : World} {B b o tb n g cap q : Nat} {C : Array Value} {L' R : List (Nat × Nat)} (hne : g ≠ b) (hR : L' = R)
    (ho : wr.ownsRow B 47 3 (.slice (some ⟨g, 0, none⟩) n cap) n (ics L')) (hbk : wr.heap[b]? = some (.cells C tb (0, 0))) (hfr : Fr w wr (fun k => k = b ∨ k = g)) :
    ((wr.drewN q).setCell ⟨b, o, none⟩ (.slice (some ⟨g, 0, none⟩) n cap)).heap[b]? = some (.cells (C.setIfInBounds o (.slice (some ⟨g, 0, none⟩) n cap)) tb (0, 0)) ∧
    ((wr.drewN q).setCell ⟨b, o, none⟩ (.slice (some ⟨g, 0, none⟩) n cap)).ownsRow B 47 3 (.slice (some ⟨g, 0, none⟩) n cap) n (ics R) ∧ Fr w ((wr.drewN q).setCell ⟨b, o, none⟩ (.slice (some ⟨g, 0, none⟩) n cap)) (fun k => k = b ∨ k = g) := by
  subst hR
  exact ⟨heap_setCell_same (wr.drewN q) b o C tb _ hbk, owns_setOther (owns_drewN ho q) (fun e => hne (by simpa [Value.ownBlock] using e)) _, (hfr.drewN q).setCell _ _ (fun _ => .inl rfl)⟩

theorem end_facts0 {w wr : World} {B b o tb n g cap : Nat} {C : Array Value} {L' R : List (Nat × Nat)} (hne : g ≠ b) (hR : L' = R)
    (ho : wr.ownsRow B 47 3 (.slice (some ⟨g, 0, none⟩) n cap) n (ics L')) (hbk : wr.heap[b]? = some (.cells C tb (0, 0))) (hfr : Fr w wr (fun k => k = b ∨ k = g)) :
    (wr.setCell ⟨b, o, none⟩ (.slice (some ⟨g, 0, none⟩) n cap)).heap[b]? = some (.cells (C.setIfInBounds o (.slice (some ⟨g, 0, none⟩) n cap)) tb (0, 0)) ∧
    (wr.setCell ⟨b, o, none⟩ (.slice (some ⟨g, 0, none⟩) n cap)).ownsRow B 47 3 (.slice (some ⟨g, 0, none⟩) n cap) n (ics R) ∧ Fr w (wr.setCell ⟨b, o, none⟩ (.slice (some ⟨g, 0, none⟩) n cap)) (fun k => k = b ∨ k = g) := by
  subst hR
  exact ⟨heap_setCell_same wr b o C tb _ hbk, owns_setOther ho (fun e => hne (by simpa [Value.ownBlock] using e)) _, hfr.setCell _ _ (fun _ => .inl rfl)⟩

set_option maxHeartbeats 1000000 in
set_option maxRecDepth 10000 in
theorem pop_walk (B b o tb n : Nat) (C : Array Value) (w : World) (g cap : Nat) (L : List (Nat × Nat)) (hblk : w.heap[b]? = some (.cells C tb (0, 0))) (hC : C[o]? = some (.slice (some ⟨g, 0, none⟩) (n + 1) cap)) (hne : g ≠ b)
    (hown : w.ownsRow B 47 3 (.slice (some ⟨g, 0, none⟩) (n + 1) cap) (n + 1) (ics L)) (hcap : n + 1 ≤ cap) (HN : Hid (L.length = n + 1)) (hL : n ≤ 1000) (hLs : Hid (∀ y ∈ L, y.2 ≤ 1000)) :
    Calls Yba.prog 10 #[.pointer (some ⟨b, o, none⟩)] w fun e w' => e = .returned (.int .i64 ((L.getD 0 dI).2 : Nat)) ∧
      w'.heap[b]? = some (.cells (C.setIfInBounds o (.slice (some ⟨g, 0, none⟩) n cap)) tb (0, 0)) ∧ w'.ownsRow B 47 3 (.slice (some ⟨g, 0, none⟩) n cap) n (ics (popL L)) ∧ Fr w w' (fun k => k = b ∨ k = g) := by
  have hc0 : w.cell? ⟨b, o, none⟩ = some (.slice (some ⟨g, 0, none⟩) (n + 1) cap) := by rw [cell_of_row w b o C tb (0, 0) hblk, hC]
  have hf0 : w.frozen? ⟨b, o, none⟩ = false := frozen_of_row w b o C tb hblk
  obtain ⟨X, hX⟩ : ∃ X, X = L.getD 0 dI := ⟨_, rfl⟩
  obtain ⟨Y, hY⟩ : ∃ Y, Y = L.getD n dI := ⟨_, rfl⟩
  obtain ⟨a0, a1, a2⟩ := item_cells (j := 0) hown HN.out (by rw [HN.out]; omega)
  obtain ⟨b0, b1, b2⟩ := item_cells (j := n) hown HN.out (by rw [HN.out]; omega)
  rw [← hX] at a0 a1 a2
  rw [← hY] at b0 b1 b2
  simp only [Nat.zero_mul, Nat.zero_add] at a0 a1 a2
  have hfz : ∀ j, w.frozen? ⟨g, j, none⟩ = false := fun j => hown.frozenAt j
  have ho1 := owns_last HN.out hown Y
  obtain ⟨L1, hL1⟩ : ∃ L1, L1 = (L.set 0 Y).take n := ⟨_, rfl⟩
  rw [← hL1] at ho1
  have hl1 : L1.length = n := by rw [hL1, List.length_take, List.length_set, HN.out]; omega
  have hs1 : ∀ y ∈ L1, y.2 ≤ 1000 := by
    intro y hy
    rw [hL1] at hy
    rcases List.mem_or_eq_of_mem_set (List.mem_of_mem_take hy) with h | rfl
    · exact hLs.out y h
    · rw [hY]; exact hLs.out _ (by have := HN.out; simp [List.getD, this])
  have hpop : popL L = downF (n + 2) L1 0 := by unfold popL; rw [HN.out, hL1, hY]; rfl
  have hb1 : (((w.setCell ⟨g, 0, none⟩ (.float .f64 Y.1)).setCell ⟨g, 1, none⟩ (.int .u64 (Y.2 : Nat))).setCell ⟨g, 2, none⟩ (.int .i64 (Y.2 : Nat))).heap[b]? = some (.cells C tb (0, 0)) := by
    rw [Below.heap_setCell _ _ _ _ (fun e => hne e.symm), Below.heap_setCell _ _ _ _ (fun e => hne e.symm), Below.heap_setCell _ _ _ _ (fun e => hne e.symm)]; exact hblk
  have fr1 : Fr w (((w.setCell ⟨g, 0, none⟩ (.float .f64 Y.1)).setCell ⟨g, 1, none⟩ (.int .u64 (Y.2 : Nat))).setCell ⟨g, 2, none⟩ (.int .i64 (Y.2 : Nat))) (fun k => k = b ∨ k = g) :=
    (((Fr.refl w _).setCell _ _ (fun _ => .inr rfl)).setCell _ _ (fun _ => .inr rfl)).setCell _ _ (fun _ => .inr rfl)
  have HX := Lib.hid hX
  have HY := Lib.hid hY
  have HL1 := Lib.hid hL1
  have HB1 := Lib.hid hb1
  have HP := Lib.hid hpop
  have HO1 := Lib.hid ho1
  have HS1 := Lib.hid hs1
  have HI1 := Lib.hid hl1
  clear hX hY hL1 hb1 hpop hblk hown ho1 hs1 hl1
  go_enter Yba.func10, Yba.ntmps10
  go_wp2_with fail
  go_loopg [6] (n + 2) (fun gk iv wr => ∃ (L' : List (Nat × Nat)) (i : Nat), iv = .int .i64 i ∧ i ≤ n ∧ n + 1 < i + gk ∧ Hid (L'.length = n) ∧ Hid (∀ y ∈ L', y.2 ≤ 1000) ∧ Hid (downF gk L' i = popL L) ∧ wr.ownsRow B 47 3 (.slice (some ⟨g, 0, none⟩) n cap) n (ics L') ∧ Hid (wr.heap[b]? = some (.cells C tb (0, 0))) ∧ Fr w wr (fun k => k = b ∨ k = g))
  case atStart => exact ⟨L1, 0, rfl, by omega, by omega, HI1, HS1, HP.out.symm, HO1.out, HB1, fr1⟩
  case round =>
    obtain ⟨L', i, rfl, hi, hgk, hl, hsm, hdn, ho, hbk, hfr⟩ := hrel
    have hcb : wr.cell? ⟨b, o, none⟩ = some (.slice (some ⟨g, 0, none⟩) (n + 1) cap) := by rw [cell_of_row wr b o C tb (0, 0) hbk.out, hC]
    have hfb : wr.frozen? ⟨b, o, none⟩ = false := frozen_of_row wr b o C tb hbk.out
    by_cases hch : 2 * i + 1 < n
    · have hi2 : i < n := by omega
      have hI1 : 2 * (i : Int) + 1 < (n : Int) := by omega
      have hJ1 : (0 : Int) ≤ 2 * (i : Int) + 1 := by omega
      have hI0 : (i : Int) < (n : Int) := by omega
      by_cases hr : 2 * i + 2 < n
      · have hd : decide (2 * (i : Int) + 1 + 1 < (n : Int)) = true := decide_eq_true (by omega)
        have hI2 : 2 * (i : Int) + 1 + 1 < (n : Int) := by omega
        have hJ2 : (0 : Int) ≤ 2 * (i : Int) + 1 + 1 := by omega
        have hBC := before_at (i := 2 * i + 2) (j := 2 * i + 1) ho hl.out (by rw [hl.out]; exact hr) (by rw [hl.out]; exact hch) hsm.out
        cases hbf : bef (L'.getD (2 * i + 2) dI) (L'.getD (2 * i + 1) dI) with
        | true =>
          rw [hbf] at hBC
          have HBC := Lib.hid hBC
          have HK : Hid (kid L' i = 2 * i + 1 + 1) := by show _ = _; unfold kid; rw [if_pos ⟨by rw [hl.out]; exact hr, hbf⟩]
          clear hBC hbf
          go_wp2_with fail
          go_quiet ((go_at_call 17; exact Calls.quiet_of (HBC.out _)))
          go_wp2_with fail
          generalize hwq : wr.drewN nq = wq
          replace ho : wq.ownsRow B 47 3 (.slice (some ⟨g, 0, none⟩) n cap) n (ics L') := by rw [← hwq]; exact owns_drewN ho nq
          replace hbk : Hid (wq.heap[b]? = some (.cells C tb (0, 0))) := by rw [← hwq]; exact hbk
          replace hfr : Fr w wq (fun k => k = b ∨ k = g) := by rw [← hwq]; exact hfr.drewN nq
          replace hcb : wq.cell? ⟨b, o, none⟩ = some (.slice (some ⟨g, 0, none⟩) (n + 1) cap) := by rw [← hwq]; exact hcb
          replace hfb : wq.frozen? ⟨b, o, none⟩ = false := by rw [← hwq]; exact hfb
          clear hwq
          have hBC2 := before_at (i := 2 * i + 1 + 1) (j := i) ho hl.out (by rw [hl.out]; omega) (by rw [hl.out]; omega) hsm.out
          cases hbf2 : bef (L'.getD (2 * i + 1 + 1) dI) (L'.getD i dI) with
          | false =>
            rw [hbf2] at hBC2
            have HBC2 := Lib.hid hBC2
            have HBF2 := Lib.hid hbf2
            clear hBC2 hbf2
            go_quiet ((go_at_call 17; exact Calls.quiet_of (HBC2.out _)))
            go_wp2_with fail
            go_ret
            exact ⟨by rw [← HX.out]; rfl, end_facts hne (downF_stop hdn.out (by omega) (by rw [hl.out]; omega) HK.out HBF2.out) ho hbk.out hfr⟩
          | true =>
            rw [hbf2] at hBC2
            have HBC2 := Lib.hid hBC2
            have HBF2 := Lib.hid hbf2
            obtain ⟨U, hU⟩ : ∃ U, U = L'.getD i dI := ⟨_, rfl⟩
            obtain ⟨V, hV⟩ : ∃ V, V = L'.getD (2 * i + 1 + 1) dI := ⟨_, rfl⟩
            obtain ⟨x0, x1, x2⟩ := item_cells (j := i) ho hl.out (by rw [hl.out]; omega)
            obtain ⟨y0, y1, y2⟩ := item_cells (j := 2 * i + 1 + 1) ho hl.out (by rw [hl.out]; omega)
            have hsw := fun q => owns_swap (i := i) (p := 2 * i + 1 + 1) (owns_drewN ho q)
            rw [← hU] at x0 x1 x2
            rw [← hV] at y0 y1 y2
            simp only [← hU, ← hV] at hsw
            have hfz2 : ∀ j, wq.frozen? ⟨g, j, none⟩ = false := fun j => ho.frozenAt j
            have HSW := Lib.hid hsw
            have HU := Lib.hid hU
            have HV := Lib.hid hV
            clear hBC2 hbf2 hsw hU hV
            go_quiet ((go_at_call 17; exact Calls.quiet_of (HBC2.out _)))
            go_wp2_with fail
            go_region
            go_wp2_with fail
            go_roundg (gk - 1)
            case measure => omega
            case rel =>
              refine ⟨swapL L' i (2 * i + 1 + 1), 2 * i + 1 + 1, by go_num, by omega, by omega, by show _ = _; rw [swapL_length]; exact hl.out, ?_, ?_, HSW.out _, ?_, ?_⟩
              · exact fun y hy => hsm.out y (mem_swapL (by rw [hl.out]; omega) (by rw [hl.out]; omega) hy)
              · exact downF_step hdn.out (by omega) (by rw [hl.out]; omega) HK.out HBF2.out
              · exact hid_swap (fun e => hne e.symm) hbk
              · exact fr_swap (hfr.drewN _) (fun _ => .inr rfl)
        | false =>
          rw [hbf] at hBC
          have HBC := Lib.hid hBC
          have HK : Hid (kid L' i = 2 * i + 1) := by show _ = _; unfold kid; rw [if_neg (fun h => by rw [hbf] at h; exact absurd h.2 (by decide))]
          clear hBC hbf
          go_wp2_with fail
          go_quiet ((go_at_call 17; exact Calls.quiet_of (HBC.out _)))
          go_wp2_with fail
          generalize hwq : wr.drewN nq = wq
          replace ho : wq.ownsRow B 47 3 (.slice (some ⟨g, 0, none⟩) n cap) n (ics L') := by rw [← hwq]; exact owns_drewN ho nq
          replace hbk : Hid (wq.heap[b]? = some (.cells C tb (0, 0))) := by rw [← hwq]; exact hbk
          replace hfr : Fr w wq (fun k => k = b ∨ k = g) := by rw [← hwq]; exact hfr.drewN nq
          replace hcb : wq.cell? ⟨b, o, none⟩ = some (.slice (some ⟨g, 0, none⟩) (n + 1) cap) := by rw [← hwq]; exact hcb
          replace hfb : wq.frozen? ⟨b, o, none⟩ = false := by rw [← hwq]; exact hfb
          clear hwq
          have hBC2 := before_at (i := 2 * i + 1) (j := i) ho hl.out (by rw [hl.out]; omega) (by rw [hl.out]; omega) hsm.out
          cases hbf2 : bef (L'.getD (2 * i + 1) dI) (L'.getD i dI) with
          | false =>
            rw [hbf2] at hBC2
            have HBC2 := Lib.hid hBC2
            have HBF2 := Lib.hid hbf2
            clear hBC2 hbf2
            go_quiet ((go_at_call 17; exact Calls.quiet_of (HBC2.out _)))
            go_wp2_with fail
            go_ret
            exact ⟨by rw [← HX.out]; rfl, end_facts hne (downF_stop hdn.out (by omega) (by rw [hl.out]; omega) HK.out HBF2.out) ho hbk.out hfr⟩
          | true =>
            rw [hbf2] at hBC2
            have HBC2 := Lib.hid hBC2
            have HBF2 := Lib.hid hbf2
            obtain ⟨U, hU⟩ : ∃ U, U = L'.getD i dI := ⟨_, rfl⟩
            obtain ⟨V, hV⟩ : ∃ V, V = L'.getD (2 * i + 1) dI := ⟨_, rfl⟩
            obtain ⟨x0, x1, x2⟩ := item_cells (j := i) ho hl.out (by rw [hl.out]; omega)
            obtain ⟨y0, y1, y2⟩ := item_cells (j := 2 * i + 1) ho hl.out (by rw [hl.out]; omega)
            have hsw := fun q => owns_swap (i := i) (p := 2 * i + 1) (owns_drewN ho q)
            rw [← hU] at x0 x1 x2
            rw [← hV] at y0 y1 y2
            simp only [← hU, ← hV] at hsw
            have hfz2 : ∀ j, wq.frozen? ⟨g, j, none⟩ = false := fun j => ho.frozenAt j
            have HSW := Lib.hid hsw
            have HU := Lib.hid hU
            have HV := Lib.hid hV
            clear hBC2 hbf2 hsw hU hV
            go_quiet ((go_at_call 17; exact Calls.quiet_of (HBC2.out _)))
            go_wp2_with fail
            go_region
            go_wp2_with fail
            go_roundg (gk - 1)
            case measure => omega
            case rel =>
              refine ⟨swapL L' i (2 * i + 1), 2 * i + 1, by go_num, by omega, by omega, by show _ = _; rw [swapL_length]; exact hl.out, ?_, ?_, HSW.out _, ?_, ?_⟩
              · exact fun y hy => hsm.out y (mem_swapL (by rw [hl.out]; omega) (by rw [hl.out]; omega) hy)
              · exact downF_step hdn.out (by omega) (by rw [hl.out]; omega) HK.out HBF2.out
              · exact hid_swap (fun e => hne e.symm) hbk
              · exact fr_swap (hfr.drewN _) (fun _ => .inr rfl)
      · have hd : decide (2 * (i : Int) + 1 + 1 < (n : Int)) = false := decide_eq_false (by omega)
        have HK : Hid (kid L' i = 2 * i + 1) := by show _ = _; unfold kid; rw [if_neg (fun h => by have := h.1; rw [hl.out] at this; omega)]
        go_wp2_with fail
        go_quiet (fail)
        go_wp2_with fail
        generalize hwq : wr.drewN nq = wq
        replace ho : wq.ownsRow B 47 3 (.slice (some ⟨g, 0, none⟩) n cap) n (ics L') := by rw [← hwq]; exact owns_drewN ho nq
        replace hbk : Hid (wq.heap[b]? = some (.cells C tb (0, 0))) := by rw [← hwq]; exact hbk
        replace hfr : Fr w wq (fun k => k = b ∨ k = g) := by rw [← hwq]; exact hfr.drewN nq
        replace hcb : wq.cell? ⟨b, o, none⟩ = some (.slice (some ⟨g, 0, none⟩) (n + 1) cap) := by rw [← hwq]; exact hcb
        replace hfb : wq.frozen? ⟨b, o, none⟩ = false := by rw [← hwq]; exact hfb
        clear hwq
        have hBC2 := before_at (i := 2 * i + 1) (j := i) ho hl.out (by rw [hl.out]; omega) (by rw [hl.out]; omega) hsm.out
        cases hbf2 : bef (L'.getD (2 * i + 1) dI) (L'.getD i dI) with
        | false =>
          rw [hbf2] at hBC2
          have HBC2 := Lib.hid hBC2
          have HBF2 := Lib.hid hbf2
          clear hBC2 hbf2
          go_quiet ((go_at_call 17; exact Calls.quiet_of (HBC2.out _)))
          go_wp2_with fail
          go_ret
          exact ⟨by rw [← HX.out]; rfl, end_facts hne (downF_stop hdn.out (by omega) (by rw [hl.out]; omega) HK.out HBF2.out) ho hbk.out hfr⟩
        | true =>
          rw [hbf2] at hBC2
          have HBC2 := Lib.hid hBC2
          have HBF2 := Lib.hid hbf2
          obtain ⟨U, hU⟩ : ∃ U, U = L'.getD i dI := ⟨_, rfl⟩
          obtain ⟨V, hV⟩ : ∃ V, V = L'.getD (2 * i + 1) dI := ⟨_, rfl⟩
          obtain ⟨x0, x1, x2⟩ := item_cells (j := i) ho hl.out (by rw [hl.out]; omega)
          obtain ⟨y0, y1, y2⟩ := item_cells (j := 2 * i + 1) ho hl.out (by rw [hl.out]; omega)
          have hsw := fun q => owns_swap (i := i) (p := 2 * i + 1) (owns_drewN ho q)
          rw [← hU] at x0 x1 x2
          rw [← hV] at y0 y1 y2
          simp only [← hU, ← hV] at hsw
          have hfz2 : ∀ j, wq.frozen? ⟨g, j, none⟩ = false := fun j => ho.frozenAt j
          have HSW := Lib.hid hsw
          have HU := Lib.hid hU
          have HV := Lib.hid hV
          clear hBC2 hbf2 hsw hU hV
          go_quiet ((go_at_call 17; exact Calls.quiet_of (HBC2.out _)))
          go_wp2_with fail
          go_region
          go_wp2_with fail
          go_roundg (gk - 1)
          case measure => omega
          case rel =>
            refine ⟨swapL L' i (2 * i + 1), 2 * i + 1, by go_num, by omega, by omega, by show _ = _; rw [swapL_length]; exact hl.out, ?_, ?_, HSW.out _, ?_, ?_⟩
            · exact fun y hy => hsm.out y (mem_swapL (by rw [hl.out]; omega) (by rw [hl.out]; omega) hy)
            · exact downF_step hdn.out (by omega) (by rw [hl.out]; omega) HK.out HBF2.out
            · exact hid_swap (fun e => hne e.symm) hbk
            · exact fr_swap (hfr.drewN _) (fun _ => .inr rfl)
    · go_wp2_with fail
      go_ret
      exact ⟨by rw [← HX.out]; rfl, end_facts0 hne (downF_leaf hdn.out (by omega) (by rw [hl.out]; omega)) ho hbk.out hfr⟩

/-- POP: the first item's index comes back; the rest lies in the same block. -/
theorem pop_any (B b o tb : Nat) (C : Array Value) (w : World) (v : Value) (L : List (Nat × Nat)) (hblk : w.heap[b]? = some (.cells C tb (0, 0))) (hC : C[o]? = some v) (htb : tb ≠ 47)
    (hown : w.ownsRow B 47 3 v L.length (ics L)) (hL0 : 0 < L.length) (hL : L.length ≤ 1000) (hLs : ∀ y ∈ L, y.2 ≤ 1000) :
    Calls Yba.prog 10 #[.pointer (some ⟨b, o, none⟩)] w fun e w' => e = .returned (.int .i64 ((L.getD 0 dI).2 : Nat)) ∧
      ∃ v', w'.heap[b]? = some (.cells (C.setIfInBounds o v') tb (0, 0)) ∧ w'.ownsRow B 47 3 v' (popL L).length (ics (popL L)) ∧ v'.ownBlock = v.ownBlock ∧ Fr w w' (fun k => k = b ∨ v.ownBlock = some k) := by
  have hbv : v.ownBlock ≠ some b := owns_ne hown hblk htb
  obtain ⟨n, hn⟩ : ∃ n, L.length = n + 1 := ⟨L.length - 1, by omega⟩
  obtain ⟨g, cap, rfl, hcap⟩ : ∃ g cap, v = .slice (some ⟨g, 0, none⟩) L.length cap ∧ L.length ≤ cap := by
    rcases hown.2 with ⟨-, h⟩ | ⟨g, cap, cur, h, -, -, hc, -⟩
    · omega
    · exact ⟨g, cap, h, hc⟩
  have hne : g ≠ b := fun e => hbv (by simp [Value.ownBlock, e])
  rw [hn] at hC hown hcap
  refine (pop_walk B b o tb n C w g cap L hblk hC hne hown hcap (Lib.hid hn) (by omega) (Lib.hid hLs)).mono ?_
  rintro e w' ⟨rfl, h1, h2, h3⟩
  refine ⟨rfl, _, h1, ?_, rfl, h3.mono (fun k _ h => h.imp id (fun e => by rw [e]; rfl))⟩
  rw [popL_length, hn]; exact h2

end Go.Proofs.Ybulkcnam
