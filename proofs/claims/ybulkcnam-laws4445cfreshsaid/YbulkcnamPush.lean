/-
  THE WALK over (*heap.Min[float64, int]).Push.
-/
import Derived.Test.YbulkcnamMem
namespace Go.Proofs.Ybulkcnam
open Go.RowKit

/-- Two items exchanged. -/
def swapL (L : List (Nat × Nat)) (i p : Nat) : List (Nat × Nat) := (L.set i (L.getD p dI)).set p (L.getD i dI)
theorem swapL_length (L : List (Nat × Nat)) (i p : Nat) : (swapL L i p).length = L.length := by simp [swapL]

/-- Sifting up, as the loop does it. -/
def upF : Nat → List (Nat × Nat) → Nat → List (Nat × Nat)
  | 0, L, _ => L
  | f + 1, L, i => if i = 0 then L else if bef (L.getD i dI) (L.getD ((i - 1) / 2) dI) then upF f (swapL L i ((i - 1) / 2)) ((i - 1) / 2) else L
def pushL (L : List (Nat × Nat)) (x : Nat × Nat) : List (Nat × Nat) := upF (L.length + 1) (L ++ [x]) L.length

theorem upF_length : ∀ f L i, (upF f L i).length = L.length
  | 0, _, _ => rfl
  | f + 1, L, i => by
    unfold upF
    split
    · rfl
    · split
      · rw [upF_length, swapL_length]
      · rfl
theorem pushL_length (L : List (Nat × Nat)) (x : Nat × Nat) : (pushL L x).length = L.length + 1 := by simp [pushL, upF_length]

/-- The six stores of an exchange. -/
theorem owns_swap {w : World} {B g n cap : Nat} {L : List (Nat × Nat)} {i p : Nat} (h : w.ownsRow B 47 3 (.slice (some ⟨g, 0, none⟩) n cap) n (ics L)) :
    ((((((w.setCell ⟨g, i * 3, none⟩ (.float .f64 (L.getD p dI).1)).setCell ⟨g, i * 3 + 1, none⟩ (.int .u64 ((L.getD p dI).2 : Nat))).setCell ⟨g, i * 3 + 2, none⟩ (.int .i64 ((L.getD p dI).2 : Nat))).setCell ⟨g, p * 3, none⟩ (.float .f64 (L.getD i dI).1)).setCell ⟨g, p * 3 + 1, none⟩ (.int .u64 ((L.getD i dI).2 : Nat))).setCell ⟨g, p * 3 + 2, none⟩ (.int .i64 ((L.getD i dI).2 : Nat))).ownsRow B 47 3 (.slice (some ⟨g, 0, none⟩) n cap) n (ics (swapL L i p)) := by
  have h6 := (((((((h.stored (i * 3) (.float .f64 (L.getD p dI).1)).1).stored (i * 3 + 1) (.int .u64 ((L.getD p dI).2 : Nat))).1).stored (i * 3 + 2) (.int .i64 ((L.getD p dI).2 : Nat))).1.stored (p * 3) (.float .f64 (L.getD i dI).1)).1.stored (p * 3 + 1) (.int .u64 ((L.getD i dI).2 : Nat))).1.stored (p * 3 + 2) (.int .i64 ((L.getD i dI).2 : Nat))
  have := h6.1
  rw [ics_set, ics_set] at this
  exact this

theorem Yba.info47 : (Yba.prog.info? 47).map (fun i => (i.zero, i.size, i.bytes)) = some (some (.agg #[.float .f64 0, .int .u64 0, .int .i64 0]), 3, 24) := by kernel_rfl
theorem Yba.info27 : (Yba.prog.info? 27).map (fun i => (i.zero, i.size, i.bytes)) = some (some (.float .f64 0), 1, 8) := by kernel_rfl
theorem Yba.info3 : (Yba.prog.info? 3).map (fun i => (i.zero, i.size, i.bytes)) = some (some (.int .i64 0), 1, 8) := by kernel_rfl

theorem three_new (w : World) (x : Nat × Nat) (t : TypeId) : ∀ j u, (ic x)[j]? = some u → (w.alloc (.cells #[.float .f64 x.1, .int .u64 (x.2 : Nat), .int .i64 (x.2 : Nat)] t)).cell? ((⟨w.heap.size, 0, none⟩ : Addr).add j) = some u := by
  intro j u hj
  rw [Go.WideShapes.add_plain, World.cell?_alloc_new]
  simpa [ic] using hj

/-- A block of another element type is not the row's. -/
theorem owns_ne {w : World} {B : Nat} {e : TypeId} {size : Nat} {v : Value} {n : Nat} {xs : List Value} {b tb : Nat} {C : Array Value} (h : w.ownsRow B e size v n xs) (hb : w.heap[b]? = some (.cells C tb (0, 0))) (hne : tb ≠ e) : v.ownBlock ≠ some b := by
  intro e1
  rcases h.2 with ⟨rfl, _⟩ | ⟨g, cap, cur, rfl, _, hg, _⟩
  · simp [Value.ownBlock] at e1
  · simp only [Value.ownBlock, Option.some.injEq] at e1
    rw [e1, hb] at hg
    simp at hg
    exact hne hg.2

theorem owns_setOther {w : World} {B : Nat} {e : TypeId} {size : Nat} {v : Value} {n : Nat} {xs : List Value} (h : w.ownsRow B e size v n xs) {a : Addr} (ha : v.ownBlock ≠ some a.block) (u : Value) : (w.setCell a u).ownsRow B e size v n xs := by
  refine ⟨h.1, h.2.imp id ?_⟩
  rintro ⟨g, cap, cur, rfl, hg, hh, r⟩
  refine ⟨g, cap, cur, rfl, hg, ?_, r⟩
  rw [Below.heap_setCell _ _ _ _ (fun e => ha (by simp [Value.ownBlock, e]))]
  exact hh

theorem item_cells {w : World} {B g n cap : Nat} {L : List (Nat × Nat)} (h : w.ownsRow B 47 3 (.slice (some ⟨g, 0, none⟩) n cap) n (ics L)) {j : Nat} (hn : L.length = n) (hj : j < L.length) :
    w.cell? ⟨g, j * 3, none⟩ = some (.float .f64 (L.getD j dI).1) ∧ w.cell? ⟨g, j * 3 + 1, none⟩ = some (.int .u64 ((L.getD j dI).2 : Nat)) ∧ w.cell? ⟨g, j * 3 + 2, none⟩ = some (.int .i64 ((L.getD j dI).2 : Nat)) := by
  have := ics_at L j hj
  refine ⟨?_, ?_, ?_⟩ <;> rw [h.cellAt _ (by omega)]
  · exact this.1
  · exact this.2.1
  · exact this.2.2

theorem before_at {w : World} {B g n cap : Nat} {L : List (Nat × Nat)} (h : w.ownsRow B 47 3 (.slice (some ⟨g, 0, none⟩) n cap) n (ics L)) {i j : Nat} (hn : L.length = n) (hi : i < L.length) (hj : j < L.length) (hs : ∀ x ∈ L, x.2 ≤ 1000) :
    ∀ q, Calls Yba.prog 17 #[.pointer (some ⟨g, i * 3, none⟩), .pointer (some ⟨g, j * 3, none⟩)] (w.drewN q) fun e w' => e = .returned (.bool (bef (L.getD i dI) (L.getD j dI))) ∧ ∃ m, w' = (w.drewN q).drewN m := by
  intro q
  obtain ⟨a0, a1, a2⟩ := item_cells h hn hi
  obtain ⟨b0, b1, b2⟩ := item_cells h hn hj
  have mem : ∀ k, k < L.length → (L.getD k dI).2 ≤ 1000 := fun k hk => hs _ (by simp [List.getD, hk])
  have m1 := mem i hi
  have m2 := mem j hj
  exact before_any g _ g _ _ _ _ (by omega) (by omega) a0 a1 b0 b1

theorem mem_swapL {L : List (Nat × Nat)} {i p : Nat} (hi : i < L.length) (hp : p < L.length) {y : Nat × Nat} (h : y ∈ swapL L i p) : y ∈ L := by
  unfold swapL at h
  rcases List.mem_or_eq_of_mem_set h with h | rfl
  · rcases List.mem_or_eq_of_mem_set h with h | rfl
    · exact h
    · simp [List.getD, hp]
  · simp [List.getD, hi]

theorem upF_step {gk : Nat} {L' R : List (Nat × Nat)} {i' : Nat} (h : upF gk L' (i' + 1) = R) (hg : i' + 1 < gk) (hb : bef (L'.getD (i' + 1) dI) (L'.getD (i' / 2) dI) = true) : upF (gk - 1) (swapL L' (i' + 1) (i' / 2)) (i' / 2) = R := by
  obtain ⟨f, rfl⟩ : ∃ f, gk = f + 1 := ⟨gk - 1, by omega⟩
  unfold upF at h
  rw [if_neg (by omega), show (i' + 1 - 1) / 2 = i' / 2 by omega, if_pos hb] at h
  exact h

theorem upF_stop {gk : Nat} {L' R : List (Nat × Nat)} {i' : Nat} (h : upF gk L' (i' + 1) = R) (hg : i' + 1 < gk) (hb : bef (L'.getD (i' + 1) dI) (L'.getD (i' / 2) dI) = false) : L' = R := by
  obtain ⟨f, rfl⟩ : ∃ f, gk = f + 1 := ⟨gk - 1, by omega⟩
  unfold upF at h
  rw [if_neg (by omega), show (i' + 1 - 1) / 2 = i' / 2 by omega, if_neg (by rw [hb]; decide)] at h
  exact h

theorem upF_stop0 {gk : Nat} {L' R : List (Nat × Nat)} (h : upF gk L' 0 = R) (hg : 0 < gk) : L' = R := by
  obtain ⟨f, rfl⟩ : ∃ f, gk = f + 1 := ⟨gk - 1, by omega⟩
  unfold upF at h
  rw [if_pos rfl] at h
  exact h

theorem swap_other {w : World} {g k : Nat} {o1 o2 o3 o4 o5 o6 : Nat} {v1 v2 v3 v4 v5 v6 : Value} (h : k ≠ g) :
    ((((((w.setCell ⟨g, o1, none⟩ v1).setCell ⟨g, o2, none⟩ v2).setCell ⟨g, o3, none⟩ v3).setCell ⟨g, o4, none⟩ v4).setCell ⟨g, o5, none⟩ v5).setCell ⟨g, o6, none⟩ v6).heap[k]? = w.heap[k]? := by
  rw [Below.heap_setCell _ _ _ _ h, Below.heap_setCell _ _ _ _ h, Below.heap_setCell _ _ _ _ h, Below.heap_setCell _ _ _ _ h, Below.heap_setCell _ _ _ _ h, Below.heap_setCell _ _ _ _ h]

theorem fr_swap {a w : World} {S : Nat → Prop} {g : Nat} {o1 o2 o3 o4 o5 o6 : Nat} {v1 v2 v3 v4 v5 v6 : Value} (h : Fr a w S) (hS : g < a.heap.size → S g) :
    Fr a ((((((w.setCell ⟨g, o1, none⟩ v1).setCell ⟨g, o2, none⟩ v2).setCell ⟨g, o3, none⟩ v3).setCell ⟨g, o4, none⟩ v4).setCell ⟨g, o5, none⟩ v5).setCell ⟨g, o6, none⟩ v6) S :=
  (((((h.setCell _ v1 hS).setCell _ v2 hS).setCell _ v3 hS).setCell _ v4 hS).setCell _ v5 hS).setCell _ v6 hS

theorem drewN_heap (w : World) (n k : Nat) : (w.drewN n).heap[k]? = w.heap[k]? := rfl

theorem hid_swap {w : World} {g k n : Nat} {X : Option Obj} {o1 o2 o3 o4 o5 o6 : Nat} {v1 v2 v3 v4 v5 v6 : Value} (h : k ≠ g) (hb : Hid (w.heap[k]? = X)) :
    Hid ((((((((w.drewN n).setCell ⟨g, o1, none⟩ v1).setCell ⟨g, o2, none⟩ v2).setCell ⟨g, o3, none⟩ v3).setCell ⟨g, o4, none⟩ v4).setCell ⟨g, o5, none⟩ v5).setCell ⟨g, o6, none⟩ v6).heap[k]? = X) := by
  refine Lib.hid ?_
  rw [swap_other h, drewN_heap]
  exact hb.out

theorem owns_drewN {w : World} {B : Nat} {e : TypeId} {size : Nat} {v : Value} {n : Nat} {xs : List Value} (h : w.ownsRow B e size v n xs) (q : Nat) : (w.drewN q).ownsRow B e size v n xs := h

theorem run_store_float {P : Program} (w : World) (a : Addr) (m : Mode) (k : FloatKind) (b : Nat) : (store a (.float k b) m).run P w = stored P w a (.float k b) m := run_store P w a _ m rfl
attribute [local go_sem] run_store_float

set_option maxHeartbeats 1000000 in
set_option maxRecDepth 10000 in
theorem push_any (B b o tb : Nat) (C : Array Value) (w : World) (v : Value) (L : List (Nat × Nat)) (x : Nat × Nat) (hblk : w.heap[b]? = some (.cells C tb (0, 0))) (hC : C[o]? = some v) (htb : tb ≠ 47)
    (hown : w.ownsRow B 47 3 v L.length (ics L)) (hB : B ≤ w.heap.size) (hL : L.length ≤ 1000) (hx : x.2 ≤ 1000) (hLs : ∀ y ∈ L, y.2 ≤ 1000) :
    Calls Yba.prog 20 #[.pointer (some ⟨b, o, none⟩), .float .f64 x.1, .int .u64 (x.2 : Nat), .int .i64 (x.2 : Nat)] w fun e w' => e = .returned (.tuple #[]) ∧
      ∃ v', w'.heap[b]? = some (.cells (C.setIfInBounds o v') tb (0, 0)) ∧ w'.ownsRow B 47 3 v' (L.length + 1) (ics (pushL L x)) ∧ SameOrNew w v v' ∧ Fr w w' (fun k => k = b ∨ v.ownBlock = some k) := by
  obtain ⟨i0, hi0, hz0, hz1, hz2⟩ := info_parts Yba.info47
  have hc0 : w.cell? ⟨b, o, none⟩ = some v := by rw [cell_of_row w b o C tb (0, 0) hblk, hC]
  have hf0 : w.frozen? ⟨b, o, none⟩ = false := frozen_of_row w b o C tb hblk
  have hlt := heap_lt hblk
  go_enter Yba.func20, Yba.ntmps20
  go_wp2_with (at_builtin; refine wpList_app _ rfl _ _ 30 rfl B 47 i0 _ 3 24 Yba.underlying30 hi0 hz0 hz1 hz2 rfl _ _ _ rfl (hown.alloc _) ⟨w.heap.size, 0, none⟩ 1 1 (ic x) rfl rfl (by decide) (three_new w x 47) (by intro u hu; exact ics_one [x] u (by simpa [ics] using hu)) (by omega) (by decide) (by simp; omega) ?_)
  intro v1 w1 how1 hsn hg1
  have hbv : v.ownBlock ≠ some b := owns_ne hown hblk htb
  have hb1 : w1.heap[b]? = some (.cells C tb (0, 0)) := by
    rw [hg1.block b (by simp; omega) (fun h => hbv h.symm), Below.heap_alloc _ _ _ hlt]; exact hblk
  obtain ⟨g, cap, rfl⟩ : ∃ g cap, v1 = .slice (some ⟨g, 0, none⟩) (L.length + 1) cap := by
    rcases how1.2 with ⟨-, h⟩ | ⟨g, cap, cur, h, -⟩
    · omega
    · exact ⟨g, cap, h⟩
  have hS : ∀ k, k < w.heap.size → k = g → k = b ∨ v.ownBlock = some k := by
    rintro k hk rfl
    rcases hsn with h | ⟨g', h, hge⟩
    · exact .inr (by rw [← h]; rfl)
    · have : k = g' := by simpa [Value.ownBlock] using h
      simp at hge; omega
  have hne : g ≠ b := fun e => owns_ne how1 hb1 htb (by simp [Value.ownBlock, e])
  have fr1 : Fr w w1 (fun k => k = b ∨ v.ownBlock = some k) := ((Fr.refl w _).alloc _).grown hg1 (fun k _ h => .inr h)
  have hc1 : w1.cell? ⟨b, o, none⟩ = some v := by rw [cell_of_row w1 b o C tb (0, 0) hb1, hC]
  have hf1 : w1.frozen? ⟨b, o, none⟩ = false := frozen_of_row w1 b o C tb hb1
  have ho2 := owns_setOther how1 (a := ⟨b, o, none⟩) (fun e => hne (by simpa [Value.ownBlock] using e)) (.slice (some ⟨g, 0, none⟩) (L.length + 1) cap)
  have hb2 := heap_setCell_same w1 b o C tb (.slice (some ⟨g, 0, none⟩) (L.length + 1) cap) hb1
  have fr2 := fr1.setCell ⟨b, o, none⟩ (.slice (some ⟨g, 0, none⟩) (L.length + 1) cap) (fun _ => .inl rfl)
  have e0 : ics L ++ ic x = ics (L ++ [x]) := by rw [ics_append]; simp [ics]
  rw [e0] at ho2
  have HB2 := Lib.hid hb2
  have hsn' : SameOrNew w v (.slice (some ⟨g, 0, none⟩) (L.length + 1) cap) := by
    rcases hsn with h | ⟨g', h, hge⟩
    · exact .inl h
    · exact .inr ⟨g', h, by simp at hge; omega⟩
  have HSN := Lib.hid hsn'
  clear how1 hg1 hsn hb1 hblk hown hb2 hsn'
  go_wp2_with fail
  go_loopg [9] (L.length + 1) (fun gk iv wr => ∃ (L' : List (Nat × Nat)) (i : Nat), iv = .int .i64 i ∧ L'.length = L.length + 1 ∧ i < L'.length ∧ i < gk ∧ Hid (∀ y ∈ L', y.2 ≤ 1000) ∧ Hid (upF gk L' i = pushL L x) ∧ wr.ownsRow B 47 3 (.slice (some ⟨g, 0, none⟩) (L.length + 1) cap) (L.length + 1) (ics L') ∧ Hid (wr.heap[b]? = some (.cells (C.setIfInBounds o (.slice (some ⟨g, 0, none⟩) (L.length + 1) cap)) tb (0, 0))) ∧ Fr w wr (fun k => k = b ∨ v.ownBlock = some k))
  case atStart => exact ⟨L ++ [x], L.length, rfl, by simp, by simp, by omega, (by intro y hy; rcases List.mem_append.1 hy with h | h; exact hLs y h; simp at h; subst h; exact hx), rfl, ho2, HB2.out, fr2⟩
  case round =>
    obtain ⟨L', i, rfl, hL', hi, hgk, hsm, hup, ho, hbk, hfr⟩ := hrel
    by_cases hi0 : i = 0
    · subst hi0
      go_wp2_with fail
      go_end0
      exact ⟨rfl, _, hbk.out, by rw [← upF_stop0 hup.out hgk]; exact ho, HSN.out, hfr⟩
    · obtain ⟨i', rfl⟩ : ∃ i', i = i' + 1 := ⟨i - 1, by omega⟩
      have hp : i' / 2 < L'.length := by omega
      have hBC := before_at ho hL' hi hp hsm.out
      cases hbf : bef (L'.getD (i' + 1) dI) (L'.getD (i' / 2) dI) with
      | false =>
        rw [hbf] at hBC
        have HBC := Lib.hid hBC
        have HBF := Lib.hid hbf
        clear hBC hbf
        go_wp2_with fail
        go_quiet ((go_at_call 17; exact Calls.quiet_of (HBC.out _)))
        go_wp2_with fail
        go_end0
        exact ⟨rfl, _, hbk.out, by rw [← upF_stop hup.out hgk HBF.out]; exact ho, HSN.out, hfr.drewN _⟩
      | true =>
        rw [hbf] at hBC
        have HBC := Lib.hid hBC
        have HBF := Lib.hid hbf
        clear hBC hbf
        go_wp2_with fail
        go_quiet ((go_at_call 17; exact Calls.quiet_of (HBC.out _)))
        obtain ⟨X, hX⟩ : ∃ X, X = L'.getD (i' + 1) dI := ⟨_, rfl⟩
        obtain ⟨Y, hY⟩ : ∃ Y, Y = L'.getD (i' / 2) dI := ⟨_, rfl⟩
        obtain ⟨a0, a1, a2⟩ := item_cells ho hL' hi
        obtain ⟨b0, b1, b2⟩ := item_cells ho hL' hp
        have hsw := fun q => owns_swap (i := i' + 1) (p := i' / 2) (owns_drewN ho q)
        rw [← hX] at a0 a1 a2
        rw [← hY] at b0 b1 b2
        simp only [← hX, ← hY] at hsw
        have hfz : ∀ j, wr.frozen? ⟨g, j, none⟩ = false := fun j => ho.frozenAt j
        have HSW := Lib.hid hsw
        have HX := Lib.hid hX
        have HY := Lib.hid hY
        clear hsw hX hY
        go_wp2_with fail
        go_region
        go_wp2_with fail
        go_roundg (gk - 1)
        case measure => omega
        case rel =>
          refine ⟨swapL L' (i' + 1) (i' / 2), i' / 2, by go_num, by rw [swapL_length]; exact hL', by rw [swapL_length]; exact hp, by omega, ?_, ?_, HSW.out _, ?_, ?_⟩
          · exact fun y hy => hsm.out y (mem_swapL hi hp hy)
          · exact upF_step hup.out hgk HBF.out
          · exact hid_swap (fun e => hne e.symm) hbk
          · exact fr_swap (hfr.drewN _) (fun hk => hS g hk rfl)

end Go.Proofs.Ybulkcnam
