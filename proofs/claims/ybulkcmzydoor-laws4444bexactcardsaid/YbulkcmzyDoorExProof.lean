/-
  THE ROW AND THE TIED CARD of tsf.LawS4444BExact.
-/
import Derived.Test.YbulkcmzyDoorExWalk
import Derived.Test.YbulkcmzyDoorTie
import Derived.Test.YbulkcmzyDoorCards
import Derived.ProofKit
import Derived.LaidMore
import Derived.OpenShut
import Derived.Stop.Joined
import Derived.Deep.Slices
namespace Go.Proofs.YbulkcmzyDoor
open Go.ChangeShapes Go.WideShapes Go.ChangeAt Go.WideMaps Go.WideElems Go.RowKit Go.Deep

theorem ownX : ownKnob Ybad.prog.godebug = none := by kernel_rfl
theorem laidOutX : laidOutB Ybad.prog = true := by kernel_rfl

/-- What the row lists. -/
def laidX : List (String × DataW Unit) := Rows.lawS4444BExactRow.laid

set_option maxRecDepth 100000 in
/-- The door's own heap meets the condition. -/
theorem doorX_met (os : Os) (args : Array Value) : laidMetH Ybad.prog laidX ((World.doorLaid Ybad.prog 34 os).forCall (fun _ _ => 0) ⟨#[], args, []⟩).memory :=
  laidMetH_of_parts3 (fuel := 8) (laidMet_of_run' 8 (by kernel_rfl) (by kernel_rfl)) (by kernel_rfl) (by kernel_rfl)

set_option maxRecDepth 100000 in
/-- The table of powers of ten, out of what the row lists. -/
theorem tab_of_laid {W : World} (h : laidMetH Ybad.prog laidX W) : Lib.TabIs Ybad.prog W powName .u64 Lib.pow10Tab := by
  rw [MakeChecks.laidMetH_plain _ _ _ (by kernel_rfl)] at h
  obtain ⟨ps, ⟨g0, t0, cs0, f0, p0, q0, hg0, ht0, hv0, hd0, ⟨g1, t1, cs1, f1, p1, q1, hg1, ht1, hv1, hd1, ⟨g2, t2, cs2, f2, p2, q2, hg2, ht2, hv2, hd2, _, _⟩, _⟩, _⟩, _, _⟩ := h
  have e2 : (Ybad.prog.globalNamed powName).isSome = true := by kernel_rfl
  obtain ⟨g, hg⟩ := Option.isSome_iff_exists.1 e2
  have hgg : g2 = g := Option.some.inj (hg2.symm.trans hg)
  subst hgg
  have hty : ((Ybad.prog.globalNamed powName).bind fun g => (Ybad.prog.globals[g]?).map (·.type)) = some 99 := by kernel_rfl
  rw [hg] at hty
  have ht : t2 = 99 := Option.some.inj (ht2.symm.trans hty)
  subst ht
  have hdat : (Rows.laid_internal_strconv_uint64pow10 : DataW Unit) = Lib.tabData .u64 Lib.pow10Tab := by kernel_rfl
  rw [hdat] at hd2
  refine (show W.var? Ybad.prog powName = some cs2 from hv2).trans ?_
  rw [← Lib.cells_of_tab Ybad.underlying99 Ybad.underlying76 (by kernel_rfl) (by kernel_rfl) hd2]

theorem i64_bounds {n : Int} (h : (Lit.int .i64 n).wf = true) : -9223372036854775808 ≤ n ∧ n ≤ 9223372036854775807 := bounds_i64 h
theorem u8_bounds {n : Int} (h : (Lit.int .u8 n).wf = true) : 0 ≤ n ∧ n ≤ 255 := bounds_u8 h

/-- The prefix, opened. -/
theorem pre_of {w : World} {a : Option Addr} {len cap : Nat} {zs : List Int} (h : (a = none ∧ len = 0 ∧ cap = 0) ∨ ∃ x, a = some x ∧ len ≤ zs.length ∧ (∀ i, i < zs.length → w.cell? (x.add i) = some (.int .u8 (zs.getD i 0))) ∧ ∀ n ∈ zs, (Lit.int .u8 n).wf = true) :
    ∃ pl, Pre w a len cap pl := by
  rcases h with ⟨rfl, rfl, rfl⟩ | ⟨x, rfl, hl, hc, hw⟩
  · exact ⟨[], rfl, .inl ⟨rfl, rfl, rfl⟩⟩
  · refine ⟨(zs.take len).map fun z => UInt8.ofNat z.toNat, by simp; omega, .inr ⟨x, rfl, fun j u hj => ?_⟩⟩
    have hj1 : j < len := by
      have := (List.getElem?_eq_some_iff.1 hj).1
      simp [bc] at this
      omega
    have hj2 : j < zs.length := by omega
    have hb := u8_bounds (hw zs[j] (List.getElem_mem _))
    rw [hc j hj2]
    simp [bc, hj1, hj2, List.getD] at hj ⊢
    rw [← hj]
    congr 1
    omega

set_option maxRecDepth 100000 in
/-- The steps, opened. -/
theorem steps_of {H : Type} {enc : TypeId × Value → H} {w : World} {spare : Nat → Bool} {fuel : Nat} {a : Option Addr} {len cap : Nat} {x : DataW H × List MemPlace} (hlt : ∀ y ∈ x.2, y.block < w.heap.size)
    (h : DataW.trod enc Ybad.prog w 0 spare true fuel 23 [.slice a len cap] = some x) : len ≤ maxLen ∧ ∃ st, Steps w a len st := by
  rcases open_slice Ybad.underlying23 h with ⟨hcs, -⟩ | ⟨ad, l, c, m, n, D, Pl, hcs, -, hl, hm, hmm, rfl, hx⟩
  · simp at hcs
    obtain ⟨rfl, rfl, rfl⟩ := hcs
    exact ⟨Nat.zero_le _, [], rfl, fun h => absurd h (Nat.lt_irrefl _), fun _ h => by cases h⟩
  · simp at hcs
    obtain ⟨rfl, rfl, rfl⟩ := hcs
    have hlm : len ≤ m := by rw [hmm]; split <;> omega
    have ce : Ybad.prog.cellsOf 25 = 3 := by kernel_rfl
    have c9 : Ybad.prog.cellsOf 9 = 1 := by kernel_rfl
    have c3 : Ybad.prog.cellsOf 3 = 1 := by kernel_rfl
    have c4 : Ybad.prog.cellsOf 4 = 1 := by kernel_rfl
    have each : ∀ i, i < len → ∃ q : ByteArray × Int × Bool, w.cell? (ad.add (i * 3)) = some (.string q.1) ∧ w.cell? (ad.add (i * 3 + 1)) = some (.int .i64 q.2.1) ∧ w.cell? (ad.add (i * 3 + 2)) = some (.bool q.2.2) ∧
        q.1.size ≤ maxLen ∧ (Lit.int .i64 q.2.1).wf = true := by
      intro i hi
      obtain ⟨cs', h1, h2⟩ := hx i (by omega)
      rw [ce] at h1
      obtain ⟨_, hlen, hcell⟩ := World.cells?_some h1
      obtain ⟨xs, k, hk, hxy, _, hxl, hf⟩ := DataW.trod_struct Ybad.underlying25 h2
      match xs, hxl, cs', hlen with
      | [y0, y1, y2], _, [v0, v1, v2], _ =>
        have g0 := hf 0 _ rfl
        have g1 := hf 1 _ rfl
        have g2 := hf 2 _ rfl
        simp [c9, c3, c4] at g0 g1 g2
        obtain ⟨s, es, -, ws⟩ := DataW.trod_string Ybad.underlying9 g0
        obtain ⟨e, ee, -, we⟩ := DataW.trod_int Ybad.underlying3 g1
        obtain ⟨b, eb, -⟩ := DataW.trod_bool Ybad.underlying4 g2
        simp at es ee eb
        subst es ee eb
        have e0 := hcell 0 (by omega)
        have e1 := hcell 1 (by omega)
        have e2 := hcell 2 (by omega)
        rw [add_add] at e0 e1 e2
        exact ⟨(s, e, b), by simpa using e0, by simpa using e1, by simpa using e2, ws, we⟩
    obtain ⟨q, hq⟩ := choose_lt each
    refine ⟨by omega, (List.range len).map q, by simp, fun hp => ?_, fun y hy => ?_⟩
    · obtain ⟨b, off, spot⟩ := ad
      have h0 := (hq 0 hp).1
      have hspot : spot = none := by simpa [Addr.add] using World.cell?_spot h0
      subst hspot
      refine ⟨b, off, rfl, World.block_lt_of_cell? _ _ h0, fun j hj => ?_⟩
      have hj := hq j hj
      rw [add_plain, add_plain, add_plain] at hj
      have eg : ((List.range len).map q).getD j stD = q j := by simp [List.getD, *]
      rw [eg]
      exact ⟨hj.1, hj.2.1, hj.2.2.1⟩
    · simp only [List.mem_map, List.mem_range] at hy
      obtain ⟨i, hi, rfl⟩ := hy
      have hj := hq i hi
      have := i64_bounds hj.2.2.2.2
      exact ⟨hj.2.2.2.1, this.1, this.2⟩

set_option maxRecDepth 100000 in
theorem ex_lifted (os : Os) (started : os.Started) (H : Type) (enc : TypeId × Value → H) :
    ReturnsInHanded {} Ybad.checked os 3 .any (fun w args => (Rows.lawS4444BExactSpec.pre enc Ybad.prog Ybad.f3 [] false w args ∧ laidMetH Ybad.prog laidX w) ∧ sizedMet enc Ybad.prog Ybad.f3 (OpenSpec.ofChange Rows.lawS4444BExactSpec) false w args)
      (Rows.lawS4444BExactSpec.post enc Ybad.prog Ybad.f3 false true false false) := by
  refine returnsInHanded_of_change_and (C := Ybad.checked) (X := fun w _ => laidMetH Ybad.prog laidX w) (fun _ _ _ hh h => h.of_heap hh) ownX started (by kernel_rfl) Ybad.func3
    (ChangeSpec.witness_shaped (enc := enc) (C := Ybad.checked) (os := os) (X := fun w _ => laidMetH Ybad.prog laidX w) false (World.doorLaid Ybad.prog 34 os) #[.slice none 0 0, .slice none 0 0] 8 rfl (World.shaped_of_RefB (by kernel_rfl) (by kernel_rfl)) (by kernel_rfl) (by kernel_rfl) (by kernel_rfl) (doorX_met os _)) ?_
  intro W base args ds gs before hval0 hW _ _ hL _
  have hval : ∀ (j : Nat) t v, Ybad.f3.params[j]? = some t → args[j]? = some v → Value.okWide Ybad.prog W .any base t v := hval0
  have hW' := hW
  obtain ⟨p, q, hA0, hV, rfl, hfz, hnd⟩ := hW
  have hA : DataW.TrodAll enc Ybad.prog W 0 (fun _ => true) true Ybad.f3.params.toList args.toList ds p := hA0
  rw [Ybad.params3] at hA hval
  obtain ⟨v0, v1, d0, d1, p0, p1, rfl, rfl, rfl, h0, h1⟩ := trodAll_two hA
  obtain ⟨rfl, rfl⟩ := trodVars_none hV
  obtain ⟨a0, len0, cap0, rfl⟩ := okWide_slice Ybad.underlying22 (hval 0 22 v0 rfl rfl)
  obtain ⟨a1, len1, cap1, rfl⟩ := okWide_slice Ybad.underlying23 (hval 1 23 v1 rfl rfl)
  have k0 := h0
  have k1 := h1
  have lt0 : ∀ x ∈ p0, x.block < W.heap.size := by obtain ⟨m, hm⟩ := k0; exact DataW.trod_lt m _ _ _ hm
  have lt1 : ∀ x ∈ p1, x.block < W.heap.size := by obtain ⟨m, hm⟩ := k1; exact DataW.trod_lt m _ _ _ hm
  obtain ⟨hlen0, pl, hP⟩ : len0 ≤ maxLen ∧ ∃ pl, Pre W a0 len0 cap0 pl := by
    obtain ⟨fuel, hf⟩ := h0
    rcases open_ints Ybad.underlying22 Ybad.underlying5 (by kernel_rfl) hf with ⟨hcs, _⟩ | ⟨x, l, c, zs, hcs, _, hl, hm, hz, _, hcell, hwz⟩
    · simp [Value.cells] at hcs
      obtain ⟨rfl, rfl, rfl⟩ := hcs
      exact ⟨Nat.zero_le _, pre_of (zs := []) (.inl ⟨rfl, rfl, rfl⟩)⟩
    · simp [Value.cells] at hcs
      obtain ⟨rfl, rfl, rfl⟩ := hcs
      simp at hz
      exact ⟨by omega, pre_of (.inr ⟨_, rfl, by omega, hcell, hwz⟩)⟩
  obtain ⟨hlen1, st, hS⟩ : len1 ≤ maxLen ∧ ∃ st, Steps W a1 len1 st := by
    obtain ⟨fuel, hf⟩ := h1
    exact steps_of lt1 (by simpa [Value.cells] using hf)
  clear hA0 hval0
  refine (ex_walk a0 len0 cap0 pl a1 len1 cap1 st W hP hS (tab_of_laid hL) hlen0 hlen1).mono fun e W' ⟨he, bel⟩ => ?_
  subst he
  exact ⟨_, rfl, _, _, _, [], _, [], hW', trodAll_mk1 (shut_bool Ybad.underlying4 _), trodAll_mk2 (Below.trod laidOutX (by kernel_rfl) (of_decide_eq_true (by kernel_rfl)) k0 bel lt0) (Below.trod laidOutX (by kernel_rfl) (of_decide_eq_true (by kernel_rfl)) k1 bel lt1), rfl, bel.frame _, fun h => by cases h⟩

theorem ex_over : Rows.LawS4444BExactSaid :=
  OpenClaim.holds_of_wide 3 Ybad.f3 rfl rfl rfl rfl rfl rfl rfl ⟨rfl, rfl, rfl, rfl, rfl⟩ rfl rfl rfl rfl rfl (by kernel_rfl) Ybad.func3 (by kernel_rfl)
    (of_decide_eq_true (by kernel_rfl)) (by unfold Func.isWrapper; first | (rw [if_pos (by decide +kernel)]; kernel_rfl) | (rw [if_neg (by decide +kernel)]; exact ⟨rfl, rfl⟩))
    (fun os started H enc _ => ex_lifted os started H enc)

/-- THE TIED CARD. -/
theorem ex_card : Rows.LawS4444BExactCardSaid :=
  Claim7.holds_tied_plain_at .later [] [.data, .data, .data] true (true, "249f0d11ec510d9e70e0818ae3e474068be28c7e158274ca1861cb0ef380243e") false
    ex_over (fun _ h => by cases h) (by kernel_rfl) (fun _ h => by cases h) lawS4444BExact_row_tie rfl ⟨rfl, rfl⟩ (by kernel_rfl) rfl
    (fun f fn hf hfn => by
      obtain rfl : f = 3 := Option.some.inj ((show Ybad.prog.funcNamed Rows.lawS4444BExactRow.func = some 3 by kernel_rfl).symm.trans hf) |>.symm
      obtain rfl : fn = Ybad.f3 := (Option.some.inj (Ybad.func3.symm.trans hfn)).symm
      exact ⟨by kernel_rfl, fun j t ht => by
        rw [Ybad.params3] at ht
        have hm : t ∈ [22, 23] := by simpa using Array.mem_of_getElem? ht
        have hall : ([22, 23].all fun u => !Ybad.prog.wantsStandIn u) = true := by kernel_rfl
        exact (show Ybad.prog.wantsStandIn t = false by simpa using List.all_eq_true.1 hall t hm)⟩)
    (by kernel_rfl)
end Go.Proofs.YbulkcmzyDoor
