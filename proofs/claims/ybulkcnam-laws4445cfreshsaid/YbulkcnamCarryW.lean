import Derived.Test.YbulkcnamCarry
namespace Go.Proofs.Ybulkcnam
open Go.RowKit
attribute [local go_sem] run_store_float

theorem fcell {w : World} {g n : Nat} {ws : List Nat} (h : w.ownsRow 0 27 1 (.slice (some ⟨g, 0, none⟩) n n) n (fcs ws)) (hl : ws.length = n) : ∀ j, j < n → w.cell? ⟨g, j, none⟩ = some (.float .f64 (ws.getD j 0)) := by
  intro j hj
  rw [h.cellAt j (by omega)]
  simp [fcs, List.getD, hl, hj]
theorem icell {w : World} {g n : Nat} {ws : List Nat} (h : w.ownsRow 0 3 1 (.slice (some ⟨g, 0, none⟩) n n) n (ivs ws)) (hl : ws.length = n) : ∀ j, j < n → w.cell? ⟨g, j, none⟩ = some (.int .i64 ((ws.getD j 0 : Nat) : Int)) := by
  intro j hj
  rw [h.cellAt j (by omega)]
  exact ivs_at (by omega)
theorem notAt {S : Nat → Prop} {g n c : Nat} (h : ¬ S g) : ∀ j, (Value.slice (some ⟨g, 0, none⟩) n c).ownBlock = some j → ¬ S j := notF_of h
theorem Ord.keep {w w' : World} {F S : Nat → Prop} {ob : Nat} {sh pk : List Nat} {picks slack : Nat} {wt du : List (Nat × Nat)} (h : Ord w F ob sh pk picks slack wt du) (hf : Fr w w' S) (hS : ∀ k, F k → ¬ S k) : Ord w' F ob sh pk picks slack wt du := by
  obtain ⟨_, _, _, _, h⟩ := h
  exact ⟨_, _, _, _, h.keep hf hS⟩
theorem Ord.lt {w : World} {F : Nat → Prop} {ob : Nat} {sh pk : List Nat} {picks slack : Nat} {wt du : List (Nat × Nat)} (h : Ord w F ob sh pk picks slack wt du) : ∀ k, F k → k < w.heap.size := by
  obtain ⟨_, _, _, _, h⟩ := h
  exact h.lt

/-- The state while it is picked: the order, what was counted, the second weights. -/
def Run (w wx : World) (ob gc g2 n : Nat) (SH ws2 : List Nat) (SL k : Nat) : Prop :=
  ∃ (cn : List Nat) (wt du : List (Nat × Nat)) (F : Nat → Prop), Ord wx F ob SH (cn.map Fl.fi) (Fl.fi k) SL wt du ∧ Once wt du n ∧ cn.length = n ∧ (∀ c ∈ cn, c ≤ k) ∧
    wx.ownsRow 0 3 1 (.slice (some ⟨gc, 0, none⟩) n n) n (ivs cn) ∧ wx.ownsRow 0 27 1 (.slice (some ⟨g2, 0, none⟩) n n) n (fcs ws2) ∧ Below w.heap.size w wx ∧ ∀ k, F k → w.heap.size ≤ k ∧ k ≠ g2 ∧ k ≠ gc

set_option maxHeartbeats 1000000 in
set_option maxRecDepth 10000 in
theorem carry_any (w : World) (a0 : Int) (ra : Option Addr) (len rc : Nat) (zs : List Int) (ra2 : Option Addr) (len2 rc2 : Nat) (zs2 : List Int) (a3 : Int) (hR : Raw w ra len zs) (hR2 : Raw w ra2 len2 zs2) (h0 : 0 ≤ a0) (h1 : a0 ≤ 255) (h30 : 0 ≤ a3) (h31 : a3 ≤ 255) (hl : len ≤ 300) :
    Calls Yba.prog 4 #[.int .u8 a0, .slice ra len rc, .slice ra2 len2 rc2, .int .u8 a3] w fun e w' => e = .returned (.bool true) ∧ Below w.heap.size w w' := by
  obtain ⟨i0, hi0, hz0, hz1, hz2⟩ := info_parts Yba.info27
  obtain ⟨j0, hj0, hy0, hy1, hy2⟩ := info_parts Yba.info3
  have BD := Lib.hid (build_any w a0 ra len rc zs 4607182418800017408 hR h0 h1 hl (fun v v1 v2 => by unfold fmul; rw [Fl.fi_mul_one v (by omega), Option.getD_some]))
  have HR := Lib.hid hR
  have HR2 := Lib.hid hR2
  clear hR hR2
  obtain ⟨ws1, hws1⟩ : ∃ ws1, ws1 = (vsOf a0 zs).map Fl.fi := ⟨_, rfl⟩
  have HW1 := Lib.hid hws1
  obtain ⟨n, hn⟩ : ∃ n, n = len + 1 := ⟨_, rfl⟩
  have hl1 : Hid (ws1.length = n) := by show _ = _; rw [hws1, List.length_map, vsOf_length, HR.out.1, hn]
  have hlt : Hid (Wts ws1) := by show Wts _; rw [hws1]; exact wts_fi (by simp [vsOf]) (by rw [vsOf_length, HR.out.1]; omega) (vsOf_mem _ _)
  rw [wsOf_one (vsOf_mem _ _), ← hws1] at BD
  obtain ⟨ws2, hws2⟩ : ∃ ws2, ws2 = (vs2Of a0 zs2 n).map Fl.fi := ⟨_, rfl⟩
  have HW2 := Lib.hid hws2
  have hl2 : Hid (ws2.length = n) := by show _ = _; rw [hws2, List.length_map, vs2Of_length]
  have hlt2 : Hid (Wts ws2) := by show Wts _; rw [hws2]; exact wts_fi (by rw [← List.length_pos_iff, vs2Of_length]; omega) (by rw [vs2Of_length]; omega) (vs2Of_mem _ _ _)
  clear hws1 hws2
  go_enter Yba.func4, Yba.ntmps4
  go_wp2_with fail
  refine BD.out.mono ?_
  rintro e w1 ⟨gv, hgv, rfl, how1, -, bel1⟩
  rw [← hn] at how1 ⊢
  have hn1 : n ≤ 301 := by omega
  have hn0 : 0 < n := by omega
  clear BD hn
  go_wp2_with (at_make; refine wpList_make_full _ rfl _ _ 23 rfl 0 27 i0 (.float .f64 0) 1 Yba.underlying23 hi0 hz0 hz1 _ _ _ _ n rfl rfl rfl rfl (by rw [hz2]; omega) (by unfold maxLen; omega) (Nat.zero_le _) ?_; intro wm hom hgm; refine Hid.out ?_)
  refine Lib.hid ?_
  have fr1 : Fr w1 wm (fun _ => False) := (Fr.refl w1 _).grown hgm (fun k _ hk => by cases hk)
  have hsz1 : w1.heap.size < wm.heap.size := (hom.lt _ rfl).2
  have hsz0 : w.heap.size < w1.heap.size := (how1.lt _ rfl).2
  have hog := fr1.owns how1 (fun _ _ e => e)
  rw [made_zero, show List.replicate n 0 = fillK ws2 0 by rw [fillK_zero, hl2.out]] at hom
  have belm : Below w.heap.size w wm := bel1.trans (fr1.below (Nat.le_of_lt hsz0) (fun _ _ e => e))
  generalize hg2 : w1.heap.size = g2 at *
  clear fr1 hgm how1 bel1 hg2 w1
  go_upto_block 0 with fail
  go_cut [] (fun wx => wx.ownsRow 0 27 1 (.slice (some ⟨w.heap.size, 0, none⟩) n n) n (fcs ws1) ∧ wx.ownsRow 0 27 1 (.slice (some ⟨g2, 0, none⟩) n n) n (fcs ws2) ∧ Below w.heap.size w wx)
  case first =>
    go_wp2_with fail
    go_loopg [13] n (fun gk iv wr => ∃ k : Nat, iv = .int .i64 k ∧ k ≤ n ∧ n ≤ k + gk ∧ wr.ownsRow 0 27 1 (.slice (some ⟨w.heap.size, 0, none⟩) n n) n (fcs ws1) ∧ wr.ownsRow 0 27 1 (.slice (some ⟨g2, 0, none⟩) n n) n (fcs (fillK ws2 k)) ∧ Below w.heap.size w wr)
    case atStart => exact ⟨0, rfl, Nat.zero_le _, by omega, hog, hom, belm⟩
    case round =>
      obtain ⟨k, rfl, hk, hgk, ho1, ho2, hbr⟩ := hrel
      by_cases hkn : k < n
      · obtain ⟨B, hB⟩ : ∃ B, B = byteAt a0 zs2 k := ⟨_, rfl⟩
        have eg : ws2.getD k 0 = Fl.fi (vOf B) := by rw [HW2.out, vs2Of_get hkn, hB]
        have x3 : ∃ u, wr.cell? ⟨g2, k, none⟩ = some u := ⟨_, by rw [ho2.cellAt k (by omega)]; exact List.getElem?_eq_getElem (by rw [fcs_length, fillK_length _ _ (by rw [hl2.out]; omega), hl2.out]; omega)⟩
        obtain ⟨u3, x3⟩ := x3
        have x4 : wr.frozen? ⟨g2, k, none⟩ = false := ho2.frozenAt k
        have hst2 := (ho2.stored k (.float .f64 (Fl.fi (vOf B)))).1
        rw [fcs_set, ← eg, fillK_step ws2 k (by rw [hl2.out]; exact hkn), eg] at hst2
        have ho3 := owns_setOther ho1 (a := ⟨g2, k, none⟩) (fun e => by simp [Value.ownBlock] at e; omega) (.float .f64 (Fl.fi (vOf B)))
        have hb3 : Below w.heap.size w (wr.setCell ⟨g2, k, none⟩ (.float .f64 (Fl.fi (vOf B)))) := hbr.setCell (Nat.le_of_lt hsz0) _
        have HST := Lib.hid hst2
        obtain ⟨V, hV⟩ : ∃ V, V = Fl.fi (vOf B) := ⟨_, rfl⟩
        have hadd : ∀ z : Int, z = B → 0 ≤ z → Ieee.double.add (floatOfInt .f64 (z % 16)) 4607182418800017408 = some V := by
          rintro z rfl hz
          have e : (z % 16 : Int) = ((z.toNat % 16 : Nat) : Int) := by omega
          rw [e, foi, Fl.fi_succ _ (by omega), hV]
          rfl
        rw [← hV] at HST ho3 hb3
        have HV := Lib.hid hV
        clear hV hst2 eg ho1 ho2
        by_cases hl20 : 0 < len2
        · obtain ⟨b, off, rfl, hbl, hcs⟩ := HR2.out.2.1 hl20
          have hkm : k % len2 < len2 := Nat.mod_lt _ hl20
          have hz : zs2.getD (k % len2) 0 = B := by rw [hB]; unfold byteAt; rw [HR2.out.1, if_neg (by omega)]
          have hzb := HR2.out.2.2 _ hkm
          have e1 := (hbr.cell (p := ⟨b, off + k % len2, none⟩) hbl).trans (hcs _ hkm)
          rw [hz] at hzb e1
          have r1 := fun w' => run_float_arith (P := Yba.prog) w' .add 27 .f64 (floatOfInt .f64 (B % 16)) 4607182418800017408 V (hadd B rfl hzb.1)
          clear hz hadd hcs hB
          go_wp2_with fail
          go_roundg (gk - 1)
          case measure => omega
          case rel => exact ⟨k + 1, by go_num, by omega, by omega, ho3, HST.out, hb3⟩
        · have hB0 : a0 = B := by rw [hB]; unfold byteAt; rw [HR2.out.1, if_pos (by omega)]
          have r1 := fun w' => run_float_arith (P := Yba.prog) w' .add 27 .f64 (floatOfInt .f64 (a0 % 16)) 4607182418800017408 V (hadd a0 hB0 h0)
          clear hadd hB hB0
          go_wp2_with fail
          go_roundg (gk - 1)
          case measure => omega
          case rel => exact ⟨k + 1, by go_num, by omega, by omega, ho3, HST.out, hb3⟩
      · have ek : fillK ws2 k = ws2 := by rw [show k = ws2.length by rw [hl2.out]; omega]; exact fillK_full _
        rw [ek] at ho2
        go_wp2_with fail
        go_meet
        case rel => exact ⟨ho1, ho2, hbr⟩
  case rest =>
    obtain ⟨how1, how2, belc⟩ := hcut
    clear hog hom belm hsz1
    obtain ⟨ob, hob⟩ : ∃ ob, ob = wc.heap.size := ⟨_, rfl⟩
    have hobg : g2 < ob := by rw [hob]; exact (how2.lt _ rfl).2
    obtain ⟨wo, hwo⟩ : ∃ wo, wo = wc.alloc (.cells #[.slice none 0 0, .slice none 0 0, .float .f64 0, .float .f64 0, .slice none 0 0, .slice none 0 0] 34) := ⟨_, rfl⟩
    have fro : Fr wc wo (fun _ => False) := by rw [hwo]; exact (Fr.refl wc _).alloc _
    have hobs : ob < wo.heap.size := by rw [hwo, hob]; simp
    have hO0 : Ord wo (fun k => k = ob) ob [] [] 0 0 [] [] := ord_new hobs (by rw [hwo, hob]; exact heap_alloc_new wc _)
    have hoo1 := fro.owns how1 (fun _ _ e => e)
    have hoo2 := fro.owns how2 (fun _ _ e => e)
    have belo : Below w.heap.size w wo := belc.trans (fro.below belc.size (fun _ _ e => e))
    have ST := Lib.hid (set_any wo _ ob n w.heap.size n ws1 [] [] 0 0 [] [] hO0 hl1 hn0 hn1 (fcell hoo1 hl1.out) (by show ¬ w.heap.size = ob; omega) (by omega) (Nat.zero_le _) rfl (setOk_of hlt.out (fun i hi => by simp at hi) (fun i hi => by simp at hi) ⟨_, _, _, Fl.read_zero⟩))
    obtain ⟨SH, hSH⟩ : ∃ SH, SH = shrL ws1 := ⟨_, rfl⟩
    have HSH := Lib.hid hSH
    rw [lead_none, ← hSH] at ST
    have hsL : Hid (SH.length = n) := by show _ = _; rw [hSH, shrL_length, hl1.out]
    clear hSH hO0 how1 how2 belc fro
    go_wp2_with fail
    rw [← hwo, ← hob]
    clear hwo hob
    refine ST.out.mono ?_
    rintro e w2 ⟨rfl, F1, hO1, fr1, nw1⟩
    have bel2 : Below w.heap.size w w2 := belo.trans (fr1.below belo.size (fun k hk e => by subst e; omega))
    have ho2 := fr1.owns hoo2 (notAt (by show ¬ g2 = ob; omega))
    have off1 : ∀ k, F1 k → w.heap.size ≤ k ∧ k ≠ g2 := nw1.off (fun k hk => by subst hk; omega) (fun k hk => by omega)
    clear ST belo hoo1 hoo2 nw1
    have hbs : Below w.heap.size w w2 := bel2
    go_wp2_with (at_make; refine wpList_make_full _ rfl _ _ 24 rfl 0 3 j0 (.int .i64 0) 1 Yba.underlying24 hj0 hy0 hy1 _ _ _ _ n rfl rfl rfl rfl (by rw [hy2]; omega) (by unfold maxLen; omega) (Nat.zero_le _) ?_; intro wm hom hgm; refine Hid.out ?_)
    refine Lib.hid ?_
    have frm : Fr w2 wm (fun _ => False) := (Fr.refl w2 _).grown hgm (fun k _ hk => by cases hk)
    obtain ⟨gc, hgc⟩ : ∃ gc, gc = w2.heap.size := ⟨_, rfl⟩
    obtain ⟨K, hK⟩ : ∃ K : Nat, a3 % 64 = (K : Int) := ⟨(a3 % 64).toNat, by omega⟩
    have hK64 : K < 64 := by omega
    have HK := Lib.hid hK
    clear hK
    rw [made_zeroI] at hom
    rw [← hgc] at hom ⊢
    have hg2c : g2 < gc := by have : g2 < w2.heap.size := (ho2.lt _ rfl).2; omega
    have hwgc : w.heap.size ≤ gc := by have := hbs.size; omega
    have R0 : Run w wm ob gc g2 n SH ws2 (slackOf n) 0 := by
      refine ⟨List.replicate n 0, waitK (List.map Fl.fi (List.replicate n 0)) SH (slackOf n) n, [], F1, ?_, once_start _ _ _ _, List.length_replicate, fun c hc => by rw [List.eq_of_mem_replicate hc]; exact Nat.le_refl _, hom, frm.owns ho2 (fun _ _ e => e), bel2.trans (frm.below bel2.size (fun _ _ e => e)), fun k hk => ⟨(off1 k hk).1, (off1 k hk).2, ?_⟩⟩
      · rw [fi_zero]; exact hO1.keep frm (fun _ _ e => e)
      · have := hO1.lt k hk; omega
    clear hO1 fr1 bel2 hbs ho2 off1 hom hgm frm hgc
    go_upto_block 2 with fail
    go_cut [] (fun wx => Run w wx ob gc g2 n SH ws2 (slackOf n) K)
    case first =>
      go_wp2_with fail
      go_loopg [18] K (fun gk iv wr => ∃ k : Nat, iv = .int .i64 k ∧ k ≤ K ∧ K ≤ k + gk ∧ Run w wr ob gc g2 n SH ws2 (slackOf n) k)
      case atStart => exact ⟨0, rfl, Nat.zero_le _, by omega, R0⟩
      case round =>
        clear R0
        obtain ⟨k, rfl, hk, hgk, cn, wt, du, F, hO, hon, hcl, hcm, hoc, ho2, hbr, off⟩ := hrel
        by_cases hkK : (k : Int) < a3 % 64
        · have hkk : k < K := by have := HK.out; omega
          have hk64 : k < 64 := by omega
          have PK := Lib.hid (pick_any wr F ob n SH (cn.map Fl.fi) (Fl.fi k) (slackOf n) wt du hO hon hsL (by show _ = _; rw [List.length_map, hcl]) hn0 hn1 (pickOk_of (fun i hi => by rw [HSH.out]; exact shrL_nice hlt.out (by rw [hl1.out, ← hsL.out]; exact hi)) (fun i hi => ⟨cn.getD i 0, by have := hcm _ (getD_memN (k := i) (by rw [hcl, ← hsL.out]; exact hi)); omega, getD_map Fl.fi (by rw [hcl, ← hsL.out]; exact hi)⟩) hk64 (slack_ok hn1).1))
          have HCL := Lib.hid hcl
          have HCM := Lib.hid hcm
          clear hcl hcm
          go_wp2_with fail
          refine PK.out.mono ?_
          rintro e w3 ⟨I, hIn, rfl, wt3, du3, F3, hO3, hon3, f3, n3, -⟩
          rw [cn_step (by rw [HCL.out]; exact hIn) hk64 HCM.out, fadd_fi hk64] at hO3
          have nFc : ¬ F gc := fun e => (off gc e).2.2 rfl
          have nF2 : ¬ F g2 := fun e => (off g2 e).2.1 rfl
          have hoc3 := f3.owns hoc (notAt nFc)
          have ho23 := f3.owns ho2 (notAt nF2)
          have bel3 : Below w.heap.size w w3 := hbr.trans (f3.below hbr.size (fun k hk e => by have := (off k e).1; omega))
          have hgs : gc < wr.heap.size := (hoc.lt _ rfl).2
          have off3 : ∀ k, F3 k → w.heap.size ≤ k ∧ k ≠ g2 ∧ k ≠ gc := n3.off off (fun j hj => by have := hbr.size; omega)
          obtain ⟨C, hC⟩ : ∃ C, C = cn.getD I 0 := ⟨_, rfl⟩
          have e1 : w3.cell? ⟨gc, I, none⟩ = some (.int .i64 (C : Nat)) := by rw [hC]; exact icell hoc3 HCL.out I hIn
          have e2 : w3.frozen? ⟨gc, I, none⟩ = false := hoc3.frozenAt I
          have hC64 : C ≤ 64 := by have := HCM.out _ (getD_memN (k := I) (by rw [HCL.out]; exact hIn)); omega
          have hst := (hoc3.stored I (.int .i64 ((C + 1 : Nat) : Int))).1
          rw [ivs_set] at hst
          have fs : Fr w3 (w3.setCell ⟨gc, I, none⟩ (.int .i64 ((C + 1 : Nat) : Int))) (fun j => j = gc) := (Fr.refl w3 _).setCell _ _ (fun _ => rfl)
          have RN : Run w (w3.setCell ⟨gc, I, none⟩ (.int .i64 ((C + 1 : Nat) : Int))) ob gc g2 n SH ws2 (slackOf n) (k + 1) := by
            refine ⟨cn.set I (cn.getD I 0 + 1), wt3, du3, F3, hO3.keep fs (fun j hj e => (off3 j hj).2.2 e), hon3, by rw [List.length_set]; exact HCL.out, cn_mem (by rw [HCL.out]; exact hIn) HCM.out, ?_, fs.owns ho23 (notAt (by show ¬ g2 = gc; omega)), bel3.trans (fs.below bel3.size (fun j hj e => by omega)), off3⟩
            rw [← hC]; exact hst
          push_cast at RN
          have hb1 : decide ((I : Int) < 0) = false := decide_eq_false (by omega)
          clear PK hO3 hon3 f3 n3 hoc3 ho23 bel3 off3 hC hst fs hO hon hoc ho2 hbr off
          go_wp2_with fail
          go_roundg (gk - 1)
          case measure => omega
          case rel => exact ⟨k + 1, by go_num, by omega, by omega, RN⟩
        · have ek : k = K := by have := HK.out; omega
          have R1 : Run w wr ob gc g2 n SH ws2 (slackOf n) K := by rw [← ek]; exact ⟨cn, wt, du, F, hO, hon, hcl, hcm, hoc, ho2, hbr, off⟩
          clear hO hon hcl hcm hoc ho2 hbr off ek
          go_wp2_with fail
          go_meet
          case rel => exact R1
    case rest =>
      clear R0
      obtain ⟨cn, wt, du, F, hO, hon, hcl, hcm, hoc, ho2, hbr, off⟩ := hcut
      obtain ⟨PK, hPK⟩ : ∃ PK, PK = cn.map Fl.fi := ⟨_, rfl⟩
      have HPK := Lib.hid hPK
      have hpl : Hid (PK.length = n) := by show _ = _; rw [hPK, List.length_map, hcl]
      rw [← hPK] at hO
      have HCL := Lib.hid hcl
      have HCM := Lib.hid hcm
      clear hPK hcl hcm
      obtain ⟨PP, hPP⟩ : ∃ PP, PP = Fl.fi K := ⟨_, rfl⟩
      have HPP := Lib.hid hPP
      rw [← hPP] at hO
      clear hPP
      obtain ⟨⟨sa, sc, d0⟩, -⟩ := hO.cells2
      rw [hsL.out] at d0
      go_wp2_with (at_make; refine wpList_make_full _ rfl _ _ 23 rfl 0 27 i0 (.float .f64 0) 1 Yba.underlying23 hi0 hz0 hz1 _ _ _ _ n rfl rfl rfl rfl (by rw [hz2]; omega) (by unfold maxLen; omega) (Nat.zero_le _) ?_; intro wm hom hgm; refine Hid.out ?_)
      refine Lib.hid ?_
      have frm : Fr wc wm (fun _ => False) := (Fr.refl wc _).grown hgm (fun k _ hk => by cases hk)
      obtain ⟨go, hgo⟩ : ∃ go, go = wc.heap.size := ⟨_, rfl⟩
      rw [made_zero, show List.replicate n 0 = fillK SH 0 by rw [fillK_zero, hsL.out]] at hom
      rw [← hgo] at hom ⊢
      have hgcs : gc < go := by have : gc < wc.heap.size := (hoc.lt _ rfl).2; omega
      have hFo : ∀ k, F k → ¬ k = go := fun k hk e => by have := hO.lt k hk; omega
      have hOm := hO.keep frm (fun _ _ e => e)
      have hocm := frm.owns hoc (fun _ _ e => e)
      have ho2m := frm.owns ho2 (fun _ _ e => e)
      have hbm : Below w.heap.size w wm := hbr.trans (frm.below hbr.size (fun _ _ e => e))
      have hgw : w.heap.size ≤ go := by have := hbr.size; omega
      clear hO hoc ho2 hbr hgm frm hgo d0
      go_upto_block 4 with fail
      go_cut [] (fun wx => wx.ownsRow 0 27 1 (.slice (some ⟨go, 0, none⟩) n n) n (fcs SH) ∧ Fr wm wx (fun k => k = go))
      case first =>
        go_wp2_with fail
        go_loopg [21] n (fun gk iv wr => ∃ k : Nat, iv = .int .i64 k ∧ k ≤ n ∧ n ≤ k + gk ∧ wr.ownsRow 0 27 1 (.slice (some ⟨go, 0, none⟩) n n) n (fcs (fillK SH k)) ∧ Fr wm wr (fun k => k = go))
        case atStart => exact ⟨0, rfl, Nat.zero_le _, by omega, hom, Fr.refl _ _⟩
        case round =>
          obtain ⟨k, rfl, hk, hgk, hoo, hfr⟩ := hrel
          have hOr := hOm.keep hfr hFo
          obtain ⟨shv, pkv, wtv, duv, hv⟩ := hOr
          obtain ⟨gs, cps, rfl, hcs⟩ := float_row hv.osh (by rw [hsL.out]; exact hn0)
          have d0 := hv.cells.1
          rw [hsL.out] at d0
          by_cases hkn : k < n
          · obtain ⟨X, hX⟩ : ∃ X, X = SH.getD k 0 := ⟨_, rfl⟩
            have e1 : wr.cell? ⟨gs, k, none⟩ = some (.float .f64 X) := by rw [hX]; exact hcs k (by rw [hsL.out]; exact hkn)
            have x3 : ∃ u, wr.cell? ⟨go, k, none⟩ = some u := ⟨_, by rw [hoo.cellAt k (by omega)]; exact List.getElem?_eq_getElem (by rw [fcs_length, fillK_length _ _ (by rw [hsL.out]; omega), hsL.out]; omega)⟩
            obtain ⟨u3, x3⟩ := x3
            have x4 : wr.frozen? ⟨go, k, none⟩ = false := hoo.frozenAt k
            have hst := (hoo.stored k (.float .f64 X)).1
            rw [fcs_set, hX, fillK_step SH k (by rw [hsL.out]; exact hkn), ← hX] at hst
            have fs : Fr wm (wr.setCell ⟨go, k, none⟩ (.float .f64 X)) (fun k => k = go) := hfr.setCell _ _ (fun _ => rfl)
            have HST := Lib.hid hst
            clear hX hcs hst hv hoo
            go_wp2_with fail
            go_roundg (gk - 1)
            case measure => omega
            case rel => exact ⟨k + 1, by go_num, by omega, by omega, HST.out, fs⟩
          · have ek : fillK SH k = SH := by rw [show k = SH.length by rw [hsL.out]; omega]; exact fillK_full _
            rw [ek] at hoo
            clear hcs hv
            go_wp2_with fail
            go_meet
            case rel => exact ⟨hoo, hfr⟩
      case rest =>
        obtain ⟨hoo, hfr⟩ := hcut
        have hOr := hOm.keep hfr hFo
        have hocr := hfr.owns hocm (notAt (by show ¬ gc = go; omega))
        have ho2r := hfr.owns ho2m (notAt (by show ¬ g2 = go; omega))
        have hbr : Below w.heap.size w wc := hbm.trans (hfr.below hbm.size (fun k hk e => by omega))
        have hg2s : g2 < wc.heap.size := (ho2r.lt _ rfl).2
        have nF2 : ¬ F g2 := fun e => (off g2 e).2.1 rfl
        have nFc : ¬ F gc := fun e => (off gc e).2.2 rfl
        have nFo : ¬ F go := fun e => hFo go e rfl
        have SOK : Hid (SetOk ws2 SH PK PP) := setOk_of hlt2.out (fun i hi => by rw [HSH.out]; obtain ⟨s, hs⟩ := shrL_nice hlt.out (i := i) (by rw [hl1.out, ← hsL.out]; exact hi); exact hs.fin)
          (fun i hi => by rw [HPK.out, getD_map Fl.fi (by rw [HCL.out, ← hsL.out]; exact hi)]; exact Fl.fin_fi _ (by have := HCM.out _ (getD_memN (k := i) (by rw [HCL.out, ← hsL.out]; exact hi)); omega)) (by rw [HPP.out]; exact Fl.fin_fi _ (by omega))
        have ST := Lib.hid (set_any wc F ob n g2 n ws2 SH PK PP (slackOf n) wt du hOr hl2 hn0 hn1 (fcell ho2r hl2.out) nF2 hg2s (by show _ ≤ _; rw [hsL.out]; exact Nat.le_refl _) (by show _ = _; rw [hpl.out, hsL.out]) SOK)
        clear hom hOm hocm ho2m hbm
        have hnn : ((n : Int) == (n : Int)) = true := by simp
        go_wp2_with fail
        refine ST.out.mono ?_
        rintro e w5 ⟨rfl, F5, hO5, f5, n5⟩
        have hoc5 := f5.owns hocr (notAt nFc)
        have hoo5 := f5.owns hoo (notAt nFo)
        have hb5 : Below w.heap.size w w5 := hbr.trans (f5.below hbr.size (fun k hk e => by have := (off k e).1; omega))
        clear ST hOr hocr hoo ho2r hbr hfr f5 n5 hon
        obtain ⟨LD, hLD⟩ : ∃ LD, LD = leadL SH PK PP n := ⟨_, rfl⟩
        have HLD := Lib.hid hLD
        have hll : Hid (LD.length = n) := by show _ = _; rw [hLD]; exact leadK_length _ _ _ _ _
        obtain ⟨WT, hWT⟩ : ∃ WT, WT = waitK LD (shrL ws2) (slackOf n) n := ⟨_, rfl⟩
        have hwl : Hid (WT.length = n) := by show _ = _; rw [hWT]; exact waitK_length _ _ _ _
        obtain ⟨S2, hS2⟩ : ∃ S2, S2 = shrL ws2 := ⟨_, rfl⟩
        have hs2 : Hid (S2.length = n) := by show _ = _; rw [hS2, shrL_length, hl2.out]
        rw [← hLD, ← hWT, ← hS2] at hO5
        clear hLD hWT hS2
        obtain ⟨⟨sa2, sc2, c0⟩, ⟨sa3, sc3, c1⟩, c2, -⟩ := hO5.cells2
        rw [hs2.out] at c0
        rw [hll.out] at c1
        have LND := Lib.hid hO5
        go_wp2_with fail
        go_loopg [22] n (fun gk iv wr => ∃ k : Nat, iv = .int .i64 k ∧ k ≤ n ∧ n ≤ k + gk ∧ Fr w5 wr (fun _ => False))
        case atStart => exact ⟨0, rfl, Nat.zero_le _, by omega, Fr.refl _ _⟩
        case round =>
          clear c0 c1 c2
          obtain ⟨k, rfl, hk, hgk, hfr⟩ := hrel
          have hOr := hO5.keep hfr (fun _ _ e => e)
          by_cases hkn : k < n
          · obtain ⟨shv, pkv, wtv, duv, hv⟩ := hOr
            obtain ⟨gp, cpp, rfl, hcs⟩ := float_row hv.opk (by rw [hll.out]; exact hn0)
            have c1 := hv.cells.2.1
            rw [hll.out] at c1
            obtain ⟨X, hX⟩ : ∃ X, X = LD.getD k 0 := ⟨_, rfl⟩
            have e1 : wr.cell? ⟨gp, k, none⟩ = some (.float .f64 X) := by rw [hX]; exact hcs k (by rw [hll.out]; exact hkn)
            obtain ⟨C, hC⟩ : ∃ C, C = cn.getD k 0 := ⟨_, rfl⟩
            have e2 : wr.cell? ⟨gc, k, none⟩ = some (.int .i64 (C : Nat)) := by rw [hC]; exact icell (hfr.owns hoc5 (fun _ _ e => e)) HCL.out k hkn
            obtain ⟨Y, hY⟩ : ∃ Y, Y = SH.getD k 0 := ⟨_, rfl⟩
            have e3 : wr.cell? ⟨go, k, none⟩ = some (.float .f64 Y) := by rw [hY]; exact fcell (hfr.owns hoo5 (fun _ _ e => e)) hsL.out k hkn
            have hks : k < SH.length := by rw [hsL.out]; exact hkn
            have m1 := SOK.out.mul k hks
            have m2 := SOK.out.sub k hks
            have hpc : PK.getD k 0 = floatOfInt .f64 (C : Int) := by rw [HPK.out, foi, hC]; exact getD_map Fl.fi (by rw [HCL.out]; exact hkn)
            have hpp : PP = floatOfInt .f64 (a3 % 64) := by rw [HPP.out, HK.out, foi]
            have hxe : X = fsub (PK.getD k 0) (fmul PP (SH.getD k 0)) := by rw [hX, HLD.out]; exact lead_get hkn hsL.out
            rw [← hxe] at m2
            have hnn : Fl.NN X := by
              rw [hxe]
              have f1 : Fl.Fin (PK.getD k 0) := by rw [HPK.out, getD_map Fl.fi (by rw [HCL.out]; exact hkn)]; exact Fl.fin_fi _ (by have := HCM.out _ (getD_memN (k := k) (by rw [HCL.out]; exact hkn)); omega)
              have f2 : Fl.Fin (SH.getD k 0) := by rw [HSH.out]; obtain ⟨s, hs⟩ := shrL_nice hlt.out (i := k) (by rw [hl1.out]; exact hkn); exact hs.fin
              have f3 : Fl.Fin PP := by rw [HPP.out]; exact Fl.fin_fi _ (by omega)
              obtain ⟨z, z1, z2⟩ := Fl.mul_nn f3 f2
              have ez : fmul PP (SH.getD k 0) = z := by unfold fmul; rw [z1]; rfl
              obtain ⟨y, y1, y2⟩ := Fl.sub_nn f1 z2
              have ey : fsub (PK.getD k 0) z = y := by unfold fsub; rw [y1]; rfl
              rw [ez, ey]; exact y2
            have hoe : FloatKind.f64.format.order X X = some .eq := Fl.order_self hnn
            rw [hpc] at m2
            rw [hpp] at m1 m2
            rw [← hY] at m1 m2
            obtain ⟨Z, hZ⟩ : ∃ Z, Z = fmul (floatOfInt .f64 (a3 % 64)) Y := ⟨_, rfl⟩
            rw [← hZ] at m1 m2
            have r1 := fun w' => run_float_arith (P := Yba.prog) w' .mul 27 .f64 (floatOfInt .f64 (a3 % 64)) Y Z m1
            have r2 := fun w' => run_float_arith (P := Yba.prog) w' .sub 27 .f64 (floatOfInt .f64 (C : Int)) Z X m2
            have hki : (k : Int) < (n : Int) := by omega
            have hki0 : (0 : Int) ≤ (k : Int) := by omega
            clear hX hC hY m1 m2 hpc hpp hxe hnn hZ hcs hv hks
            go_wp2_with fail
            go_quiet (fail)
            go_wp2_with fail
            go_roundg (gk - 1)
            case measure => omega
            case rel => exact ⟨k + 1, by go_num, by omega, by omega, hfr.drewN _⟩
          · have LN1 := Lib.hid (len_du hOr)
            have LN2 := Lib.hid (len_wt hOr)
            rw [hwl.out] at LN2
            have hbb : (((([] : List (Nat × Nat)).length : Nat) : Int) == 0) = true := rfl
            go_wp2_with (go_at_call 9; first | (refine LN1.out.mono ?_; rintro e w6 ⟨rfl, hw6⟩; rw [hw6]; clear hw6 w6) | (refine LN2.out.mono ?_; rintro e w6 ⟨rfl, hw6⟩; rw [hw6]; clear hw6 w6))
            go_ret
            exact ⟨rfl, hb5.trans (hfr.below hb5.size (fun _ _ e => e))⟩

end Go.Proofs.Ybulkcnam
