/-
  THE WALK over (*weightedOrder).setWeights.
-/
import Derived.Test.YbulkcnamUpd
import Derived.Test.YbulkcnamPerm
import Derived.Deep.DeepCutAuto
import Derived.Deep.CutBlock
namespace Go.Proofs.Ybulkcnam
open Go.RowKit

def one : Nat := 4607182418800017408
def fadd (x y : Nat) : Nat := (Ieee.double.add x y).getD 0
def fsub (x y : Nat) : Nat := (Ieee.double.sub x y).getD 0
def fmul (x y : Nat) : Nat := (Ieee.double.mul x y).getD 0
def fdiv (x y : Nat) : Nat := (Ieee.double.div x y).getD 0

def slackOf (n : Nat) : Nat := if 1 < n then fdiv 4607182418800017408 (Fl.fi (2 * n - 2)) else 0
/-- What each replica's count starts from, the first k reckoned. -/
def leadK (sh pk : List Nat) (picks n k : Nat) : List Nat := (List.range n).map fun i => if i < k then fsub (pk.getD i 0) (fmul picks (sh.getD i 0)) else 0
def leadL (sh pk : List Nat) (picks n : Nat) : List Nat := leadK sh pk picks n sh.length
def totK (ws : List Nat) (m k : Nat) : Nat := ((ws.take k).map (fdiv · m)).foldl fadd 0
def totL (ws : List Nat) : Nat := totK ws (maxL ws) ws.length
def shrL (ws : List Nat) : List Nat := ws.map fun x => fdiv (fdiv x (maxL ws)) (totL ws)
def keyAt (lead shs : List Nat) (slack i : Nat) : Nat := fdiv (fadd (lead.getD i 0) slack) (shs.getD i 0)
def waitK (lead shs : List Nat) (slack k : Nat) : List (Nat × Nat) := (List.range k).foldl (fun L i => pushL L (keyAt lead shs slack i, i)) []

/-- That no operation on the way is invalid. -/
structure SetOk (ws sh pk : List Nat) (picks : Nat) : Prop where
  nice : ∀ x ∈ ws, NiceW x
  slack : 1 < ws.length → Ieee.double.div 4607182418800017408 (Fl.fi (2 * ws.length - 2)) = some (slackOf ws.length)
  mul : ∀ i, i < sh.length → Ieee.double.mul picks (sh.getD i 0) = some (fmul picks (sh.getD i 0))
  sub : ∀ i, i < sh.length → Ieee.double.sub (pk.getD i 0) (fmul picks (sh.getD i 0)) = some (fsub (pk.getD i 0) (fmul picks (sh.getD i 0)))
  quo : ∀ x ∈ ws, Ieee.double.div x (maxL ws) = some (fdiv x (maxL ws))
  tot : ∀ k, k < ws.length → Ieee.double.add (totK ws (maxL ws) k) (fdiv (ws.getD k 0) (maxL ws)) = some (totK ws (maxL ws) (k + 1))
  shr : ∀ x ∈ ws, Ieee.double.div (fdiv x (maxL ws)) (totL ws) = some (fdiv (fdiv x (maxL ws)) (totL ws))
  add : ∀ i, i < ws.length → Ieee.double.add ((leadL sh pk picks ws.length).getD i 0) (slackOf ws.length) = some (fadd ((leadL sh pk picks ws.length).getD i 0) (slackOf ws.length))
  key : ∀ i, i < ws.length → Ieee.double.div (fadd ((leadL sh pk picks ws.length).getD i 0) (slackOf ws.length)) ((shrL ws).getD i 0) = some (keyAt (leadL sh pk picks ws.length) (shrL ws) (slackOf ws.length) i)

theorem foi (k : Nat) : floatOfInt .f64 (k : Int) = Fl.fi k := by
  unfold Fl.fi
  show Ieee.double.write (.number (decide ((k : Int) < 0)) (k : Int).natAbs 0) = _
  have : decide ((k : Int) < 0) = false := decide_eq_false (by omega)
  rw [this]
  rfl

attribute [local go_sem] run_store_float

theorem made_zero (n : Nat) : (madeCells (Value.float .f64 0).cells (n * 1)).toList = fcs (List.replicate n 0) := by
  rw [Nat.mul_one]
  show (madeCells #[Value.float .f64 0] n).toList = _
  rw [toList_madeCells_one]
  simp [fcs]

theorem leadK_zero (sh pk : List Nat) (picks n : Nat) : leadK sh pk picks n 0 = List.replicate n 0 := by
  unfold leadK
  apply List.ext_getElem?
  intro i
  by_cases hi : i < n
  · simp [hi]
  · simp [hi]
theorem leadK_length (sh pk : List Nat) (picks n k : Nat) : (leadK sh pk picks n k).length = n := by simp [leadK]

/-- The row that 'make' has laid for the new counts. -/
theorem lead_start {w wm : World} {F : Nat → Prop} {ob n : Nat} {sh pk sh' pk' : List Nat} {picks slack picks' : Nat} {wt du : List (Nat × Nat)} {shv pkv wtv duv : Value} (h : OrdV w F ob sh' pk' picks' slack wt du shv pkv wtv duv)
    (hom : wm.ownsRow 0 27 1 (.slice (some ⟨w.heap.size, 0, none⟩) n n) n (madeCells (Value.float .f64 0).cells (n * 1)).toList) (hg : w.grownBy wm none) :
    wm.ownsRow 0 27 1 (.slice (some ⟨w.heap.size, 0, none⟩) n n) n (fcs (leadK sh pk picks n 0)) ∧ ¬ F w.heap.size ∧ Fr w wm (fun _ => False) := by
  refine ⟨by rw [leadK_zero, ← made_zero]; exact hom, fun hk => Nat.lt_irrefl _ (h.lt _ hk), (Fr.refl w _).grown hg (fun _ _ e => by cases e)⟩

theorem notF_of {F : Nat → Prop} {g n c : Nat} (h : ¬ F g) : ∀ j, (Value.slice (some ⟨g, 0, none⟩) n c).ownBlock = some j → ¬ F j := by
  intro j hj
  simp only [Value.ownBlock, Option.some.injEq] at hj
  subst hj
  exact h

theorem leadK_step {sh pk : List Nat} {picks n k V : Nat} (hk : k < n) (hV : V = fsub (pk.getD k 0) (fmul picks (sh.getD k 0))) : (fcs (leadK sh pk picks n k)).set k (.float .f64 V) = fcs (leadK sh pk picks n (k + 1)) := by
  unfold fcs leadK
  apply List.ext_getElem?
  intro i
  rw [List.getElem?_set]
  by_cases hi : i < n
  · by_cases hik : k = i
    · subst hik
      simp [hi, hV]
    · have : (i < k + 1) ↔ (i < k) := by omega
      simp [hi, hik, this]
  · have : ¬ k = i := by omega
    simp [hi, this]

theorem shrL_length (ws : List Nat) : (shrL ws).length = ws.length := by simp [shrL]
theorem shr_step {ws : List Nat} {k S : Nat} (hk : k < ws.length) (hS : S = fdiv (fdiv (ws.getD k 0) (maxL ws)) (totL ws)) : fcs ((shrL ws).take k) ++ [.float .f64 S] = fcs ((shrL ws).take (k + 1)) := by
  have hk' : k < (shrL ws).length := by rw [shrL_length]; exact hk
  rw [List.take_succ_eq_append_getElem hk']
  simp [fcs, shrL, hS, List.getD, hk]
theorem one_newF (w : World) (S : Nat) (t : TypeId) : ∀ j u, [Value.float .f64 S][j]? = some u → (w.alloc (.cells #[.float .f64 S] t)).cell? ((⟨w.heap.size, 0, none⟩ : Addr).add j) = some u := by
  intro j u hj
  match j, hj with
  | 0, hj => simp at hj; subst hj; simp [Addr.add]

theorem waitK_succ (lead shs : List Nat) (slack k : Nat) : waitK lead shs slack (k + 1) = pushL (waitK lead shs slack k) (keyAt lead shs slack k, k) := by
  unfold waitK
  rw [List.range_succ, List.foldl_append]
  rfl
theorem waitK_length (lead shs : List Nat) (slack k : Nat) : (waitK lead shs slack k).length = k := by
  induction k with
  | zero => rfl
  | succ k ih => rw [waitK_succ, pushL_length, ih]
theorem waitK_perm (lead shs : List Nat) (slack k : Nat) : ((waitK lead shs slack k).map (·.2)).Perm (List.range k) := by
  induction k with
  | zero => exact .refl _
  | succ k ih =>
    rw [waitK_succ, List.range_succ]
    have h1 := (pushL_perm (waitK lead shs slack k) (keyAt lead shs slack k, k)).map (·.2)
    refine h1.trans ?_
    simp only [List.map_cons]
    exact (ih.cons k).trans (List.perm_append_singleton k _).symm
theorem waitK_mem {lead shs : List Nat} {slack k : Nat} {y : Nat × Nat} (h : y ∈ waitK lead shs slack k) : y.2 < k := by
  have := (waitK_perm lead shs slack k).mem_iff.1 (List.mem_map_of_mem (f := (·.2)) h)
  exact List.mem_range.1 this

set_option maxHeartbeats 1000000 in
set_option maxRecDepth 10000 in
theorem set_any (w : World) (F : Nat → Prop) (ob n gw capw : Nat) (ws sh pk : List Nat) (picks slack : Nat) (wt du : List (Nat × Nat)) (hO : Ord w F ob sh pk picks slack wt du) (HN : Hid (ws.length = n)) (h0 : 0 < n) (h1 : n ≤ 301)
    (hc : Hid (∀ j, j < n → w.cell? ⟨gw, j, none⟩ = some (.float .f64 (ws.getD j 0)))) (hgF : ¬ F gw) (hgw : gw < w.heap.size) (hsl : Hid (sh.length ≤ n)) (hpl : Hid (pk.length = sh.length)) (ok : Hid (SetOk ws sh pk picks)) :
    Calls Yba.prog 7 #[.pointer (some ⟨ob, 0, none⟩), .slice (some ⟨gw, 0, none⟩) n capw] w fun e w' => e = .returned (.tuple #[]) ∧
      ∃ F', Ord w' F' ob (shrL ws) (leadL sh pk picks n) 0 (slackOf n) (waitK (leadL sh pk picks n) (shrL ws) (slackOf n) n) [] ∧ Fr w w' F ∧ New w F F' := by
  obtain ⟨i0, hi0, hz0, hz1, hz2⟩ := info_parts Yba.info27
  obtain ⟨shv, pkv, wtv, duv, h⟩ := hO
  obtain ⟨sa, sc, rfl⟩ := owns_shape h.osh
  obtain ⟨pa, pc, rfl⟩ := owns_shape h.opk
  obtain ⟨wa, wcp, rfl⟩ := owns_shape h.owt
  obtain ⟨da, dc, rfl⟩ := owns_shape h.odu
  obtain ⟨c0, c1, c2, c3, c4, c5⟩ := h.cells
  have hfz := h.free
  obtain ⟨SL, hSL⟩ : ∃ SL, SL = slackOf n := ⟨_, rfl⟩
  have HSL := Lib.hid hSL
  rw [← hSL]
  clear hSL
  go_enter Yba.func7, Yba.ntmps7
  go_upto_if 21 with fail
  go_cut [] (fun wc => OrdV wc F ob sh pk picks SL wt du (.slice sa sh.length sc) (.slice pa pk.length pc) (.slice wa wt.length wcp) (.slice da du.length dc) ∧ Fr w wc F)
  case first =>
    by_cases hn1 : 1 < n
    · have hd := ok.out.slack (by rw [HN.out]; exact hn1)
      rw [HN.out, ← HSL.out] at hd
      rw [← foi, show ((2 * n - 2 : Nat) : Int) = 2 * (n : Int) - 2 by omega] at hd
      have r0 := fun w' => run_float_arith (P := Yba.prog) w' .quo 27 .f64 4607182418800017408 (floatOfInt .f64 (2 * (n : Int) - 2)) SL hd
      clear hd
      go_wp2_with fail
      go_meet
      case rel => exact ⟨(h.setSlack 0).setSlack SL, ((Fr.refl w _).setCell _ _ (fun _ => h.fob)).setCell _ _ (fun _ => h.fob)⟩
    · have e : SL = 0 := by rw [HSL.out]; unfold slackOf; rw [if_neg hn1]
      subst e
      go_wp2_with fail
      go_meet
      case rel => exact ⟨h.setSlack 0, (Fr.refl w _).setCell _ _ (fun _ => h.fob)⟩
  case rest =>
    obtain ⟨h, frc⟩ := hcut
    clear c0 c1 c2 c3 c4 c5 hfz
    go_wp2_with (at_make; refine wpList_make_full _ rfl _ _ 23 rfl 0 27 i0 (.float .f64 0) 1 Yba.underlying23 hi0 hz0 hz1 _ _ _ _ n rfl rfl rfl rfl (by rw [hz2]; omega) (by unfold maxLen; omega) (Nat.zero_le _) ?_; intro wm hom hgm; refine Hid.out ?_)
    refine Lib.hid ?_
    obtain ⟨hl0, hnF, frm⟩ := lead_start (sh := sh) (pk := pk) (picks := picks) h hom hgm
    have hm := h.keep frm (fun k hk e => e)
    have hgl : wc.heap.size < wm.heap.size := (hom.lt _ rfl).2
    obtain ⟨c0, c1, c2, c3, c4, c5⟩ := hm.cells
    have hfz := hm.free
    clear hom hgm
    have hGLw : w.heap.size ≤ wc.heap.size := frc.size
    have frcm : Fr w wm F := frc.then frm (fun _ _ e => e.elim)
    generalize hGL : wc.heap.size = GL at *
    clear frm hGL frc h
    go_upto_block 0 with fail
    go_cut [] (fun wx => wx.ownsRow 0 27 1 (.slice (some ⟨GL, 0, none⟩) n n) n (fcs (leadL sh pk picks n)) ∧ OrdV wx F ob sh pk picks SL wt du (.slice sa sh.length sc) (.slice pa pk.length pc) (.slice wa wt.length wcp) (.slice da du.length dc) ∧ Fr w wx F)
    case first =>
      go_wp2_with fail
      go_loopg [37] sh.length (fun gk iv wr => ∃ k : Nat, iv = .int .i64 k ∧ k ≤ sh.length ∧ sh.length ≤ k + gk ∧ wr.ownsRow 0 27 1 (.slice (some ⟨GL, 0, none⟩) n n) n (fcs (leadK sh pk picks n k)) ∧ OrdV wr F ob sh pk picks SL wt du (.slice sa sh.length sc) (.slice pa pk.length pc) (.slice wa wt.length wcp) (.slice da du.length dc) ∧ Fr w wr F)
      case atStart => exact ⟨0, rfl, Nat.zero_le _, by omega, hl0, hm, frcm⟩
      case round =>
        obtain ⟨k, rfl, hk, hgk, hol, hr, hfr⟩ := hrel
        by_cases hks : k < sh.length
        · obtain ⟨gs, cps, es, hcs⟩ := float_row hr.osh (by omega)
          obtain ⟨gp, cpp, ep, hcp⟩ := float_row hr.opk (by have := hpl.out; omega)
          simp only [Value.slice.injEq, true_and] at es ep
          obtain ⟨rfl, rfl⟩ := es
          obtain ⟨rfl, rfl⟩ := ep
          obtain ⟨X, hX⟩ : ∃ X, X = sh.getD k 0 := ⟨_, rfl⟩
          obtain ⟨Y, hY⟩ : ∃ Y, Y = pk.getD k 0 := ⟨_, rfl⟩
          have e1 : wr.cell? ⟨gs, k, none⟩ = some (.float .f64 X) := by rw [hX]; exact hcs k hks
          have e2 : wr.cell? ⟨gp, k, none⟩ = some (.float .f64 Y) := by rw [hY]; exact hcp k (by have := hpl.out; omega)
          obtain ⟨d0, d1, d2, d3, d4, d5⟩ := hr.cells
          have hm1 := ok.out.mul k hks
          have hs1 := ok.out.sub k hks
          rw [← hX] at hm1 hs1
          rw [← hY] at hs1
          obtain ⟨Z, hZ⟩ : ∃ Z, Z = fmul picks X := ⟨_, rfl⟩
          rw [← hZ] at hm1 hs1
          obtain ⟨V, hV⟩ : ∃ V, V = fsub Y Z := ⟨_, rfl⟩
          rw [← hV] at hs1
          have r1 := fun w' => run_float_arith (P := Yba.prog) w' .mul 27 .f64 picks X Z hm1
          have r2 := fun w' => run_float_arith (P := Yba.prog) w' .sub 27 .f64 Y Z V hs1
          have hln := hsl.out
          have hkn : (k : Int) < (n : Int) := by omega
          have hkp : (k : Int) < (pk.length : Int) := by have := hpl.out; omega
          have x1 : wr.cell? ⟨GL, k, none⟩ = (fcs (leadK sh pk picks n k))[k]? := hol.cellAt k (by omega)
          have x2 : wr.frozen? ⟨GL, k, none⟩ = false := hol.frozenAt k
          obtain ⟨u0, hu0⟩ : ∃ u0, (fcs (leadK sh pk picks n k))[k]? = some u0 := ⟨_, List.getElem?_eq_getElem (by rw [fcs_length, leadK_length]; omega)⟩
          rw [hu0] at x1
          have hne1 : GL ≠ ob := fun e => hnF (e ▸ hr.fob)
          have hne2 : GL ≠ gp := fun e => hnF (e ▸ hr.fpk gp rfl)
          have HX := Lib.hid hX
          have HY := Lib.hid hY
          have HZ := Lib.hid hZ
          have HV := Lib.hid hV
          clear hX hY hZ hV hcs hcp hm1 hs1 hu0
          go_wp2_with fail
          go_region_held (fun w' => w'.cell? ⟨ob, 1, none⟩ = some (.slice (some ⟨gp, 0, none⟩) pk.length pc) ∧ w'.cell? ⟨gp, k, none⟩ = some (.float .f64 Y) ∧ w'.cell? ⟨ob, 2, none⟩ = some (.float .f64 picks)) (go_keep) (fail)
          go_wp2_with fail
          go_roundg (gk - 1)
          case measure => omega
          case rel =>
            have st := (hol.stored k (.float .f64 V)).1
            have fs : Fr wr (wr.setCell ⟨GL, k, none⟩ (.float .f64 V)) (fun j => j = GL) := (Fr.refl wr _).setCell _ _ (fun _ => rfl)
            refine ⟨k + 1, by go_num, by omega, by omega, ?_, ?_, ?_⟩
            · have := leadK_step (sh := sh) (pk := pk) (picks := picks) (n := n) (k := k) (by omega) (V := V) (by rw [HV.out, HZ.out, HX.out, HY.out])
              rw [← this]; exact st
            · exact (hr.keep fs (fun j hj e => hnF (e ▸ hj))).drewN 1
            · exact ((hfr.setCell _ _ (fun hlt => absurd hlt (Nat.not_lt.2 hGLw)))).drew
        · go_wp2_with fail
          go_meet
          case rel => exact ⟨by unfold leadL; rw [show sh.length = k by omega]; exact hol, hr, hfr⟩
    case rest =>
      obtain ⟨hol, hx, frx⟩ := hcut
      clear c0 c1 c2 c3 c4 c5 hfz hm hl0 frcm
      obtain ⟨c0, c1, c2, c3, c4, c5⟩ := hx.cells
      have hfz := hx.free
      have hll : (leadL sh pk picks n).length = n := leadK_length _ _ _ _ _
      have hol' : wc.ownsRow 0 27 1 (.slice (some ⟨GL, 0, none⟩) n n) (leadL sh pk picks n).length (fcs (leadL sh pk picks n)) := by rw [hll]; exact hol
      have h2 := (hx.setPk hol' (notF_of hnF)).setPicks 0
      have fr2 : Fr w ((wc.setCell ⟨ob, 1, none⟩ (.slice (some ⟨GL, 0, none⟩) n n)).setCell ⟨ob, 2, none⟩ (.float .f64 0)) F := (frx.setCell _ _ (fun _ => hx.fob)).setCell _ _ (fun _ => hx.fob)
      clear hol hol'
      go_upto_region 11 with fail
      obtain ⟨w2, hw2⟩ : ∃ w2, w2 = (wc.setCell ⟨ob, 1, none⟩ (.slice (some ⟨GL, 0, none⟩) n n)).setCell ⟨ob, 2, none⟩ (.float .f64 0) := ⟨_, rfl⟩
      rw [← hw2] at h2 fr2 ⊢
      clear hw2 c0 c1 c2 c3 c4 c5 hfz hx frx
      obtain ⟨c0, c1, c2, c3, c4, c5⟩ := h2.cells
      have hfz := h2.free
      have MX := Lib.hid (max_any gw n capw ws w2 HN h0 (by omega) (Lib.hid ok.out.nice) (fun j hj => (World.cell?_of_block (w := w) (a := ⟨gw, j, none⟩) (fr2.block gw hgw hgF)).trans (hc.out j hj)))
      obtain ⟨MM, hMM⟩ : ∃ MM, MM = maxL ws := ⟨_, rfl⟩
      rw [← hMM] at MX
      have HMM := Lib.hid hMM
      clear hMM
      obtain ⟨TT, hTT⟩ : ∃ TT, TT = totL ws := ⟨_, rfl⟩
      have HTT := Lib.hid hTT
      clear hTT
      have cw : Hid (∀ j, j < n → w2.cell? ⟨gw, j, none⟩ = some (.float .f64 (ws.getD j 0))) := fun j hj => (World.cell?_of_block (w := w) (a := ⟨gw, j, none⟩) (fr2.block gw hgw hgF)).trans (hc.out j hj)
      go_upto_block 2 with (go_at_call 12; refine MX.out.mono ?_; rintro e w3 ⟨rfl, hw3⟩; rw [hw3]; clear hw3 w3)
      go_cut [9] (fun tv wx => tv = .float .f64 TT ∧ wx = w2)
      case first =>
        go_wp2_with fail
        go_loopg [9, 71] n (fun gk tv iv wr => ∃ k : Nat, iv = .int .i64 k ∧ k ≤ n ∧ n ≤ k + gk ∧ tv = .float .f64 (totK ws MM k) ∧ wr = w2)
        case atStart => exact ⟨0, rfl, Nat.zero_le _, by omega, rfl, rfl⟩
        case round =>
          obtain ⟨k, rfl, hk, hgk, rfl, rfl⟩ := hrel
          by_cases hkn : k < n
          · obtain ⟨X, hX⟩ : ∃ X, X = ws.getD k 0 := ⟨_, rfl⟩
            have e1 : wr.cell? ⟨gw, k, none⟩ = some (.float .f64 X) := by rw [hX]; exact cw.out k hkn
            have q1 := ok.out.quo (ws.getD k 0) (getD_memN (by rw [HN.out]; exact hkn))
            have q2 := ok.out.tot k (by rw [HN.out]; exact hkn)
            rw [← hX, ← HMM.out] at q1 q2
            obtain ⟨Z, hZ⟩ : ∃ Z, Z = fdiv X MM := ⟨_, rfl⟩
            obtain ⟨T0, hT0⟩ : ∃ T0, T0 = totK ws MM k := ⟨_, rfl⟩
            obtain ⟨T1, hT1⟩ : ∃ T1, T1 = totK ws MM (k + 1) := ⟨_, rfl⟩
            rw [← hZ] at q1 q2
            rw [← hT0, ← hT1] at q2
            rw [← hT0]
            have r1 := fun w' => run_float_arith (P := Yba.prog) w' .quo 27 .f64 X MM Z q1
            have r2 := fun w' => run_float_arith (P := Yba.prog) w' .add 27 .f64 T0 Z T1 q2
            have HT1 := Lib.hid hT1
            clear hX q1 q2 hZ hT0 hT1
            go_wp2_with fail
            go_roundg (gk - 1)
            case measure => omega
            case rel => exact ⟨k + 1, by go_num, by omega, by omega, by rw [HT1.out], rfl⟩
          · have e : totK ws MM k = TT := by rw [HTT.out, HMM.out]; unfold totL; rw [HN.out, show n = k by omega]
            have HE := Lib.hid e
            clear e
            go_wp2_with fail
            go_meet
            case rel => exact ⟨by rw [HE.out], rfl⟩
      case rest =>
        obtain ⟨rfl, rfl⟩ := hcut
        obtain ⟨F3, h3, f3, n3⟩ := h2.setSh (sh' := []) (Fr.refl _ _) (owns_cut0 h2.osh) (.inl ownBlock_len)
        have n2 : New w F (fun k => F k ∨ (Value.slice (some ⟨GL, 0, none⟩) n n).ownBlock = some k) := by
          rintro k (hk | hk)
          · exact .inl hk
          · simp only [Value.ownBlock, Option.some.injEq] at hk
            subst hk
            exact .inr hGLw
        have nn3 : New w F F3 := n2.trans n3 fr2.size
        have fr3 : Fr w (wc.setCell ⟨ob, 0, none⟩ (.slice sa 0 sc)) F := fr2.next f3 n2
        go_upto_region 18 with fail
        generalize hW3 : wc.setCell ⟨ob, 0, none⟩ (.slice sa 0 sc) = w3 at *
        clear hW3 h2 n2 n3 f3 fr2 c0 c1 c2 c3 c4 c5 hfz MX cw
        go_upto_block 4 with fail
        go_cut [] (fun wx => ∃ F' sv, OrdV wx F' ob (shrL ws) (leadL sh pk picks n) 0 SL wt du sv (.slice (some ⟨GL, 0, none⟩) n n) (.slice wa wt.length wcp) (.slice da du.length dc) ∧ Fr w wx F ∧ New w F F')
        case first =>
          go_wp2_with fail
          go_loopg [91] n (fun gk iv wr => ∃ (k : Nat) (F' : Nat → Prop) (sav : Option Addr) (scv : Nat), iv = .int .i64 k ∧ k ≤ n ∧ n ≤ k + gk ∧ OrdV wr F' ob ((shrL ws).take k) (leadL sh pk picks n) 0 SL wt du (.slice sav k scv) (.slice (some ⟨GL, 0, none⟩) n n) (.slice wa wt.length wcp) (.slice da du.length dc) ∧ Fr w wr F ∧ New w F F')
          case atStart => exact ⟨0, F3, sa, sc, rfl, Nat.zero_le _, by omega, h3, fr3, nn3⟩
          case round =>
            obtain ⟨k, F', sav, scv, rfl, hk, hgk, hr, hfr, hnw⟩ := hrel
            by_cases hkn : k < n
            · obtain ⟨X, hX⟩ : ∃ X, X = ws.getD k 0 := ⟨_, rfl⟩
              have hFg : ¬ F' gw := fun e => by rcases hnw gw e with e1 | e1; exact hgF e1; omega
              have e1 : wr.cell? ⟨gw, k, none⟩ = some (.float .f64 X) := by rw [hX]; exact (World.cell?_of_block (w := w) (a := ⟨gw, k, none⟩) (hfr.block gw hgw hgF)).trans (hc.out k hkn)
              have q1 := ok.out.quo (ws.getD k 0) (getD_memN (by rw [HN.out]; exact hkn))
              have q2 := ok.out.shr (ws.getD k 0) (getD_memN (by rw [HN.out]; exact hkn))
              rw [← hX, ← HMM.out] at q1 q2
              rw [← HTT.out] at q2
              obtain ⟨Z, hZ⟩ : ∃ Z, Z = fdiv X MM := ⟨_, rfl⟩
              obtain ⟨S, hS⟩ : ∃ S, S = fdiv Z TT := ⟨_, rfl⟩
              rw [← hZ] at q1 q2
              rw [← hS] at q2
              have r1 := fun w' => run_float_arith (P := Yba.prog) w' .quo 27 .f64 X MM Z q1
              have r2 := fun w' => run_float_arith (P := Yba.prog) w' .quo 27 .f64 Z TT S q2
              have HST := Lib.hid (shr_step (ws := ws) (k := k) (S := S) (by rw [HN.out]; exact hkn) (by rw [hS, hZ, hX, HMM.out, HTT.out]))
              have hlk : ((shrL ws).take k).length = k := by rw [List.length_take, shrL_length, HN.out]; omega
              have ho0 := hr.osh
              rw [hlk] at ho0
              obtain ⟨d0, d1, d2, d3, d4, d5⟩ := hr.cells
              clear hX q1 q2 hZ hS hlk
              go_wp2_with (at_builtin; refine wpList_app _ rfl _ _ 23 rfl 0 27 i0 _ 1 8 Yba.underlying23 hi0 hz0 hz1 hz2 rfl _ _ _ rfl (ho0.alloc _) ⟨wr.heap.size, 0, none⟩ 1 1 [.float .f64 S] rfl rfl (by decide) (one_newF wr S 27) (by intro u hu; simp at hu; subst hu; rfl) (by omega) (by decide) (Nat.zero_le _) ?_)
              intro v1 w1 how1 hsn hg1
              obtain ⟨a1, cp1, rfl⟩ := owns_shape how1
              have fr1 : Fr wr w1 (fun j => (Value.slice sav k scv).ownBlock = some j) := ((Fr.refl wr _).alloc _).grown hg1 (fun _ _ h => h)
              have hsn' : SameOrNew wr (.slice sav k scv) (.slice a1 (k + 1) cp1) := hsn.imp id (fun ⟨g, h, hge⟩ => ⟨g, h, by simp at hge; omega⟩)
              have how1' : w1.ownsRow 0 27 1 (.slice a1 (k + 1) cp1) ((shrL ws).take (k + 1)).length (fcs ((shrL ws).take (k + 1))) := by
                rw [← HST.out, List.length_take, shrL_length, HN.out, Nat.min_eq_left (by omega)]; exact how1
              have hb1 := (fr1.block ob (hr.lt ob hr.fob) hr.neOb_sh).trans hr.blk
              have g0 : w1.cell? ⟨ob, 0, none⟩ = some (.slice sav k scv) := by rw [cell_of_row w1 ob _ _ 34 (0, 0) hb1]; rfl
              have g1 : w1.frozen? ⟨ob, 0, none⟩ = false := frozen_of_row w1 ob _ _ 34 hb1
              obtain ⟨F'', h4, f4, n4⟩ := hr.setSh fr1 how1' hsn'
              have F4 := hfr.next f4 hnw
              have N4 := hnw.trans n4 hfr.size
              clear how1 hsn hg1 hb1 how1' hsn' hr hfr hnw
              go_wp2_with fail
              go_roundg (gk - 1)
              case measure => omega
              case rel => exact ⟨k + 1, F'', a1, cp1, by go_num, by omega, by omega, h4, F4, N4⟩
            · have et : (shrL ws).take k = shrL ws := List.take_of_length_le (by rw [shrL_length, HN.out]; omega)
              rw [et] at hr
              go_wp2_with fail
              go_meet
              case rel => exact ⟨F', _, hr, hfr, hnw⟩
        case rest =>
          obtain ⟨F5, sv, h5, f5, n5⟩ := hcut
          clear h3 fr3 nn3
          obtain ⟨c0, c1, c2, c3, c4, c5⟩ := h5.cells
          have hfz := h5.free
          have CL1 := Lib.hid (clear_any ob 4 wa wt.length wcp wc c4 (hfz 4))
          have h6 := h5.clearWt rfl
          obtain ⟨x0, x1, x2, x3, x4, x5⟩ := h6.cells
          have CL2 := Lib.hid (clear_any ob 5 da du.length dc _ x5 (h6.free 5))
          have h7 := h6.clearDu rfl
          have f7 : Fr w ((wc.setCell ⟨ob, 4, none⟩ (.slice wa 0 wcp)).setCell ⟨ob, 5, none⟩ (.slice da 0 dc)) F := by
            refine f5.next (F' := F5) ?_ n5
            exact ((Fr.refl wc _).setCell _ _ (fun _ => h5.fob)).setCell _ _ (fun _ => h5.fob)
          go_wp2_with fail
          refine CL1.out.mono ?_
          rintro e w6 ⟨rfl, hw6⟩
          rw [hw6]
          clear hw6 w6
          go_wp2_with fail
          refine CL2.out.mono ?_
          rintro e w6 ⟨rfl, hw6⟩
          rw [hw6]
          clear hw6 w6
          generalize hW7 : (wc.setCell ⟨ob, 4, none⟩ (.slice wa 0 wcp)).setCell ⟨ob, 5, none⟩ (.slice da 0 dc) = w7 at *
          clear hW7 h6 h5 CL1 CL2 c0 c1 c2 c3 c4 c5 x0 x1 x2 x3 x4 x5 hfz f5
          go_wp2_with fail
          go_loopg [119] n (fun gk iv wr => ∃ (k : Nat) (F' : Nat → Prop), iv = .int .i64 k ∧ k ≤ n ∧ n ≤ k + gk ∧ Ord wr F' ob (shrL ws) (leadL sh pk picks n) 0 SL (waitK (leadL sh pk picks n) (shrL ws) SL k) [] ∧ Fr w wr F ∧ New w F F')
          case atStart => exact ⟨0, F5, rfl, Nat.zero_le _, by omega, ⟨_, _, _, _, h7⟩, f7, n5⟩
          case round =>
            obtain ⟨k, F', rfl, hk, hgk, hr, hfr, hnw⟩ := hrel
            by_cases hkn : k < n
            · have a1 := ok.out.add k (by rw [HN.out]; exact hkn)
              have a2 := ok.out.key k (by rw [HN.out]; exact hkn)
              rw [HN.out, ← HSL.out] at a1 a2
              have hwl := waitK_length (leadL sh pk picks n) (shrL ws) SL k
              have WT := Lib.hid (wait_any wr F' ob (shrL ws) (leadL sh pk picks n) 0 SL (waitK (leadL sh pk picks n) (shrL ws) SL k) [] k hr (by rw [shrL_length, HN.out]; exact hkn) (by rw [shrL_length, HN.out]; exact leadK_length _ _ _ _ _) (by rw [shrL_length, HN.out]; omega)
                (by rw [hwl]; omega) (fun y hy => by have := waitK_mem hy; omega) _ _ a1 a2)
              have HWS := Lib.hid (waitK_succ (leadL sh pk picks n) (shrL ws) SL k)
              clear a1 a2 hwl hr
              go_wp2_with (go_at_call 14; refine WT.out.mono ?_; rintro e w8 ⟨rfl, R8⟩)
              obtain ⟨F'', hO2, f8, n8⟩ := R8
              go_roundg (gk - 1)
              case measure => omega
              case rel => exact ⟨k + 1, F'', by go_num, by omega, by omega, by rw [HWS.out]; exact hO2, hfr.next f8 hnw, hnw.trans n8 hfr.size⟩
            · have ek : k = n := by omega
              rw [ek] at hr
              go_wp2_with fail
              go_end0
              exact ⟨rfl, F', hr, hfr, hnw⟩

end Go.Proofs.Ybulkcnam
