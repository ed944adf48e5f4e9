/-
  THE WALK over LawS4445CFresh.
-/
import Derived.Test.YbulkcnamFr4
import Derived.Test.YbulkcnamCarryW
namespace Go.Proofs.Ybulkcnam
open Go.RowKit
attribute [local go_sem] run_store_float

theorem scale_any (a : Int) (w : World) (h0 : 0 ≤ a) (h1 : a ≤ 255) :
    Calls Yba.prog 6 #[.int .u8 a] w fun e w' => (∃ sc s, e = .returned (.float .f64 sc) ∧ ScaleOk sc s) ∧ w' = w := by
  rcases (show a % 3 = 0 ∨ a % 3 = 1 ∨ a % 3 = 2 by omega) with h | h | h
  · obtain ⟨s, hs⟩ := scale1
    have HS := Lib.hid hs
    clear hs
    have b1 : (a % 3 == 1) = false := by rw [h]; rfl
    have b2 : (a % 3 == 2) = false := by rw [h]; rfl
    go_enter Yba.func6, Yba.ntmps6
    go_wp2_with fail
    go_ret
    exact ⟨⟨_, s, rfl, HS.out⟩, rfl⟩
  · obtain ⟨s, hs⟩ := scale2
    have HS := Lib.hid hs
    clear hs
    go_enter Yba.func6, Yba.ntmps6
    go_wp2_with fail
    go_ret
    exact ⟨⟨_, s, rfl, HS.out⟩, rfl⟩
  · obtain ⟨s, hs⟩ := scale3
    have HS := Lib.hid hs
    clear hs
    go_enter Yba.func6, Yba.ntmps6
    go_wp2_with fail
    go_ret
    exact ⟨⟨_, s, rfl, HS.out⟩, rfl⟩

@[local go_sem] theorem call16 (z : Nat) (w : World) : (callFunc 16 #[.float .f64 z]).run Yba.prog w = .ok (.value (.int .u64 (z : Nat))) w := by
  rw [run_callFunc_extern Yba.func16 (e := Go.Extern.MathFloatBits.float64bits) (by kernel_rfl) (by kernel_rfl) (by kernel_rfl) (by kernel_rfl)]
  rfl
@[local go_sem] theorem call15 (n : Int) (w : World) : (callFunc 15 #[.int .u64 n]).run Yba.prog w = .ok (.value (.float .f64 n.toNat)) w := by
  rw [run_callFunc_extern Yba.func15 (e := Go.Extern.MathFloatBits.float64frombits) (by kernel_rfl) (by kernel_rfl) (by kernel_rfl) (by kernel_rfl)]
  rfl

theorem andNot_top (z : Nat) : bits BinOp.andNot IntKind.u64 (z : Int) 9223372036854775808 = ((z % 2 ^ 63 : Nat) : Int) := by
  have e : bits BinOp.andNot IntKind.u64 (z : Int) 9223372036854775808 = IntKind.u64.wrap ((BitVec.ofInt 64 (z : Int) &&& ~~~ BitVec.ofInt 64 9223372036854775808).toNat : Int) := rfl
  have e2 : ~~~ BitVec.ofInt 64 9223372036854775808 = BitVec.ofNat 64 (2 ^ 63 - 1) := by decide
  rw [e, e2, BitVec.ofInt_natCast, BitVec.toNat_and, BitVec.toNat_ofNat, BitVec.toNat_ofNat]
  have e3 : (2 ^ 63 - 1) % 2 ^ 64 = 2 ^ 63 - 1 := by decide
  rw [e3, Nat.and_two_pow_sub_one_eq_mod]
  have e4 : z % 2 ^ 64 % 2 ^ 63 = z % 2 ^ 63 := by omega
  rw [e4]
  have eb : IntKind.u64.bits = 64 := rfl
  simp [IntKind.wrap, eb]
  omega

theorem abs_any (z : Nat) (w : World) :
    Calls Yba.prog 8 #[.float .f64 z] w fun e w' => e = .returned (.float .f64 (z % 2 ^ 63)) ∧ w' = w := by
  have ha := andNot_top z
  go_enter Yba.func8, Yba.ntmps8
  go_wp2_with fail
  go_ret
  refine ⟨?_, rfl⟩
  simp

theorem rk_lt {vs : List Nat} {a b : Nat} (ha : vs.getD a 0 ≤ 16) (hb : vs.getD b 0 ≤ 16) (a1 : a < 1000) (b1 : b < 1000) (h : vs.getD b 0 < vs.getD a 0 ∨ (vs.getD a 0 = vs.getD b 0 ∧ a < b)) : rkI vs a < rkI vs b := by unfold rkI; omega
theorem rk_ge {vs : List Nat} {a b : Nat} (ha : vs.getD a 0 ≤ 16) (hb : vs.getD b 0 ≤ 16) (a1 : a < 1000) (b1 : b < 1000) (h : ¬ (vs.getD b 0 < vs.getD a 0 ∨ (vs.getD a 0 = vs.getD b 0 ∧ a < b))) : rkI vs b ≤ rkI vs a := by unfold rkI; omega

theorem sort_stored {w : World} {g n m a b : Nat} {l : List Nat} (h : w.ownsRow 0 3 1 (.slice (some ⟨g, 0, none⟩) n n) n (ivs l)) (ha : a = l.getD (m + 1) 0) (hb : b = l.getD m 0) :
    ((w.setCell ⟨g, m + 1, none⟩ (.int .i64 (b : Nat))).setCell ⟨g, m, none⟩ (.int .i64 (a : Nat))).ownsRow 0 3 1 (.slice (some ⟨g, 0, none⟩) n n) n (ivs (swapN l (m + 1))) := by
  have st := (((h.stored (m + 1) (.int .i64 ((b : Nat) : Int))).1).stored m (.int .i64 ((a : Nat) : Int))).1
  rw [ivs_set, ivs_set] at st
  have es : (l.set (m + 1) b).set m a = swapN l (m + 1) := by rw [ha, hb]; rfl
  rw [es] at st
  exact st

/-- The state while it is popped. -/
def Pops (w wx : World) (ob go n sc : Nat) (vs l : List Nat) (k : Nat) : Prop :=
  ∃ (L : List (Nat × Nat)) (F : Nat → Prop), Ord wx F ob (shrL (wsOf sc vs)) (zeros n) 0 (slackOf n) L [] ∧ Left sc vs l k L ∧ wx.ownsRow 0 3 1 (.slice (some ⟨go, 0, none⟩) n n) n (ivs l) ∧ Below w.heap.size w wx ∧ ∀ k, F k → w.heap.size ≤ k ∧ k ≠ go
theorem Left.length {sc k : Nat} {vs l : List Nat} {L : List (Nat × Nat)} (h : Left sc vs l k L) : L.length = l.length - k := by
  have := h.2.1.length_eq; simpa using this
theorem Left.small {sc k n : Nat} {vs l : List Nat} {L : List (Nat × Nat)} (h : Left sc vs l k L) (hp : l.Perm (List.range n)) (hn : n ≤ 301) : ∀ y ∈ L, y.2 ≤ 1000 := by
  intro y hy
  have := h.2.1.mem_iff.1 (List.mem_map_of_mem (f := (·.2)) hy)
  have := List.mem_range.1 (hp.mem_iff.1 (List.mem_of_mem_drop this))
  omega
theorem pop_kept {w : World} {F : Nat → Prop} {ob : Nat} {sh pk : List Nat} {picks slack : Nat} {wt du : List (Nat × Nat)} (h : Ord w F ob sh pk picks slack wt du) (hn : wt.length ≤ 1000) (hs : ∀ y ∈ wt, y.2 ≤ 1000) (h0 : 0 < wt.length) {g k : Nat} {X : Value} (hg : ¬ F g) (hc : w.cell? ⟨g, k, none⟩ = some X) :
    Calls Yba.prog 10 #[.pointer (some ⟨ob, 4, none⟩)] w.drew fun e w' => e = .returned (.int .i64 ((wt.getD 0 dI).2 : Nat)) ∧ w'.cell? ⟨g, k, none⟩ = some X ∧ Hid (∃ F', Ord w' F' ob sh pk picks slack (popL wt) du ∧ Fr w w' F ∧ New w F F') := by
  obtain ⟨shv, pkv, wtv, duv, h⟩ := h
  refine (pop_any 0 ob 4 34 _ w.drew wtv wt h.blk rfl (by decide) h.owt h0 hn hs).mono ?_
  rintro e w' ⟨rfl, v', hb, hw, hs', hf⟩
  have hf' : Fr w w' (fun k => k = ob ∨ wtv.ownBlock = some k) := ⟨hf.os, hf.tape, hf.output, hf.size, hf.block⟩
  obtain ⟨F', h1, h2, h3⟩ := h.setWt (wt' := popL wt) hb hw (.inl hs') hf'
  refine ⟨rfl, ?_, F', ⟨_, _, _, _, h1⟩, h2, h3⟩
  rw [World.cell?_of_block (w := w) (a := ⟨g, k, none⟩) (h2.block g (World.block_lt_of_cell? _ _ hc) hg)]; exact hc

/-- The state after setWeights: the order, the whole weights. -/
structure Set1 (w wx : World) (F : Nat → Prop) (ob gv n : Nat) (sc : Nat) (vs : List Nat) : Prop where
  ord : Ord wx F ob (shrL (wsOf sc vs)) (zeros n) 0 (slackOf n) (waitK (zeros n) (shrL (wsOf sc vs)) (slackOf n) n) []
  row : wx.ownsRow 0 3 1 (.slice (some ⟨gv, 0, none⟩) n n) n (ivs vs)
  bel : Below w.heap.size w wx
  off : ∀ k, F k → w.heap.size ≤ k ∧ k ≠ gv
theorem Set1.keep {w wx wy : World} {F S : Nat → Prop} {ob gv n sc : Nat} {vs : List Nat} (h : Set1 w wx F ob gv n sc vs) (hf : Fr wx wy S) (h1 : ∀ k, F k → ¬ S k) (h2 : ¬ S gv) (h3 : ∀ k, k < w.heap.size → ¬ S k) : Set1 w wy F ob gv n sc vs :=
  ⟨h.ord.keep hf h1, hf.owns h.row (notAt h2), h.bel.trans (hf.below h.bel.size h3), h.off⟩

theorem order_pos {x : Nat} {a : Rat} (h : Fl.Nice x a) : FloatKind.f64.format.order x 0 = some .gt := by
  obtain ⟨M, P, hr, h1, _, _⟩ := h
  show Ieee.double.order x 0 = some .gt
  unfold Ieee.Format.order
  rw [Fl.read_zero, hr]
  have e : (Ieee.Datum.number false M P).order (.number false 0 (-1074)) = some (compare ((M <<< (P - min P (-1074)).toNat : Nat) : Int) ((0 <<< (-1074 - min P (-1074)).toNat : Nat) : Int)) := rfl
  rw [e, Nat.zero_shiftLeft]
  have hlt : (0 : Int) < ((M <<< (P - min P (-1074)).toNat : Nat) : Int) := by
    have : 0 < M <<< (P - min P (-1074)).toNat := by rw [Nat.shiftLeft_eq]; exact Nat.mul_pos (by omega) (Nat.two_pow_pos _)
    omega
  generalize ((M <<< (P - min P (-1074)).toNat : Nat) : Int) = q at *
  have : compare q ((0 : Nat) : Int) = .gt := by rw [Int.compare_eq_gt]; exact hlt
  rw [this]

set_option maxHeartbeats 1000000 in
set_option maxRecDepth 10000 in
theorem fresh_any (w : World) (a0 : Int) (ra : Option Addr) (len rc : Nat) (zs : List Int) (a2 : Int) (hR : Raw w ra len zs) (h0 : 0 ≤ a0) (h1 : a0 ≤ 255) (h20 : 0 ≤ a2) (h21 : a2 ≤ 255) (hl : len ≤ 300) :
    Calls Yba.prog 3 #[.int .u8 a0, .slice ra len rc, .int .u8 a2] w fun e w' => e = .returned (.bool true) ∧ Below w.heap.size w w' := by
  obtain ⟨j0, hj0, hy0, hy1, hy2⟩ := info_parts Yba.info3
  have SC := Lib.hid (scale_any a2 w h20 h21)
  have HR := Lib.hid hR
  clear hR
  obtain ⟨n, hn⟩ : ∃ n, n = len + 1 := ⟨_, rfl⟩
  have HN := Lib.hid hn
  obtain ⟨vs, hvs⟩ : ∃ vs, vs = vsOf a0 zs := ⟨_, rfl⟩
  have HVS := Lib.hid hvs
  have hvl : Hid (vs.length = n) := by show _ = _; rw [hvs, vsOf_length, HR.out.1, hn]
  have hn0 : 0 < n := by omega
  have hn1 : n ≤ 301 := by omega
  clear hvs hn
  go_enter Yba.func3, Yba.ntmps3
  go_wp2_with fail
  refine SC.out.mono ?_
  rintro e w1 ⟨⟨sc, s, rfl, hsc⟩, hw1⟩
  rw [hw1]
  clear hw1 w1 SC
  have FR : Hid (Fresh sc s vs) := ⟨hsc, by rw [HVS.out]; simp [vsOf], by rw [hvl.out]; exact hn1, by rw [HVS.out]; exact vsOf_mem _ _⟩
  have BD := Lib.hid (build_any w a0 ra len rc zs sc HR.out h0 h1 hl (fun v v1 v2 => (hsc.2 v v1 v2).1))
  rw [← HVS.out, ← HN.out] at BD
  clear hsc
  go_wp2_with fail
  refine BD.out.mono ?_
  rintro e wc ⟨gv, hgv, rfl, how1, hov, belc⟩
  clear BD
  have hwl : Hid ((wsOf sc vs).length = n) := by show _ = _; rw [wsOf_length]; exact hvl.out
  obtain ⟨ob, hob⟩ : ∃ ob, ob = wc.heap.size := ⟨_, rfl⟩
  have hobg : gv < ob := by rw [hob]; exact (hov.lt _ rfl).2
  obtain ⟨wo, hwo⟩ : ∃ wo, wo = wc.alloc (.cells #[.slice none 0 0, .slice none 0 0, .float .f64 0, .float .f64 0, .slice none 0 0, .slice none 0 0] 34) := ⟨_, rfl⟩
  have fro : Fr wc wo (fun _ => False) := by rw [hwo]; exact (Fr.refl wc _).alloc _
  have hobs : ob < wo.heap.size := by rw [hwo, hob]; simp
  have hO0 : Ord wo (fun k => k = ob) ob [] [] 0 0 [] [] := ord_new hobs (by rw [hwo, hob]; exact heap_alloc_new wc _)
  have hoo1 := fro.owns how1 (fun _ _ e => e)
  have hoov := fro.owns hov (fun _ _ e => e)
  have belo : Below w.heap.size w wo := belc.trans (fro.below belc.size (fun _ _ e => e))
  have ST := Lib.hid (set_any wo _ ob n w.heap.size n (wsOf sc vs) [] [] 0 0 [] [] hO0 hwl hn0 hn1 (fcell hoo1 hwl.out) (by show ¬ w.heap.size = ob; omega) (by omega) (Nat.zero_le _) rfl (setOk_of FR.out.wts (fun i hi => by simp at hi) (fun i hi => by simp at hi) ⟨_, _, _, Fl.read_zero⟩))
  rw [lead_none] at ST
  clear hO0 how1 hov belc fro
  go_wp2_with fail
  rw [← hwo, ← hob]
  clear hwo hob
  refine ST.out.mono ?_
  rintro e w2 ⟨rfl, F, hO1, fr1, nw1⟩
  have S1 : Set1 w w2 F ob gv n sc vs := ⟨hO1, fr1.owns hoov (notAt (by show ¬ gv = ob; omega)), belo.trans (fr1.below belo.size (fun k hk e => by subst e; omega)), nw1.off (fun k hk => by subst hk; omega) (fun k hk => by omega)⟩
  clear ST belo hoo1 hoov nw1 fr1 hO1
  have hsL : Hid ((shrL (wsOf sc vs)).length = n) := by show _ = _; rw [shrL_length, hwl.out]
  have hzL : Hid ((zeros n).length = n) := by show _ = _; simp [zeros]
  obtain ⟨⟨sa2, sc2, c0⟩, ⟨sa3, sc3, c1⟩, c2, c3, -⟩ := S1.ord.cells2
  rw [hsL.out] at c0
  rw [hzL.out] at c1
  obtain ⟨SL, hSL⟩ : ∃ SL, SL = slackOf n := ⟨_, rfl⟩
  rw [← hSL] at c3
  have HSL := Lib.hid hSL
  clear hSL
  have hnn : ((n : Int) == (n : Int)) = true := by simp
  go_upto_if 63 with fail
  go_cut [11] (fun v wx => v = .float .f64 SL ∧ wx = w2)
  case first =>
    by_cases hn2 : 1 < n
    · have hd := (slack_ok hn1).2 hn2
      rw [← HSL.out, ← foi, show ((2 * n - 2 : Nat) : Int) = 2 * (n : Int) - 2 by omega] at hd
      have r0 := fun w' => run_float_arith (P := Yba.prog) w' .quo 27 .f64 4607182418800017408 (floatOfInt .f64 (2 * (n : Int) - 2)) SL hd
      clear hd
      go_wp2_with fail
      go_meet
      case rel => exact ⟨rfl, rfl⟩
    · have e : SL = 0 := by rw [HSL.out]; unfold slackOf; rw [if_neg hn2]
      subst e
      go_wp2_with fail
      go_meet
      case rel => exact ⟨rfl, rfl⟩
  case rest =>
    obtain ⟨rfl, rfl⟩ := hcut
    have hso : FloatKind.f64.format.order SL SL = some .eq := by rw [HSL.out]; exact Fl.order_self (slack_ok hn1).1.nn
    have hvc : Hid (∀ j, j < n → wc.cell? ⟨gv, j, none⟩ = some (.int .i64 ((vs.getD j 0 : Nat) : Int))) := icell S1.row hvl.out
    obtain ⟨SH, hSH⟩ : ∃ SH, SH = shrL (wsOf sc vs) := ⟨_, rfl⟩
    have HSH := Lib.hid hSH
    have hsL' : Hid (SH.length = n) := by show _ = _; rw [hSH]; exact hsL.out
    clear hSH
    have ho00 : FloatKind.f64.format.order 0 0 = some .eq := by decide
    go_upto_block 0 with fail
    clear c0 c1 c2 c3
    go_cut [12] (fun tv wx => tv = .float .f64 (sumK SH n) ∧ Fr wc wx (fun _ => False))
    case first =>
      go_wp2_with fail
      go_loopg [12, 13] n (fun gk tv iv wr => ∃ k : Nat, iv = .int .i64 k ∧ k ≤ n ∧ n ≤ k + gk ∧ tv = .float .f64 (sumK SH k) ∧ Fr wc wr (fun _ => False))
      case atStart => exact ⟨0, rfl, Nat.zero_le _, by omega, rfl, Fr.refl _ _⟩
      case round =>
        obtain ⟨k, rfl, hk, hgk, rfl, hfr⟩ := hrel
        have S2 := S1.keep hfr (fun _ _ e => e) (fun e => e) (fun _ _ e => e)
        by_cases hkn : k < n
        · obtain ⟨shv, pkv, wtv, duv, hv⟩ := S2.ord
          obtain ⟨gs, cps, rfl, hcs⟩ := float_row hv.osh (by rw [hsL.out]; exact hn0)
          obtain ⟨gp, cpp, rfl, hcp⟩ := float_row hv.opk (by rw [hzL.out]; exact hn0)
          have d0 := hv.cells.1
          have d1 := hv.cells.2.1
          rw [hsL.out] at d0
          rw [hzL.out] at d1
          have e0 : wr.cell? ⟨gp, k, none⟩ = some (.float .f64 0) := by rw [hcp k (by rw [hzL.out]; exact hkn), zeros_get]
          obtain ⟨X, hX⟩ : ∃ X, X = SH.getD k 0 := ⟨_, rfl⟩
          obtain ⟨X0, hX0⟩ : ∃ X0, X0 = SH.getD 0 0 := ⟨_, rfl⟩
          have e1 : wr.cell? ⟨gs, k, none⟩ = some (.float .f64 X) := by rw [hX, HSH.out]; exact hcs k (by rw [hsL.out]; exact hkn)
          have e2 : wr.cell? ⟨gs, 0, none⟩ = some (.float .f64 X0) := by rw [hX0, HSH.out]; exact hcs 0 (by rw [hsL.out]; exact hn0)
          obtain ⟨V, hV⟩ : ∃ V, V = vs.getD k 0 := ⟨_, rfl⟩
          obtain ⟨V0, hV0⟩ : ∃ V0, V0 = vs.getD 0 0 := ⟨_, rfl⟩
          have e3 : wr.cell? ⟨gv, k, none⟩ = some (.int .i64 (V : Nat)) := by rw [hV]; exact icell S2.row hvl.out k hkn
          have e4 : wr.cell? ⟨gv, 0, none⟩ = some (.int .i64 (V0 : Nat)) := by rw [hV0]; exact icell S2.row hvl.out 0 hn0
          have hkv : k < vs.length := by rw [hvl.out]; exact hkn
          obtain ⟨p1, p2, z, p3, p4⟩ := FR.out.prop hkv
          have q1 := FR.out.sumStep hkv
          rw [← HSH.out, ← hX, ← hV0] at p1
          rw [← HSH.out, ← hX0, ← hV] at p2
          rw [← HSH.out, ← hX, ← hX0, ← hV, ← hV0] at p3
          rw [← HSH.out, ← hX] at q1
          obtain ⟨x, hx⟩ : ∃ x, Fl.Nice X x := by rw [hX, HSH.out]; exact shrL_nice FR.out.wts (by rw [hwl.out]; exact hkn)
          have hgt := order_pos hx
          obtain ⟨A, hA⟩ : ∃ A, A = fmul X (Fl.fi V0) := ⟨_, rfl⟩
          obtain ⟨B, hB⟩ : ∃ B, B = fmul X0 (Fl.fi V) := ⟨_, rfl⟩
          obtain ⟨T0, hT0⟩ : ∃ T0, T0 = sumK SH k := ⟨_, rfl⟩
          obtain ⟨T1, hT1⟩ : ∃ T1, T1 = sumK SH (k + 1) := ⟨_, rfl⟩
          rw [← hA, ← foi] at p1
          rw [← hB, ← foi] at p2
          rw [← hA, ← hB] at p3
          rw [← hT0, ← hT1] at q1
          rw [← hT0]
          have r1 := fun w' => run_float_arith (P := Yba.prog) w' .mul 27 .f64 X (floatOfInt .f64 (V0 : Int)) A p1
          have r2 := fun w' => run_float_arith (P := Yba.prog) w' .mul 27 .f64 X0 (floatOfInt .f64 (V : Int)) B p2
          have r3 := fun w' => run_float_arith (P := Yba.prog) w' .sub 27 .f64 A B z p3
          have r4 := fun w' => run_float_arith (P := Yba.prog) w' .add 27 .f64 T0 X T1 q1
          have hab : (FloatKind.f64.format.order (z % 2 ^ 63) 4427486594234968593 == some .gt) = false := p4
          obtain ⟨Z, hZ⟩ : ∃ Z, Z = z % 2 ^ 63 := ⟨_, rfl⟩
          have AB : Hid (∀ w', Calls Yba.prog 8 #[.float .f64 z] w' fun e w'' => e = .returned (.float .f64 Z) ∧ w'' = w') := by intro w'; rw [hZ]; exact abs_any z w'
          rw [← hZ] at hab
          have HT1 := Lib.hid hT1
          have hki : (k : Int) < (n : Int) := by omega
          have hki0 : (0 : Int) ≤ (k : Int) := by omega
          have hni0 : (0 : Int) < (n : Int) := by omega
          clear hX hX0 hV hV0 p1 p2 p3 p4 q1 hx hA hB hT0 hT1 hZ hcs hcp hv hkv S2
          go_wp2_with fail
          go_quiet ((go_at_call 8; exact Calls.quiet_of_same (AB.out _)))
          go_wp2_with fail
          go_roundg (gk - 1)
          case measure => omega
          case rel => exact ⟨k + 1, by go_num, by omega, by omega, by rw [HT1.out], hfr.drewN _⟩
        · have ek : k = n := by omega
          clear S2
          go_wp2_with fail
          go_meet
          case rel => exact ⟨by rw [ek], hfr⟩
    case rest =>
      obtain ⟨rfl, hfr⟩ := hcut
      have S3 := S1.keep hfr (fun _ _ e => e) (fun e => e) (fun _ _ e => e)
      clear S1 hfr hvc hso
      obtain ⟨z, p3, p4⟩ := FR.out.sumOne
      rw [← HSH.out, hvl.out] at p3
      obtain ⟨T, hT⟩ : ∃ T, T = sumK SH n := ⟨_, rfl⟩
      rw [← hT] at p3
      have HT := Lib.hid hT
      rw [← hT]
      clear hT
      have r3 := fun w' => run_float_arith (P := Yba.prog) w' .sub 27 .f64 T 4607182418800017408 z p3
      have hab : (FloatKind.f64.format.order (z % 2 ^ 63) 4472406533629990549 == some .gt) = false := p4
      obtain ⟨Z, hZ⟩ : ∃ Z, Z = z % 2 ^ 63 := ⟨_, rfl⟩
      have AB : Hid (∀ w', Calls Yba.prog 8 #[.float .f64 z] w' fun e w'' => e = .returned (.float .f64 Z) ∧ w'' = w') := by intro w'; rw [hZ]; exact abs_any z w'
      rw [← hZ] at hab
      clear hZ p3 p4
      have LN1 := Lib.hid (len_du S3.ord)
      have LN2 := Lib.hid (len_wt S3.ord)
      rw [waitK_length] at LN2
      have hbb : (((([] : List (Nat × Nat)).length : Nat) : Int) == 0) = true := rfl
      go_wp2_with fail
      refine (AB.out _).mono ?_
      rintro e w6 ⟨rfl, hw6⟩
      rw [hw6]
      clear hw6 w6
      go_upto_region 29 with (go_at_call 9; first | (refine LN1.out.mono ?_; rintro e w6 ⟨rfl, hw6⟩; rw [hw6]; clear hw6 w6) | (refine LN2.out.mono ?_; rintro e w6 ⟨rfl, hw6⟩; rw [hw6]; clear hw6 w6))
      clear LN1 LN2 AB r3 hab hbb
      go_wp2_with (at_make; refine wpList_make_full _ rfl _ _ 24 rfl 0 3 j0 (.int .i64 0) 1 Yba.underlying24 hj0 hy0 hy1 _ _ _ _ n rfl rfl rfl rfl (by rw [hy2]; omega) (by unfold maxLen; omega) (Nat.zero_le _) ?_; intro wm hom hgm; refine Hid.out ?_)
      refine Lib.hid ?_
      have frm : Fr wc wm (fun _ => False) := (Fr.refl wc _).grown hgm (fun k _ hk => by cases hk)
      obtain ⟨go, hgo⟩ : ∃ go, go = wc.heap.size := ⟨_, rfl⟩
      rw [made_zeroI, show List.replicate n 0 = fillK (List.range n) 0 by rw [fillK_zero, List.length_range]] at hom
      rw [← hgo] at hom ⊢
      have S4 := S3.keep frm (fun _ _ e => e) (fun e => e) (fun _ _ e => e)
      have hgvo : gv < go := by have : gv < wc.heap.size := (S3.row.lt _ rfl).2; omega
      have hFo : ∀ k, F k → ¬ k = go := fun k hk e => by have := S3.ord.lt k hk; omega
      have hgw : w.heap.size ≤ go := by have := S3.bel.size; omega
      clear S3 frm hgo hgm
      go_upto_block 2 with fail
      go_cut [] (fun wx => wx.ownsRow 0 3 1 (.slice (some ⟨go, 0, none⟩) n n) n (ivs (List.range n)) ∧ Fr wm wx (fun k => k = go))
      case first =>
        go_wp2_with fail
        go_loopg [15] n (fun gk iv wr => ∃ k : Nat, iv = .int .i64 k ∧ k ≤ n ∧ n ≤ k + gk ∧ wr.ownsRow 0 3 1 (.slice (some ⟨go, 0, none⟩) n n) n (ivs (fillK (List.range n) k)) ∧ Fr wm wr (fun k => k = go))
        case atStart => exact ⟨0, rfl, Nat.zero_le _, by omega, hom, Fr.refl _ _⟩
        case round =>
          obtain ⟨k, rfl, hk, hgk, hor, hfr⟩ := hrel
          by_cases hkn : k < n
          · have x3 : ∃ u, wr.cell? ⟨go, k, none⟩ = some u := ⟨_, by rw [hor.cellAt k (by omega)]; exact List.getElem?_eq_getElem (by rw [ivs_length, fillK_length _ _ (by rw [List.length_range]; omega), List.length_range]; exact hkn)⟩
            obtain ⟨u3, x3⟩ := x3
            have x4 : wr.frozen? ⟨go, k, none⟩ = false := hor.frozenAt k
            have eg : (List.range n).getD k 0 = k := by simp [List.getD, hkn]
            have hst := (hor.stored k (.int .i64 ((k : Nat) : Int))).1
            rw [ivs_set] at hst
            have hst2 := fillK_step (List.range n) k (by rw [List.length_range]; exact hkn)
            rw [eg] at hst2
            rw [hst2] at hst
            have fs : Fr wm (wr.setCell ⟨go, k, none⟩ (.int .i64 ((k : Nat) : Int))) (fun k => k = go) := hfr.setCell _ _ (fun _ => rfl)
            have HST := Lib.hid hst
            clear hst hst2 eg hor
            go_wp2_with fail
            go_roundg (gk - 1)
            case measure => omega
            case rel => exact ⟨k + 1, by go_num, by omega, by omega, HST.out, fs⟩
          · have ek : fillK (List.range n) k = List.range n := by rw [show k = (List.range n).length by rw [List.length_range]; omega]; exact fillK_full _
            rw [ek] at hor
            go_wp2_with fail
            go_meet
            case rel => exact ⟨hor, hfr⟩
      case rest =>
        obtain ⟨hor, hfr⟩ := hcut
        go_upto_block 4 with fail
        go_cut [] (fun wx => ∃ l : List Nat, l.Perm (List.range n) ∧ SortedTo (fAt vs l) n ∧ wx.ownsRow 0 3 1 (.slice (some ⟨go, 0, none⟩) n n) n (ivs l) ∧ Fr wm wx (fun k => k = go))
        case first =>
          go_wp2_with fail
          go_loopg [16] n (fun gk iv wr => ∃ (k : Nat) (l : List Nat), iv = .int .i64 k ∧ 1 ≤ k ∧ k ≤ n ∧ n ≤ k + gk ∧ l.Perm (List.range n) ∧ SortedTo (fAt vs l) k ∧ wr.ownsRow 0 3 1 (.slice (some ⟨go, 0, none⟩) n n) n (ivs l) ∧ Fr wm wr (fun k => k = go))
          case atStart => exact ⟨1, List.range n, rfl, Nat.le_refl _, by omega, by omega, .refl _, fun a b hab hb => by omega, hor, hfr⟩
          case round =>
            clear hor hfr
            obtain ⟨k, l, rfl, hk1, hk, hgk, hp, hso, hor, hfr⟩ := hrel
            by_cases hkn : k < n
            · generalize gk = gK at *
              go_wp2_with fail
              go_loopg [17] k (fun gj jv wr => ∃ (j : Nat) (l : List Nat), jv = .int .i64 j ∧ j ≤ k ∧ j ≤ gj ∧ l.Perm (List.range n) ∧ InvJ (fAt vs l) k j ∧ wr.ownsRow 0 3 1 (.slice (some ⟨go, 0, none⟩) n n) n (ivs l) ∧ Fr wm wr (fun k => k = go))
              case atStart => exact ⟨k, l, rfl, Nat.le_refl _, Nat.le_refl _, hp, hso.inv, hor, hfr⟩
              case round =>
                clear hor hfr hp hso
                obtain ⟨j, l, rfl, hj, hgj, hp, hin, hor, hfr⟩ := hrel
                by_cases hj0 : 0 < j
                · obtain ⟨m, rfl⟩ : ∃ m, j = m + 1 := ⟨j - 1, by omega⟩
                  have hll : Hid (l.length = n) := by show _ = _; rw [hp.length_eq, List.length_range]
                  have S5 := S4.keep hfr (fun k hk => hFo k hk) (by show ¬ gv = go; omega) (fun k hk => by show ¬ k = go; omega)
                  obtain ⟨a, ha⟩ : ∃ a, a = l.getD (m + 1) 0 := ⟨_, rfl⟩
                  obtain ⟨b, hb⟩ : ∃ b, b = l.getD m 0 := ⟨_, rfl⟩
                  have han : a < n := by rw [ha]; exact List.mem_range.1 (hp.mem_iff.1 (getD_memN (by rw [hll.out]; omega)))
                  have hbn : b < n := by rw [hb]; exact List.mem_range.1 (hp.mem_iff.1 (getD_memN (by rw [hll.out]; omega)))
                  have x1 : wr.cell? ⟨go, m + 1, none⟩ = some (.int .i64 (a : Nat)) := by rw [ha]; exact icell hor hll.out (m + 1) (by omega)
                  have x2 : wr.cell? ⟨go, m, none⟩ = some (.int .i64 (b : Nat)) := by rw [hb]; exact icell hor hll.out m (by omega)
                  have HA := Lib.hid ha
                  have HB := Lib.hid hb
                  have hmi : (m : Int) + 1 < (n : Int) := by omega
                  have hmi0 : (0 : Int) ≤ (m : Int) + 1 := by omega
                  have hmj : (m : Int) < (n : Int) := by omega
                  clear ha hb
                  go_wp2_with fail
                  go_quiet (fail)
                  go_wp2_with fail
                  generalize hwq : wr.drewN nq = wq
                  replace hor : wq.ownsRow 0 3 1 (.slice (some ⟨go, 0, none⟩) n n) n (ivs l) := by rw [← hwq]; exact owns_drewN hor nq
                  replace hfr : Fr wm wq (fun k => k = go) := by rw [← hwq]; exact hfr.drewN nq
                  clear hwq x1 x2 S5
                  have S5 := S4.keep hfr (fun k hk => hFo k hk) (by show ¬ gv = go; omega) (fun k hk => by show ¬ k = go; omega)
                  have x1 : wq.cell? ⟨go, m + 1, none⟩ = some (.int .i64 (a : Nat)) := by rw [HA.out]; exact icell hor hll.out (m + 1) (by omega)
                  have x2 : wq.cell? ⟨go, m, none⟩ = some (.int .i64 (b : Nat)) := by rw [HB.out]; exact icell hor hll.out m (by omega)
                  obtain ⟨Va, hVa⟩ : ∃ Va, Va = vs.getD a 0 := ⟨_, rfl⟩
                  obtain ⟨Vb, hVb⟩ : ∃ Vb, Vb = vs.getD b 0 := ⟨_, rfl⟩
                  have y1 : wq.cell? ⟨gv, a, none⟩ = some (.int .i64 (Va : Nat)) := by rw [hVa]; exact icell S5.row hvl.out a han
                  have y2 : wq.cell? ⟨gv, b, none⟩ = some (.int .i64 (Vb : Nat)) := by rw [hVb]; exact icell S5.row hvl.out b hbn
                  have HVA := Lib.hid hVa
                  have HVB := Lib.hid hVb
                  have hai : (a : Int) < (n : Int) := by omega
                  have hbi : (b : Int) < (n : Int) := by omega
                  clear hVa hVb S5
                  have hua : Hid (vs.getD a 0 ≤ 16) := (FR.out.bd _ (getD_memN (by rw [hvl.out]; exact han))).2
                  have hub : Hid (vs.getD b 0 ≤ 16) := (FR.out.bd _ (getD_memN (by rw [hvl.out]; exact hbn))).2
                  have RK : Hid ((Vb < Va ∨ (Va = Vb ∧ a < b)) → fAt vs l (m + 1) < fAt vs l (m + 1 - 1)) := by
                    intro h
                    show rkI vs (l.getD (m + 1) 0) < rkI vs (l.getD m 0)
                    rw [← HA.out, ← HB.out]
                    exact rk_lt hua.out hub.out (by omega) (by omega) (by rw [← HVA.out, ← HVB.out]; exact h)
                  have RG : Hid (¬ (Vb < Va ∨ (Va = Vb ∧ a < b)) → fAt vs l (m + 1 - 1) < fAt vs l (m + 1)) := by
                    intro h
                    have hne : fAt vs l m ≠ fAt vs l (m + 1) := fAt_ne hp hn1 (by omega) (by omega) (by omega)
                    refine Nat.lt_of_le_of_ne ?_ hne
                    show rkI vs (l.getD m 0) ≤ rkI vs (l.getD (m + 1) 0)
                    rw [← HA.out, ← HB.out]
                    exact rk_ge hua.out hub.out (by omega) (by omega) (by rw [← HVA.out, ← HVB.out]; exact h)
                  by_cases hv : Vb < Va
                  · have g1 : decide ((Vb : Int) < (Va : Int)) = true := decide_eq_true (by omega)
                    go_quiet (fail)
                    generalize hwp : wq.drewN nq = wp
                    replace hor : wp.ownsRow 0 3 1 (.slice (some ⟨go, 0, none⟩) n n) n (ivs l) := by rw [← hwp]; exact owns_drewN hor nq
                    replace hfr : Fr wm wp (fun k => k = go) := by rw [← hwp]; exact hfr.drewN nq
                    clear hwp x1 x2 y1 y2
                    have x1 : wp.cell? ⟨go, m + 1, none⟩ = some (.int .i64 (a : Nat)) := by rw [HA.out]; exact icell hor hll.out (m + 1) (by omega)
                    have x2 : wp.cell? ⟨go, m, none⟩ = some (.int .i64 (b : Nat)) := by rw [HB.out]; exact icell hor hll.out m (by omega)
                    have z1 : wp.frozen? ⟨go, m + 1, none⟩ = false := hor.frozenAt _
                    have z2 : wp.frozen? ⟨go, m, none⟩ = false := hor.frozenAt _
                    have st := sort_stored hor HA.out HB.out
                    have fs : Fr wm ((wp.setCell ⟨go, m + 1, none⟩ (.int .i64 (b : Nat))).setCell ⟨go, m, none⟩ (.int .i64 (a : Nat))) (fun k => k = go) := (hfr.setCell _ _ (fun _ => rfl)).setCell _ _ (fun _ => rfl)
                    have HST := Lib.hid st
                    clear st hor hfr
                    go_wp2_with fail
                    go_roundg (gk - 1)
                    case measure => omega
                    case rel => exact ⟨m, swapN l (m + 1), by go_num, by omega, by omega, (swapN_perm (by rw [hll.out]; omega)).trans hp, hin.step (Nat.succ_pos _) (RK.out (.inl hv)) (swapN_at (Nat.succ_pos _) (by rw [hll.out]; omega)).1 (swapN_at (Nat.succ_pos _) (by rw [hll.out]; omega)).2.1 (swapN_at (Nat.succ_pos _) (by rw [hll.out]; omega)).2.2, HST.out, fs⟩
                  · have g1 : decide ((Vb : Int) < (Va : Int)) = false := decide_eq_false (by omega)
                    by_cases hve : Va = Vb
                    · have g2 : ((Va : Int) == (Vb : Int)) = true := by rw [beq_iff_eq]; omega
                      by_cases hab : a < b
                      · have g3 : decide ((a : Int) < (b : Int)) = true := decide_eq_true (by omega)
                        have HVE := Lib.hid hve
                        clear hve
                        go_quiet (fail)
                        generalize hwp : wq.drewN nq = wp
                        replace hor : wp.ownsRow 0 3 1 (.slice (some ⟨go, 0, none⟩) n n) n (ivs l) := by rw [← hwp]; exact owns_drewN hor nq
                        replace hfr : Fr wm wp (fun k => k = go) := by rw [← hwp]; exact hfr.drewN nq
                        clear hwp x1 x2 y1 y2
                        have x1 : wp.cell? ⟨go, m + 1, none⟩ = some (.int .i64 (a : Nat)) := by rw [HA.out]; exact icell hor hll.out (m + 1) (by omega)
                        have x2 : wp.cell? ⟨go, m, none⟩ = some (.int .i64 (b : Nat)) := by rw [HB.out]; exact icell hor hll.out m (by omega)
                        have z1 : wp.frozen? ⟨go, m + 1, none⟩ = false := hor.frozenAt _
                        have z2 : wp.frozen? ⟨go, m, none⟩ = false := hor.frozenAt _
                        have st := sort_stored hor HA.out HB.out
                        have fs : Fr wm ((wp.setCell ⟨go, m + 1, none⟩ (.int .i64 (b : Nat))).setCell ⟨go, m, none⟩ (.int .i64 (a : Nat))) (fun k => k = go) := (hfr.setCell _ _ (fun _ => rfl)).setCell _ _ (fun _ => rfl)
                        have HST := Lib.hid st
                        clear st hor hfr
                        go_wp2_with fail
                        go_roundg (gk - 1)
                        case measure => omega
                        case rel => exact ⟨m, swapN l (m + 1), by go_num, by omega, by omega, (swapN_perm (by rw [hll.out]; omega)).trans hp, hin.step (Nat.succ_pos _) (RK.out (.inr ⟨HVE.out, hab⟩)) (swapN_at (Nat.succ_pos _) (by rw [hll.out]; omega)).1 (swapN_at (Nat.succ_pos _) (by rw [hll.out]; omega)).2.1 (swapN_at (Nat.succ_pos _) (by rw [hll.out]; omega)).2.2, HST.out, fs⟩
                      · have g3 : decide ((a : Int) < (b : Int)) = false := decide_eq_false (by omega)
                        have HVE := Lib.hid hve
                        clear hve
                        go_quiet (fail)
                        generalize hwp : wq.drewN nq = wp
                        replace hor : wp.ownsRow 0 3 1 (.slice (some ⟨go, 0, none⟩) n n) n (ivs l) := by rw [← hwp]; exact owns_drewN hor nq
                        replace hfr : Fr wm wp (fun k => k = go) := by rw [← hwp]; exact hfr.drewN nq
                        clear hwp x1 x2 y1 y2
                        have hso := hin.stop (RG.out (by omega))
                        go_wp2_with fail
                        go_roundg (gK - 1)
                        case measure => omega
                        case rel => exact ⟨k + 1, l, by go_num, by omega, by omega, by omega, hp, hso, hor, hfr⟩
                    · have g2 : ((Va : Int) == (Vb : Int)) = false := by rw [beq_eq_false_iff_ne]; omega
                      go_quiet (fail)
                      generalize hwp : wq.drewN nq = wp
                      replace hor : wp.ownsRow 0 3 1 (.slice (some ⟨go, 0, none⟩) n n) n (ivs l) := by rw [← hwp]; exact owns_drewN hor nq
                      replace hfr : Fr wm wp (fun k => k = go) := by rw [← hwp]; exact hfr.drewN nq
                      clear hwp x1 x2 y1 y2
                      have hso := hin.stop (RG.out (by omega))
                      go_wp2_with fail
                      go_roundg (gK - 1)
                      case measure => omega
                      case rel => exact ⟨k + 1, l, by go_num, by omega, by omega, by omega, hp, hso, hor, hfr⟩
                · have hj00 : j = 0 := by omega
                  subst hj00
                  have hso := hin.zero
                  go_wp2_with fail
                  go_roundg (gK - 1)
                  case measure => omega
                  case rel => exact ⟨k + 1, l, by go_num, by omega, by omega, by omega, hp, hso, hor, hfr⟩
            · have ek : k = n := by omega
              rw [ek] at hso
              go_wp2_with fail
              go_meet
              case rel => exact ⟨l, hp, hso, hor, hfr⟩
        case rest =>
          clear hor hfr
          obtain ⟨l, hp, hso, hor, hfr⟩ := hcut
          have S5 := S4.keep hfr (fun k hk => hFo k hk) (by show ¬ gv = go; omega) (fun k hk => by show ¬ k = go; omega)
          have hll : Hid (l.length = n) := by show _ = _; rw [hp.length_eq, List.length_range]
          have P0 : Pops w wc ob go n sc vs l 0 := by
            refine ⟨_, F, S5.ord, ?_, hor, S5.bel, fun k hk => ⟨(S5.off k hk).1, hFo k hk⟩⟩
            have := FR.out.start (l := l) (by rw [hvl.out]; exact hp)
            rw [hvl.out] at this
            exact this
          have HSO := Lib.hid hso
          have HP := Lib.hid hp
          clear S5 S4 hor hfr hso hp hom
          go_wp2_with fail
          go_loopg [20] n (fun gk iv wr => ∃ k : Nat, iv = .int .i64 k ∧ k ≤ n ∧ n ≤ k + gk ∧ Pops w wr ob go n sc vs l k)
          case atStart => exact ⟨0, rfl, Nat.zero_le _, by omega, P0⟩
          case round =>
            clear P0
            obtain ⟨k, rfl, hk, hgk, L, F1, hO, hL, hor, hbr, off⟩ := hrel
            have hidx : ∀ y ∈ L, y.2 ≤ 1000 := hL.small HP.out hn1
            have hLl : Hid (L.length = n - k) := by show _ = _; rw [hL.length, hll.out]
            by_cases hkn : k < n
            · obtain ⟨i1, i2, i3⟩ := FR.out.pop (by rw [hvl.out]; exact HP.out) (by rw [hvl.out]; exact HSO.out) (by rw [hvl.out]; exact hkn) hL
              obtain ⟨I, hI⟩ : ∃ I, I = l.getD k 0 := ⟨_, rfl⟩
              have x1 : wr.cell? ⟨go, k, none⟩ = some (.int .i64 (I : Nat)) := by rw [hI]; exact icell hor hll.out k hkn
              have PO := Lib.hid (pop_kept hO (by rw [hLl.out]; omega) hidx i1 (fun e => (off go e).2 rfl) x1)
              rw [i2, ← hI] at PO
              have I3 := Lib.hid i3
              have hki : (k : Int) < (n : Int) := by omega
              have hII : ((I : Int) == (I : Int)) = true := by simp
              clear hI i1 i2 i3 hidx hO hL
              go_wp2_with fail
              go_region_held (fun w' => w'.cell? ⟨go, k, none⟩ = some (.int .i64 (I : Nat))) (first | exact x1 | assumption)
                ((go_at_call 10; refine PO.out.mono ?_; rintro e w' ⟨rfl, s0, R⟩))
              obtain ⟨F2, hO2, f2, n2⟩ := R.out
              have nFo : ¬ F1 go := fun e => (off go e).2 rfl
              have hgs : go < wr.heap.size := (hor.lt _ rfl).2
              have PN : Pops w w' ob go n sc vs l (k + 1) := ⟨_, F2, hO2, I3.out, f2.owns hor (notAt nFo), hbr.trans (f2.below hbr.size (fun k hk e => by have := (off k e).1; omega)), n2.off off (fun j hj => by have := hbr.size; omega)⟩
              clear hO2 f2 n2 hor hbr off R PO
              go_wp2_with fail
              go_roundg (gk - 1)
              case measure => omega
              case rel => exact ⟨k + 1, by go_num, by omega, by omega, PN⟩
            · have LN := Lib.hid (len_wt hO)
              rw [hLl.out, show n - k = 0 by omega] at LN
              clear hidx hO hL
              go_wp2_with (go_at_call 9; refine LN.out.mono ?_; rintro e w6 ⟨rfl, hw6⟩; rw [hw6]; clear hw6 w6)
              go_ret
              exact ⟨rfl, hbr⟩

end Go.Proofs.Ybulkcnam
