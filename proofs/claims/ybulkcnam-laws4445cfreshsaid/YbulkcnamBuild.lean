/-
  THE WALK over zzs4445cbuild.
-/
import Derived.Test.YbulkcnamPick
namespace Go.Proofs.Ybulkcnam
open Go.RowKit

/-- A slice of bytes that came in. -/
def Raw (w : World) (a : Option Addr) (len : Nat) (zs : List Int) : Prop :=
  zs.length = len ∧ (0 < len → ∃ b off, a = some ⟨b, off, none⟩ ∧ b < w.heap.size ∧ ∀ j, j < len → w.cell? ⟨b, off + j, none⟩ = some (.int .u8 (zs.getD j 0))) ∧ ∀ j, j < len → 0 ≤ zs.getD j 0 ∧ zs.getD j 0 ≤ 255

theorem Raw.below {w w' : World} {a : Option Addr} {len : Nat} {zs : List Int} (h : Raw w a len zs) (hb : Below w.heap.size w w') : Raw w' a len zs := by
  refine ⟨h.1, fun hp => ?_, h.2.2⟩
  obtain ⟨b, off, e, hlt, hc⟩ := h.2.1 hp
  exact ⟨b, off, e, Nat.lt_of_lt_of_le hlt hb.size, fun j hj => (hb.cell (p := ⟨b, off + j, none⟩) hlt).trans (hc j hj)⟩

def vOf (z : Int) : Nat := z.toNat % 16 + 1
def vsOf (a0 : Int) (zs : List Int) : List Nat := vOf a0 :: zs.map vOf
def wsOf (sc : Nat) (vs : List Nat) : List Nat := vs.map fun v => fmul (Fl.fi v) sc
def ivs (l : List Nat) : List Value := l.map fun (x : Nat) => Value.int .i64 (x : Nat)
/-- The first k are laid, the rest are zero. -/
def fillK (l : List Nat) (k : Nat) : List Nat := l.take k ++ List.replicate (l.length - k) 0

theorem vsOf_length (a0 : Int) (zs : List Int) : (vsOf a0 zs).length = zs.length + 1 := by simp [vsOf]
theorem wsOf_length (sc : Nat) (vs : List Nat) : (wsOf sc vs).length = vs.length := by simp [wsOf]
theorem fillK_length (l : List Nat) (k : Nat) (h : k ≤ l.length) : (fillK l k).length = l.length := by simp [fillK]; omega
theorem fillK_zero (l : List Nat) : fillK l 0 = List.replicate l.length 0 := by simp [fillK]
theorem fillK_full (l : List Nat) : fillK l l.length = l := by simp [fillK]
theorem fillK_step (l : List Nat) (k : Nat) (h : k < l.length) : (fillK l k).set k (l.getD k 0) = fillK l (k + 1) := by
  unfold fillK
  apply List.ext_getElem?
  intro i
  have hl : (l.take k ++ List.replicate (l.length - k) 0).length = l.length := by simp; omega
  rw [List.getElem?_set]
  by_cases hik : k = i
  · subst hik
    rw [if_pos rfl, if_pos (by omega), List.getElem?_append_left (by simp; omega)]
    simp [List.getD, h]
  · rw [if_neg hik]
    by_cases hi : i < k
    · rw [List.getElem?_append_left (by simp; omega), List.getElem?_append_left (by simp; omega)]
      simp [hi, show i < k + 1 by omega]
    · rw [List.getElem?_append_right (by simp; omega), List.getElem?_append_right (by simp; omega)]
      simp only [List.length_take, List.getElem?_replicate]
      by_cases hi2 : i < l.length
      · rw [if_pos (by omega), if_pos (by omega)]
      · rw [if_neg (by omega), if_neg (by omega)]

theorem made_zeroI (n : Nat) : (madeCells (Value.int .i64 0).cells (n * 1)).toList = ivs (List.replicate n 0) := by
  rw [Nat.mul_one]
  show (madeCells #[Value.int .i64 0] n).toList = _
  rw [toList_madeCells_one]
  simp [ivs]

attribute [local go_sem] run_store_float

theorem fcs_set (l : List Nat) (k v : Nat) : (fcs l).set k (.float .f64 v) = fcs (l.set k v) := by unfold fcs; rw [List.map_set]
theorem ivs_set (l : List Nat) (k : Nat) (v : Nat) : (ivs l).set k (.int .i64 (v : Nat)) = ivs (l.set k v) := by unfold ivs; rw [List.map_set]
theorem ivs_length (l : List Nat) : (ivs l).length = l.length := by simp [ivs]

theorem vOf_cast {z : Int} (h : 0 ≤ z) : ((vOf z : Nat) : Int) = z % 16 + 1 := by unfold vOf; omega
theorem vOf_bound (z : Int) : 1 ≤ vOf z ∧ vOf z ≤ 16 := by unfold vOf; omega
theorem vsOf_get {a0 : Int} {zs : List Int} {k : Nat} (h : k < zs.length) : (vsOf a0 zs).getD (k + 1) 0 = vOf (zs.getD k 0) := by simp [vsOf, List.getD, h]
theorem vsOf_bound {a0 : Int} {zs : List Int} {k : Nat} (h : k < (vsOf a0 zs).length) : 1 ≤ (vsOf a0 zs).getD k 0 ∧ (vsOf a0 zs).getD k 0 ≤ 16 := by
  cases k with
  | zero => exact vOf_bound a0
  | succ k =>
    have hk : k < zs.length := by rw [vsOf_length] at h; omega
    rw [vsOf_get hk]; exact vOf_bound _
theorem wsOf_get {sc : Nat} {vs : List Nat} {k : Nat} (h : k < vs.length) : (wsOf sc vs).getD k 0 = fmul (Fl.fi (vs.getD k 0)) sc := by simp [wsOf, List.getD, h]
theorem ivs_at {l : List Nat} {k : Nat} (h : k < l.length) : (ivs l)[k]? = some (.int .i64 ((l.getD k 0 : Nat) : Int)) := by simp [ivs, List.getD, h]

set_option maxHeartbeats 1000000 in
set_option maxRecDepth 10000 in
theorem build_any (w : World) (a0 : Int) (ra : Option Addr) (len rc : Nat) (zs : List Int) (sc : Nat) (hR : Raw w ra len zs) (h0 : 0 ≤ a0) (h1 : a0 ≤ 255) (hl : len ≤ 300)
    (hm : Hid (∀ v, 1 ≤ v → v ≤ 16 → Ieee.double.mul (Fl.fi v) sc = some (fmul (Fl.fi v) sc))) :
    Calls Yba.prog 5 #[.int .u8 a0, .slice ra len rc, .float .f64 sc] w fun e w' => ∃ gv, w.heap.size < gv ∧ e = .returned (.tuple #[.slice (some ⟨w.heap.size, 0, none⟩) (len + 1) (len + 1), .slice (some ⟨gv, 0, none⟩) (len + 1) (len + 1)]) ∧
      w'.ownsRow 0 27 1 (.slice (some ⟨w.heap.size, 0, none⟩) (len + 1) (len + 1)) (len + 1) (fcs (wsOf sc (vsOf a0 zs))) ∧ w'.ownsRow 0 3 1 (.slice (some ⟨gv, 0, none⟩) (len + 1) (len + 1)) (len + 1) (ivs (vsOf a0 zs)) ∧ Below w.heap.size w w' := by
  obtain ⟨i0, hi0, hz0, hz1, hz2⟩ := info_parts Yba.info27
  obtain ⟨j0, hj0, hy0, hy1, hy2⟩ := info_parts Yba.info3
  have HR := Lib.hid hR
  clear hR
  go_enter Yba.func5, Yba.ntmps5
  go_wp2_with (at_make; refine wpList_make_full _ rfl _ _ 23 rfl 0 27 i0 (.float .f64 0) 1 Yba.underlying23 hi0 hz0 hz1 _ _ _ _ (len + 1) rfl rfl (by push_cast; rfl) (by push_cast; rfl) (by rw [hz2]; omega) (by unfold maxLen; omega) (Nat.zero_le _) ?_; intro wm hom hgm; refine Hid.out ?_)
  refine Lib.hid ?_
  have hbm : Below w.heap.size w wm := (Below.refl _ _).grown hgm (Nat.le_refl _) (fun k hk => by cases hk)
  have hlt1 : w.heap.size < wm.heap.size := (hom.lt _ rfl).2
  go_wp2_with (at_make; refine wpList_make_full _ rfl _ _ 24 rfl 0 3 j0 (.int .i64 0) 1 Yba.underlying24 hj0 hy0 hy1 _ _ _ _ (len + 1) rfl rfl (by push_cast; rfl) (by push_cast; rfl) (by rw [hy2]; omega) (by unfold maxLen; omega) (Nat.zero_le _) ?_; intro wv hov hgv; refine Hid.out ?_)
  refine Lib.hid ?_
  obtain ⟨vs, hvs⟩ : ∃ vs, vs = vsOf a0 zs := ⟨_, rfl⟩
  have hvl : vs.length = len + 1 := by rw [hvs, vsOf_length, HR.out.1]
  have fv : Fr wm wv (fun _ => False) := (Fr.refl wm _).grown hgv (fun k _ hk => by cases hk)
  have how := fv.owns hom (fun _ _ e => e)
  rw [made_zero, show List.replicate (len + 1) 0 = fillK (wsOf sc vs) 0 by rw [fillK_zero, wsOf_length, hvl]] at how
  rw [made_zeroI, show List.replicate (len + 1) 0 = fillK vs 0 by rw [fillK_zero, hvl]] at hov
  have hbv : Below w.heap.size w wv := hbm.trans (fv.below (Nat.le_of_lt hlt1) (fun _ _ e => e))
  generalize hgvd : wm.heap.size = gv at *
  have hlt2 : w.heap.size < gv := by omega
  have ec := vOf_cast h0
  have hst := (hov.stored 0 (.int .i64 ((vOf a0 : Nat) : Int))).1
  have e0 : vs.getD 0 0 = vOf a0 := by rw [hvs]; rfl
  rw [← e0, ivs_set, fillK_step vs 0 (by omega), e0, ec] at hst
  have x1 : ∃ u, wv.cell? ⟨gv, 0, none⟩ = some u := ⟨_, by rw [hov.cellAt 0 (by omega)]; exact List.getElem?_eq_getElem (by rw [ivs_length, fillK_length _ _ (by omega)]; omega)⟩
  obtain ⟨u0, x1⟩ := x1
  have x2 : wv.frozen? ⟨gv, 0, none⟩ = false := hov.frozenAt 0
  have ho1 := owns_setOther how (a := ⟨gv, 0, none⟩) (fun e => by simp [Value.ownBlock] at e; omega) (.int .i64 (a0 % 16 + 1))
  have hb1 : Below w.heap.size w (wv.setCell ⟨gv, 0, none⟩ (.int .i64 (a0 % 16 + 1))) := hbv.setCell (Nat.le_of_lt hlt2) _
  have HVS := Lib.hid hvs
  have HVL := Lib.hid hvl
  clear hov how hgv hgm hom fv hbm hgvd ec e0 hvs hvl
  go_upto_block 0 with fail
  go_cut [] (fun wx => wx.ownsRow 0 27 1 (.slice (some ⟨w.heap.size, 0, none⟩) (len + 1) (len + 1)) (len + 1) (fcs (fillK (wsOf sc vs) 0)) ∧ wx.ownsRow 0 3 1 (.slice (some ⟨gv, 0, none⟩) (len + 1) (len + 1)) (len + 1) (ivs vs) ∧ Below w.heap.size w wx)
  case first =>
    go_wp2_with fail
    go_loopg [11] len (fun gk iv wr => ∃ k : Nat, iv = .int .i64 k ∧ k ≤ len ∧ len ≤ k + gk ∧ wr.ownsRow 0 27 1 (.slice (some ⟨w.heap.size, 0, none⟩) (len + 1) (len + 1)) (len + 1) (fcs (fillK (wsOf sc vs) 0)) ∧ wr.ownsRow 0 3 1 (.slice (some ⟨gv, 0, none⟩) (len + 1) (len + 1)) (len + 1) (ivs (fillK vs (k + 1))) ∧ Below w.heap.size w wr)
    case atStart => exact ⟨0, rfl, Nat.zero_le _, by omega, ho1, hst, hb1⟩
    case round =>
      obtain ⟨k, rfl, hk, hgk, how, hov, hbr⟩ := hrel
      by_cases hkl : k < len
      · obtain ⟨b, off, rfl, hbl, hcs⟩ := HR.out.2.1 (by omega)
        obtain ⟨z, hz⟩ : ∃ z, z = zs.getD k 0 := ⟨_, rfl⟩
        have hzb := HR.out.2.2 k hkl
        have e1 : wr.cell? ⟨b, off + k, none⟩ = some (.int .u8 z) := by rw [hz]; exact (hbr.cell (p := ⟨b, off + k, none⟩) hbl).trans (hcs k hkl)
        rw [← hz] at hzb
        obtain ⟨z0, z1⟩ := hzb
        have ec := vOf_cast z0
        have hst2 := (hov.stored (k + 1) (.int .i64 ((vOf z : Nat) : Int))).1
        have eg : vs.getD (k + 1) 0 = vOf z := by rw [HVS.out, hz]; exact vsOf_get (by rw [HR.out.1]; exact hkl)
        rw [← eg, ivs_set, fillK_step vs (k + 1) (by rw [HVL.out]; omega), eg, ec] at hst2
        have x3 : ∃ u, wr.cell? ⟨gv, k + 1, none⟩ = some u := ⟨_, by rw [hov.cellAt (k + 1) (by omega)]; exact List.getElem?_eq_getElem (by rw [ivs_length, fillK_length _ _ (by rw [HVL.out]; omega), HVL.out]; omega)⟩
        obtain ⟨u3, x3⟩ := x3
        have x4 : wr.frozen? ⟨gv, k + 1, none⟩ = false := hov.frozenAt (k + 1)
        have ho3 := owns_setOther how (a := ⟨gv, k + 1, none⟩) (fun e => by simp [Value.ownBlock] at e; omega) (.int .i64 (z % 16 + 1))
        have hb3 : Below w.heap.size w (wr.setCell ⟨gv, k + 1, none⟩ (.int .i64 (z % 16 + 1))) := hbr.setCell (Nat.le_of_lt hlt2) _
        have HST := Lib.hid hst2
        clear hz hcs ec eg hov how hst2
        go_wp2_with fail
        go_roundg (gk - 1)
        case measure => omega
        case rel => exact ⟨k + 1, by go_num, by omega, by omega, ho3, HST.out, hb3⟩
      · have ek : fillK vs (k + 1) = vs := by rw [show k + 1 = vs.length by rw [HVL.out]; omega]; exact fillK_full vs
        rw [ek] at hov
        go_wp2_with fail
        go_meet
        case rel => exact ⟨how, hov, hbr⟩
  case rest =>
    clear ho1 hst hb1 x1 x2
    obtain ⟨how, hov, hbr⟩ := hcut
    go_wp2_with fail
    go_loopg [12] (len + 1) (fun gk iv wr => ∃ k : Nat, iv = .int .i64 k ∧ k ≤ len + 1 ∧ len + 1 ≤ k + gk ∧ wr.ownsRow 0 27 1 (.slice (some ⟨w.heap.size, 0, none⟩) (len + 1) (len + 1)) (len + 1) (fcs (fillK (wsOf sc vs) k)) ∧ wr.ownsRow 0 3 1 (.slice (some ⟨gv, 0, none⟩) (len + 1) (len + 1)) (len + 1) (ivs vs) ∧ Below w.heap.size w wr)
    case atStart => exact ⟨0, rfl, Nat.zero_le _, by omega, how, hov, hbr⟩
    case round =>
      clear how hov hbr
      obtain ⟨k, rfl, hk, hgk, how, hov, hbr⟩ := hrel
      by_cases hkl : k < len + 1
      · obtain ⟨v, hv⟩ : ∃ v, v = vs.getD k 0 := ⟨_, rfl⟩
        have e1 : wr.cell? ⟨gv, k, none⟩ = some (.int .i64 (v : Nat)) := by rw [hv, hov.cellAt k (by omega)]; exact ivs_at (by rw [HVL.out]; exact hkl)
        have hvb : 1 ≤ v ∧ v ≤ 16 := by rw [hv, HVS.out]; exact vsOf_bound (by rw [← HVS.out, HVL.out]; exact hkl)
        have q1 := hm.out v hvb.1 hvb.2
        rw [← foi] at q1
        obtain ⟨M, hM⟩ : ∃ M, M = fmul (floatOfInt .f64 (v : Int)) sc := ⟨_, rfl⟩
        rw [← hM] at q1
        have r1 := fun w' => run_float_arith (P := Yba.prog) w' .mul 27 .f64 (floatOfInt .f64 (v : Int)) sc M q1
        have hst2 := (how.stored k (.float .f64 M)).1
        have eg : (wsOf sc vs).getD k 0 = M := by rw [hM, foi, hv]; exact wsOf_get (by rw [HVL.out]; exact hkl)
        rw [fcs_set, ← eg, fillK_step (wsOf sc vs) k (by rw [wsOf_length, HVL.out]; exact hkl), eg] at hst2
        have x3 : ∃ u, wr.cell? ⟨w.heap.size, k, none⟩ = some u := ⟨_, by rw [how.cellAt k (by omega)]; exact List.getElem?_eq_getElem (by rw [fcs_length, fillK_length _ _ (by rw [wsOf_length, HVL.out]; omega), wsOf_length, HVL.out]; omega)⟩
        obtain ⟨u3, x3⟩ := x3
        have x4 : wr.frozen? ⟨w.heap.size, k, none⟩ = false := how.frozenAt k
        have ho3 := owns_setOther hov (a := ⟨w.heap.size, k, none⟩) (fun e => by simp [Value.ownBlock] at e; omega) (.float .f64 M)
        have hb3 : Below w.heap.size w (wr.setCell ⟨w.heap.size, k, none⟩ (.float .f64 M)) := hbr.setCell (Nat.le_refl _) _
        have HST := Lib.hid hst2
        clear hv q1 hM eg hov how hst2
        go_wp2_with fail
        go_roundg (gk - 1)
        case measure => omega
        case rel => exact ⟨k + 1, by go_num, by omega, by omega, HST.out, ho3, hb3⟩
      · have ek : fillK (wsOf sc vs) k = wsOf sc vs := by rw [show k = (wsOf sc vs).length by rw [wsOf_length, HVL.out]; omega]; exact fillK_full _
        rw [ek, HVS.out] at how
        rw [HVS.out] at hov
        go_wp2_with fail
        go_ret2
        exact ⟨gv, hlt2, rfl, how, hov, hbr⟩

end Go.Proofs.Ybulkcnam
