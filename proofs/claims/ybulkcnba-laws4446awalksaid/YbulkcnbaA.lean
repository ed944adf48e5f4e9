/-
  WALKS over opInfo.class, LawS4446AClass and LawS4446AWalk.
-/
import Derived.Test.YbulkcnbaRows
import Derived.WalkKit
import Derived.WalkSpells
import Derived.WalkLawsBesides
import Derived.Deep.QuietTactic
import Derived.BigQuiet
import Derived.Deep.LoopGhost
import Derived.Lib.Hide
import Derived.Deep.AppendSrc
import Derived.Deep.DeepCutAuto
import Derived.Deep.CutBlock
import Derived.Below
namespace Go.Proofs.Ybulkcnba
open Go.RowKit

theorem heap_lt {w : World} {k : Nat} {o : Obj} (h : w.heap[k]? = some o) : k < w.heap.size := by
  obtain ⟨h, _⟩ := Array.getElem?_eq_some_iff.1 h
  exact h

/-- A slice of bytes that came in. -/
def Raw (w : World) (a : Option Addr) (len : Nat) (zs : List Int) : Prop :=
  zs.length = len ∧ (0 < len → ∃ b off, a = some ⟨b, off, none⟩ ∧ b < w.heap.size ∧ ∀ j, j < len → w.cell? ⟨b, off + j, none⟩ = some (.int .u8 (zs.getD j 0))) ∧ ∀ j, j < len → 0 ≤ zs.getD j 0 ∧ zs.getD j 0 ≤ 255

/-- A slice of bytes, as the shell says it. -/
theorem raw_of {w : World} {a : Option Addr} {len cap : Nat} {zs : List Int} (h : (a = none ∧ len = 0 ∧ cap = 0 ∧ zs = []) ∨
    ∃ x, a = some x ∧ len ≤ cap ∧ cap ≤ maxLen ∧ zs.length = cap ∧ (∀ i, i < zs.length → w.cell? (x.add i) = some (.int .u8 (zs.getD i 0))) ∧ ∀ n ∈ zs, (Lit.int .u8 n).wf = true) :
    Raw w a len (zs.take len) := by
  rcases h with ⟨rfl, rfl, rfl, rfl⟩ | ⟨⟨b, off, sp⟩, rfl, h1, h2, h3, h4, h5⟩
  · exact ⟨rfl, fun h => by omega, fun j hj => by omega⟩
  · have hg : ∀ j, j < len → (zs.take len).getD j 0 = zs.getD j 0 := by
      intro j hj
      simp [List.getD, hj]
    refine ⟨by rw [List.length_take]; omega, fun hp => ?_, fun j hj => ?_⟩
    · have h0 := h4 0 (by omega)
      have hsp : sp = none := by
        simp only [Addr.add, if_true] at h0
        unfold World.cell? at h0
        split at h0
        · cases sp with
          | none => rfl
          | some s => simp at h0
        · cases h0
      subst hsp
      refine ⟨b, off, rfl, ?_, fun j hj => ?_⟩
      · simp only [Addr.add, if_true] at h0
        unfold World.cell? at h0
        split at h0
        · rename_i hh; exact heap_lt hh
        · cases h0
      · have := h4 j (by omega)
        rw [hg j hj]
        cases j with
        | zero => simpa [Addr.add] using this
        | succ j => simpa [Addr.add] using this
    · rw [hg j hj]
      have hm : zs.getD j 0 ∈ zs := by
        have : j < zs.length := by omega
        simp [List.getD, this]
      have := h5 _ hm
      generalize zs.getD j 0 = z at this
      have hmin : IntKind.u8.min = 0 := rfl
      have hmax : IntKind.u8.max = 255 := rfl
      simp [Lit.wf, hmin, hmax] at this
      omega

theorem Yba.info25 : (Yba.prog.info? 25).map (fun i => (i.zero, i.size, i.bytes)) = some (some (.int .u8 0), 1, 1) := by kernel_rfl

def bvs (l : List Int) : List Value := l.map fun (x : Int) => Value.int .u8 x
def fillK (l : List Int) (k : Nat) : List Int := l.take k ++ List.replicate (l.length - k) 0
theorem fillK_length (l : List Int) (k : Nat) (h : k ≤ l.length) : (fillK l k).length = l.length := by simp [fillK]; omega
theorem fillK_zero (l : List Int) : fillK l 0 = List.replicate l.length 0 := by simp [fillK]
theorem fillK_full (l : List Int) : fillK l l.length = l := by simp [fillK]
theorem fillK_step (l : List Int) (k : Nat) (h : k < l.length) : (fillK l k).set k (l.getD k 0) = fillK l (k + 1) := by
  unfold fillK
  apply List.ext_getElem?
  intro i
  have hl : (l.take k ++ List.replicate (l.length - k) 0).length = l.length := by simp; omega
  rw [List.getElem?_set]
  by_cases hik : k = i
  · subst hik
    rw [if_pos rfl, if_pos (by omega), List.getElem?_append_left (by simp; omega)]
    simp [List.getD, h]
  · rw [if_neg hik]
    by_cases hi : i < k
    · rw [List.getElem?_append_left (by simp; omega), List.getElem?_append_left (by simp; omega)]
      simp [hi, show i < k + 1 by omega]
    · rw [List.getElem?_append_right (by simp; omega), List.getElem?_append_right (by simp; omega)]
      simp only [List.length_take, List.getElem?_replicate]
      by_cases hi2 : i < l.length
      · rw [if_pos (by omega), if_pos (by omega)]
      · rw [if_neg (by omega), if_neg (by omega)]
theorem bvs_length (l : List Int) : (bvs l).length = l.length := by simp [bvs]
theorem bvs_set (l : List Int) (k : Nat) (v : Int) : (bvs l).set k (.int .u8 v) = bvs (l.set k v) := by unfold bvs; rw [List.map_set]
theorem bvs_at {l : List Int} {k : Nat} (h : k < l.length) : (bvs l)[k]? = some (.int .u8 (l.getD k 0)) := by simp [bvs, List.getD, h]
theorem made_zeroB (n : Nat) : (madeCells (Value.int .u8 0).cells (n * 1)).toList = bvs (List.replicate n 0) := by
  rw [Nat.mul_one]
  show (madeCells #[Value.int .u8 0] n).toList = _
  rw [toList_madeCells_one]
  simp [bvs]

set_option maxHeartbeats 400000 in
theorem class_in (w : World) (ob : Nat) (g : Nat) (len cap i : Nat) (v : Int) (hi : i < len) (c2 : w.cell? ⟨ob, 2, none⟩ = some (.slice (some ⟨g, 0, none⟩) len cap)) (cg : w.cell? ⟨g, i, none⟩ = some (.int .u8 v)) :
    Calls Yba.prog 7 #[.pointer (some ⟨ob, 0, none⟩), .int .i64 (i : Nat)] w fun e w' => e = .returned (.int .u8 v) ∧ w' = w := by
  go_enter Yba.func7, Yba.ntmps7
  go_wp2_with fail
  go_ret
  exact ⟨rfl, rfl⟩
set_option maxHeartbeats 400000 in
theorem class_out (w : World) (ob : Nat) (a : Option Addr) (len cap i : Nat) (v : Int) (hi : ¬ i < len) (c2 : w.cell? ⟨ob, 2, none⟩ = some (.slice a len cap)) (cg : w.cell? ⟨ob, 3, none⟩ = some (.int .u8 v)) :
    Calls Yba.prog 7 #[.pointer (some ⟨ob, 0, none⟩), .int .i64 (i : Nat)] w fun e w' => e = .returned (.int .u8 v) ∧ w' = w := by
  go_enter Yba.func7, Yba.ntmps7
  go_wp2_with fail
  go_ret
  exact ⟨rfl, rfl⟩

set_option maxHeartbeats 1000000 in
set_option maxRecDepth 10000 in
theorem walk_any (w : World) (ra : Option Addr) (len rc : Nat) (zs : List Int) (a1 : Int) (hR : Raw w ra len zs) (hl : len ≤ 1024) :
    Calls Yba.prog 4 #[.slice ra len rc, .int .u8 a1] w fun e w' => e = .returned (.bool true) ∧ Below w.heap.size w w' := by
  obtain ⟨i0, hi0, hz0, hz1, hz2⟩ := info_parts Yba.info25
  have HR := Lib.hid hR
  clear hR
  have hzl : Hid (zs.length = len) := HR.out.1
  go_enter Yba.func4, Yba.ntmps4
  go_wp2_with (at_make; refine wpList_make_full _ rfl _ _ 24 rfl 0 25 i0 (.int .u8 0) 1 Yba.underlying24 hi0 hz0 hz1 _ _ _ _ len rfl rfl rfl rfl (by rw [hz2]; omega) (by unfold maxLen; omega) (Nat.zero_le _) ?_; intro wm hom hgm; refine Hid.out ?_)
  refine Lib.hid ?_
  rw [made_zeroB, show List.replicate len 0 = fillK zs 0 by rw [fillK_zero, hzl.out]] at hom
  have bm : Below w.heap.size w wm := (Below.refl _ _).grown hgm (Nat.le_refl _) (fun k hk => by cases hk)
  clear hgm
  go_upto_block 0 with fail
  go_cut [] (fun wx => wx.ownsRow 0 25 1 (.slice (some ⟨w.heap.size, 0, none⟩) len len) len (bvs zs) ∧ Below w.heap.size w wx)
  case first =>
    go_wp2_with fail
    go_loopg [6] len (fun gk iv wr => ∃ k : Nat, iv = .int .i64 k ∧ k ≤ len ∧ len ≤ k + gk ∧ wr.ownsRow 0 25 1 (.slice (some ⟨w.heap.size, 0, none⟩) len len) len (bvs (fillK zs k)) ∧ Below w.heap.size w wr)
    case atStart => exact ⟨0, rfl, Nat.zero_le _, by omega, hom, bm⟩
    case round =>
      obtain ⟨k, rfl, hk, hgk, hor, hbr⟩ := hrel
      by_cases hkl : k < len
      · obtain ⟨b, off, rfl, hbl, hcs⟩ := HR.out.2.1 (by omega)
        obtain ⟨z, hz⟩ : ∃ z, z = zs.getD k 0 := ⟨_, rfl⟩
        have e1 : wr.cell? ⟨b, off + k, none⟩ = some (.int .u8 z) := by rw [hz]; exact (hbr.cell (p := ⟨b, off + k, none⟩) hbl).trans (hcs k hkl)
        have x3 : ∃ u, wr.cell? ⟨w.heap.size, k, none⟩ = some u := ⟨_, by rw [hor.cellAt k (by omega)]; exact List.getElem?_eq_getElem (by rw [bvs_length, fillK_length _ _ (by rw [hzl.out]; omega), hzl.out]; exact hkl)⟩
        obtain ⟨u3, x3⟩ := x3
        have x4 : wr.frozen? ⟨w.heap.size, k, none⟩ = false := hor.frozenAt k
        have hst := (hor.stored k (.int .u8 z)).1
        rw [bvs_set, hz, fillK_step zs k (by rw [hzl.out]; exact hkl), ← hz] at hst
        have hb3 : Below w.heap.size w (wr.setCell ⟨w.heap.size, k, none⟩ (.int .u8 z)) := hbr.setCell (Nat.le_refl _) _
        have HST := Lib.hid hst
        clear hz hcs hor hst
        go_wp2_with fail
        go_roundg (gk - 1)
        case measure => omega
        case rel => exact ⟨k + 1, by go_num, by omega, by omega, HST.out, hb3⟩
      · have ek : fillK zs k = zs := by rw [show k = zs.length by rw [hzl.out]; omega]; exact fillK_full zs
        rw [ek] at hor
        go_wp2_with fail
        go_meet
        case rel => exact ⟨hor, hbr⟩
  case rest =>
    obtain ⟨hor, hbr⟩ := hcut
    clear hom bm
    obtain ⟨ob, hob⟩ : ∃ ob, ob = wc.heap.size := ⟨_, rfl⟩
    obtain ⟨wo, hwo⟩ : ∃ wo, wo = wc.alloc (.cells #[.string { data := #[] }, .int .u8 0, .slice (some ⟨w.heap.size, 0, none⟩) len len, .int .u8 a1, .int .i64 0, .int .i64 0, .bool false, .int .u8 0, .bool false, .int .u8 0, .bool false] 30) := ⟨_, rfl⟩
    have hoo := hor.alloc (.cells #[.string { data := #[] }, .int .u8 0, .slice (some ⟨w.heap.size, 0, none⟩) len len, .int .u8 a1, .int .i64 0, .int .i64 0, .bool false, .int .u8 0, .bool false, .int .u8 0, .bool false] 30)
    rw [← hwo] at hoo
    have c2 : wo.cell? ⟨ob, 2, none⟩ = some (.slice (some ⟨w.heap.size, 0, none⟩) len len) := by rw [hwo, hob]; simp
    have c3 : wo.cell? ⟨ob, 3, none⟩ = some (.int .u8 a1) := by rw [hwo, hob]; simp
    have bo : Below w.heap.size w wo := by rw [hwo]; exact hbr.alloc hbr.size _
    clear hor hbr
    go_upto_block 2 with fail
    rw [← hwo, ← hob]
    clear hwo hob
    go_wp2_with fail
    go_loopg [9] (len + 4) (fun gk iv wr => ∃ k : Nat, iv = .int .i64 k ∧ k ≤ len + 4 ∧ len + 4 ≤ k + gk ∧ wr = wo)
    case atStart => exact ⟨0, rfl, Nat.zero_le _, by omega, rfl⟩
    case round =>
      obtain ⟨k, rfl, hk, hgk, rfl⟩ := hrel
      by_cases hk4 : k < len + 4
      · by_cases hkl : k < len
        · obtain ⟨b, off, rfl, hbl, hcs⟩ := HR.out.2.1 (by omega)
          obtain ⟨z, hz⟩ : ∃ z, z = zs.getD k 0 := ⟨_, rfl⟩
          have e1 : wr.cell? ⟨b, off + k, none⟩ = some (.int .u8 z) := by rw [hz]; exact (bo.cell (p := ⟨b, off + k, none⟩) hbl).trans (hcs k hkl)
          have e2 : wr.cell? ⟨w.heap.size, k, none⟩ = some (.int .u8 z) := by rw [hz, hoo.cellAt k (by omega)]; exact bvs_at (by rw [hzl.out]; exact hkl)
          have CL := Lib.hid (class_in wr ob w.heap.size len len k z hkl c2 e2)
          clear hz hcs
          go_wp2_with (go_at_call 7; refine CL.out.mono ?_; rintro e w6 ⟨rfl, hw6⟩; rw [hw6]; clear hw6 w6)
          go_roundg (gk - 1)
          case measure => omega
          case rel => exact ⟨k + 1, by go_num, by omega, by omega, rfl⟩
        · have CL := Lib.hid (class_out wr ob _ len len k a1 hkl c2 c3)
          go_wp2_with (go_at_call 7; refine CL.out.mono ?_; rintro e w6 ⟨rfl, hw6⟩; rw [hw6]; clear hw6 w6)
          go_roundg (gk - 1)
          case measure => omega
          case rel => exact ⟨k + 1, by go_num, by omega, by omega, rfl⟩
      · go_wp2_with fail
        go_ret
        exact ⟨rfl, bo⟩

set_option maxHeartbeats 1000000 in
set_option maxRecDepth 10000 in
theorem classlaw_any (w : World) (ra : Option Addr) (len rc : Nat) (zs : List Int) (a1 a2 : Int) (a3 : ByteArray) (a4 a5 : Int) (hR : Raw w ra len zs) (hnil : Hid (ra = none → len = 0)) (h0 : 0 ≤ a1) (h1 : a1 ≤ 255) (h20 : 0 ≤ a2) (h21 : a2 ≤ 4294967295) (hl : len ≤ 1024) :
    Calls Yba.prog 3 #[.slice ra len rc, .int .u8 a1, .int .u32 a2, .string a3, .int .i64 a4, .int .i64 a5] w fun e w' => e = .returned (.bool true) ∧ Below w.heap.size w w' := by
  obtain ⟨i0, hi0, hz0, hz1, hz2⟩ := info_parts Yba.info25
  have HR := Lib.hid hR
  clear hR
  have hzl : Hid (zs.length = len) := HR.out.1
  go_enter Yba.func3, Yba.ntmps3
  go_upto_if 24 with fail
  go_cut [13] (fun fv wx => ∃ fa, fv = .slice fa len len ∧ (0 < len → fa = some ⟨w.heap.size, 0, none⟩) ∧ Hid (∀ j, j < len → wx.cell? ⟨w.heap.size, j, none⟩ = some (.int .u8 (zs.getD j 0))) ∧ Below w.heap.size w wx)
  case first =>
    cases ra with
    | none =>
      have hl0 := hnil.out rfl
      subst hl0
      go_wp2_with fail
      go_meet
      case rel => exact ⟨none, rfl, fun h => by omega, fun j hj => by omega, Below.refl _ _⟩
    | some x =>
      go_wp2_with (at_make; refine wpList_make_full _ rfl _ _ 24 rfl 0 25 i0 (.int .u8 0) 1 Yba.underlying24 hi0 hz0 hz1 _ _ _ _ len rfl rfl rfl rfl (by rw [hz2]; omega) (by unfold maxLen; omega) (Nat.zero_le _) ?_; intro wm hom hgm; refine Hid.out ?_)
      refine Lib.hid ?_
      rw [made_zeroB, show List.replicate len 0 = fillK zs 0 by rw [fillK_zero, hzl.out]] at hom
      have bm : Below w.heap.size w wm := (Below.refl _ _).grown hgm (Nat.le_refl _) (fun k hk => by cases hk)
      clear hgm
      go_wp2_with fail
      go_loopg [14] len (fun gk iv wr => ∃ k : Nat, iv = .int .i64 k ∧ k ≤ len ∧ len ≤ k + gk ∧ wr.ownsRow 0 25 1 (.slice (some ⟨w.heap.size, 0, none⟩) len len) len (bvs (fillK zs k)) ∧ Below w.heap.size w wr)
      case atStart => exact ⟨0, rfl, Nat.zero_le _, by omega, hom, bm⟩
      case round =>
        obtain ⟨k, rfl, hk, hgk, hor, hbr⟩ := hrel
        by_cases hkl : k < len
        · obtain ⟨b, off, hx, hbl, hcs⟩ := HR.out.2.1 (by omega)
          obtain rfl := Option.some.inj hx
          obtain ⟨z, hz⟩ : ∃ z, z = zs.getD k 0 := ⟨_, rfl⟩
          have e1 : wr.cell? ⟨b, off + k, none⟩ = some (.int .u8 z) := by rw [hz]; exact (hbr.cell (p := ⟨b, off + k, none⟩) hbl).trans (hcs k hkl)
          have x3 : ∃ u, wr.cell? ⟨w.heap.size, k, none⟩ = some u := ⟨_, by rw [hor.cellAt k (by omega)]; exact List.getElem?_eq_getElem (by rw [bvs_length, fillK_length _ _ (by rw [hzl.out]; omega), hzl.out]; exact hkl)⟩
          obtain ⟨u3, x3⟩ := x3
          have x4 : wr.frozen? ⟨w.heap.size, k, none⟩ = false := hor.frozenAt k
          have hst := (hor.stored k (.int .u8 z)).1
          rw [bvs_set, hz, fillK_step zs k (by rw [hzl.out]; exact hkl), ← hz] at hst
          have hb3 : Below w.heap.size w (wr.setCell ⟨w.heap.size, k, none⟩ (.int .u8 z)) := hbr.setCell (Nat.le_refl _) _
          have HST := Lib.hid hst
          clear hz hcs hor hst hx
          go_wp2_with fail
          go_roundg (gk - 1)
          case measure => omega
          case rel => exact ⟨k + 1, by go_num, by omega, by omega, HST.out, hb3⟩
        · have ek : fillK zs k = zs := by rw [show k = zs.length by rw [hzl.out]; omega]; exact fillK_full zs
          rw [ek] at hor
          go_wp2_with fail
          go_meet
          case rel => exact ⟨_, rfl, fun _ => rfl, fun j hj => by rw [hor.cellAt j (by omega)]; exact bvs_at (by rw [hzl.out]; exact hj), hbr⟩
  case rest =>
    obtain ⟨fa, rfl, hfa, hfx, hbr⟩ := hcut
    obtain ⟨ob, hob⟩ : ∃ ob, ob = wc.heap.size := ⟨_, rfl⟩
    obtain ⟨X, hX⟩ : ∃ X, X = Obj.cells #[.string a3, .int .u8 0, .slice fa len len, .int .u8 a1, .int .i64 a4, .int .i64 a5, .bool false, .int .u8 0, .bool false, .int .u8 0, .bool false] 30 := ⟨_, rfl⟩
    obtain ⟨wo, hwo⟩ : ∃ wo, wo = wc.alloc X := ⟨_, rfl⟩
    have c0 : wo.cell? ⟨ob, 0, none⟩ = some (.string a3) := by rw [hwo, hob, hX]; simp
    have c2 : wo.cell? ⟨ob, 2, none⟩ = some (.slice fa len len) := by rw [hwo, hob, hX]; simp
    have c3 : wo.cell? ⟨ob, 3, none⟩ = some (.int .u8 a1) := by rw [hwo, hob, hX]; simp
    have c4 : wo.cell? ⟨ob, 4, none⟩ = some (.int .i64 a4) := by rw [hwo, hob, hX]; simp
    have c5 : wo.cell? ⟨ob, 5, none⟩ = some (.int .i64 a5) := by rw [hwo, hob, hX]; simp
    have bo : Below w.heap.size w wo := by rw [hwo]; exact hbr.alloc hbr.size _
    have hfo : Hid (∀ j, j < len → wo.cell? ⟨w.heap.size, j, none⟩ = some (.int .u8 (zs.getD j 0))) := by
      intro j hj
      rw [hwo]
      refine Eq.trans ?_ (hfx.out j hj)
      exact ((Below.refl wc.heap.size wc).alloc (Nat.le_refl _) X).cell (p := ⟨w.heap.size, j, none⟩) (by
        have h := hfx.out j hj
        unfold World.cell? at h
        split at h
        · rename_i hh; exact heap_lt hh
        · cases h)
    clear hbr hfx
    obtain ⟨I, hI⟩ : ∃ I : Nat, (I : Int) = a2 % ((len : Int) + 10) := ⟨(a2 % ((len : Int) + 10)).toNat, by have := Int.emod_nonneg a2 (show ((len : Int) + 10) ≠ 0 by omega); omega⟩
    have HI := Lib.hid hI
    have hIl : I < len + 10 := by have := Int.emod_lt_of_pos a2 (show (0 : Int) < (len : Int) + 10 by omega); omega
    clear hI
    go_upto_region 11 with fail
    rw [← hX, ← hwo, ← hob]
    clear hX hwo hob
    obtain ⟨G, hG⟩ : ∃ G, G = if I < len then zs.getD I 0 else a1 := ⟨_, rfl⟩
    have CL : Hid (Calls Yba.prog 7 #[.pointer (some ⟨ob, 0, none⟩), .int .i64 (I : Nat)] wo fun e w' => e = .returned (.int .u8 G) ∧ w' = wo) := by
      show Calls _ _ _ _ _
      by_cases hIL : I < len
      · rw [if_pos hIL] at hG
        rw [hfa (by omega)] at c2
        rw [hG]
        exact class_in wo ob w.heap.size len len I _ hIL c2 (hfo.out I hIL)
      · rw [if_neg hIL] at hG
        rw [hG]
        exact class_out wo ob _ len len I _ hIL c2 c3
    have HG := Lib.hid hG
    clear hG
    have hw64 : wrap64 (a2 % ((len : Int) + 10)) = (I : Int) := by rw [← HI.out]; unfold wrap64; omega
    go_upto_region 12 with fail
    rw [hw64]
    clear hw64
    go_upto_if 61 with (go_at_call 7; refine CL.out.mono ?_; rintro e w6 ⟨rfl, hw6⟩; rw [hw6]; clear hw6 w6)
    go_cut [18] (fun v wx => v = .int .u8 G ∧ wx = wo)
    case first =>
      by_cases hIL : I < len
      · obtain ⟨b, off, rfl, hbl, hcs⟩ := HR.out.2.1 (by omega)
        have e1 : wo.cell? ⟨b, off + I, none⟩ = some (.int .u8 G) := by rw [HG.out, if_pos hIL]; exact (bo.cell (p := ⟨b, off + I, none⟩) hbl).trans (hcs I hIL)
        clear hcs
        go_wp2_with fail
        go_meet
        case rel => exact ⟨rfl, rfl⟩
      · have hg1 : G = a1 := by rw [HG.out, if_neg hIL]
        subst hg1
        go_wp2_with fail
        go_meet
        case rel => exact ⟨rfl, rfl⟩
    case rest =>
      obtain ⟨rfl, rfl⟩ := hcut
      clear CL
      go_wp2_with fail
      go_loopg [19] len (fun gk iv wr => ∃ k : Nat, iv = .int .i64 k ∧ k ≤ len ∧ len ≤ k + gk ∧ wr.heap = wc.heap ∧ Below w.heap.size w wr)
      case atStart => exact ⟨0, rfl, Nat.zero_le _, by omega, rfl, bo⟩
      case round =>
        obtain ⟨k, rfl, hk, hgk, hwr, hbw⟩ := hrel
        have hsame : ∀ a, wr.cell? a = wc.cell? a := fun a => by unfold World.cell?; rw [hwr]
        have HWR := Lib.hid hwr
        clear hwr
        by_cases hkl : k < len
        · obtain ⟨b, off, rfl, hbl, hcs⟩ := HR.out.2.1 (by omega)
          obtain ⟨z, hz⟩ : ∃ z, z = zs.getD k 0 := ⟨_, rfl⟩
          have e1 : wr.cell? ⟨b, off + k, none⟩ = some (.int .u8 z) := by rw [hz, hsame]; exact (bo.cell (p := ⟨b, off + k, none⟩) hbl).trans (hcs k hkl)
          have e2 : wr.cell? ⟨w.heap.size, k, none⟩ = some (.int .u8 z) := by rw [hz, hsame]; exact hfo.out k hkl
          have e3 : wr.cell? ⟨ob, 2, none⟩ = some (.slice (some ⟨w.heap.size, 0, none⟩) len len) := by rw [hsame, ← hfa (by omega)]; exact c2
          have hki : (k : Int) < (len : Int) := by omega
          clear hz hcs hsame c2
          go_wp2_with fail
          go_quiet (fail)
          go_wp2_with fail
          go_roundg (gk - 1)
          case measure => omega
          case rel => exact ⟨k + 1, by go_num, by omega, by omega, HWR.out, ⟨hbw.os, hbw.tape, hbw.output, hbw.size, hbw.block⟩⟩
        · clear hsame
          go_wp2_with fail
          go_ret
          exact ⟨rfl, hbw⟩

end Go.Proofs.Ybulkcnba
