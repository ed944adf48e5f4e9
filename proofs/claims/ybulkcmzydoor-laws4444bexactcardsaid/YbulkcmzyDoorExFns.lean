/-
  WALKS over tsf/zz_law_s4444b.go: zzs4444bescape, zzs4444bitoa; bytes.Equal.
-/
import Derived.Test.YbulkcmzyDoorRtPlain
import Derived.Deep.LoopGhost
import Derived.Lib.OthersKept
namespace Go.Proofs.YbulkcmzyDoor
open Go.RowKit

/-- Every block that is no row of bytes stands. -/
def Kept (w w' : World) : Prop := Lib.OthersKept 5 none w w'
theorem Kept.refl (w : World) : Kept w w := Lib.OthersKept.refl _ _ _
theorem Kept.trans {a b c : World} (h : Kept a b) (k : Kept b c) : Kept a c := Lib.OthersKept.trans h k
theorem Kept.alloc {a b : World} (h : Kept a b) (o : Obj) : Kept a (b.alloc o) := Lib.OthersKept.alloc h o
theorem Kept.chain {w w' : World} (h : Kept w w') {l : List (ByteArray × Int)} {p : Option Addr} (hc : Chain w l p) : Chain w' l p :=
  hc.kept fun b c hb => h b _ hb (by simp) (fun c' fz e => by cases e)
theorem owns_kind {w : World} {B : Nat} {v : Value} {n : Nat} {xs : List Value} (h : w.ownsRow B 5 1 v n xs) : ∀ g, v.ownBlock = some g → ∃ c fz, w.heap[g]? = some (.cells c 5 fz) := by
  intro g hg
  rcases h.2 with ⟨rfl, _⟩ | ⟨g', cap, cur, rfl, _, hgg, _⟩
  · simp [Value.ownBlock] at hg
  · simp [Value.ownBlock] at hg
    subst hg
    exact ⟨cur, _, hgg⟩
theorem Kept.grown {a w w' : World} {B : Nat} {v : Value} {n : Nat} {xs : List Value} (h : Kept a w) (ho : w.ownsRow B 5 1 v n xs) (hg : w.grownBy w' v.ownBlock) : Kept a w' :=
  Lib.OthersKept.grown h hg (owns_kind ho)

theorem two_new (w : World) (u v : Value) (t : TypeId) : ∀ j x, [u, v][j]? = some x → (w.alloc (.cells #[u, v] t)).cell? ((⟨w.heap.size, 0, none⟩ : Addr).add j) = some x := by
  intro j x hj
  match j, hj with
  | 0, hj => simp at hj; subst hj; simp [Addr.add]
  | 1, hj => simp at hj; subst hj; simp [Addr.add]

theorem esc_stepx {w2 : World} {B k n : Nat} {v2 : Value} {xs : List Value} {s : ByteArray} (hk : k < s.size) {l : List UInt8} (hl : escB s[k] = l)
    (h : w2.ownsRow B 5 1 v2 (n + (esc (s.data.toList.take k)).length + l.length) (xs ++ bc (esc (s.data.toList.take k)) ++ bc l)) :
    w2.ownsRow B 5 1 v2 (n + (esc (s.data.toList.take (k + 1))).length) (xs ++ bc (esc (s.data.toList.take (k + 1)))) := by
  have e1 : n + (esc (s.data.toList.take (k + 1))).length = n + (esc (s.data.toList.take k)).length + l.length := by rw [esc_snoc s k hk, hl, List.length_append]; omega
  have e2 : xs ++ bc (esc (s.data.toList.take (k + 1))) = xs ++ bc (esc (s.data.toList.take k)) ++ bc l := by rw [esc_snoc s k hk, hl]; simp [bc]
  rw [e1, e2]; exact h

set_option maxHeartbeats 1000000 in
set_option maxRecDepth 10000 in
theorem escape_any (B n : Nat) (v : Value) (xs : List Value) (s : ByteArray) (w : World) (hown : w.ownsRow B 5 1 v n xs) (hB : B ≤ w.heap.size) (hn : n + (esc s.data.toList).length ≤ 140737488355328) (hs : s.size ≤ 9223372036854775807) :
    Calls Ybad.prog 10 #[v, .string s] w fun e w' => ∃ v', e = .returned v' ∧ w'.ownsRow B 5 1 v' (n + (esc s.data.toList).length) (xs ++ bc (esc s.data.toList)) ∧ Below B w w' ∧ Kept w w' := by
  obtain ⟨i0, hi0, hz0, hz1', hz2'⟩ := info_parts Ybad.info5
  go_enter Ybad.func10, Ybad.ntmps10
  go_wp2_with fail
  go_loopg [0, 5] s.size (fun gk bv i wr => ∃ k : Nat, k ≤ s.size ∧ s.size ≤ k + gk ∧ i = .int .i64 k ∧ wr.ownsRow B 5 1 bv (n + (esc (s.data.toList.take k)).length) (xs ++ bc (esc (s.data.toList.take k))) ∧ Below B w wr ∧ Kept w wr)
  case atStart => exact ⟨0, Nat.zero_le _, by omega, rfl, by simpa [esc, bc] using hown, Below.refl _ _, Kept.refl _⟩
  case round =>
    obtain ⟨k, hk, hgk, rfl, ho, hb, hkp⟩ := hrel
    have hzr : B ≤ wr.heap.size := Nat.le_trans hB hb.size
    by_cases hlt : k < s.size
    · have hel := esc_take_le s.data.toList (k + 1)
      rw [esc_snoc s k hlt, List.length_append] at hel
      by_cases h1 : (s[k].toNat : Int) = 126
      · rw [escB_tilde h1, show ([126, 48] : List UInt8).length = 2 from rfl] at hel
        go_wp2_with (at_builtin; refine wpList_append_own _ rfl _ _ 22 rfl B 5 i0 (.int .u8 0) 1 1 Ybad.underlying22 hi0 hz0 hz1' hz2' rfl (by decide) _ _ _ rfl (ho.alloc _) ⟨wr.heap.size, 0, none⟩ 2 2 [.int .u8 126, .int .u8 48] rfl rfl (two_new _ _ _ _) (by intro u hu; simp at hu; rcases hu with rfl | rfl <;> rfl) (by unfold maxLen; omega) (by omega) (by simp; omega) ?_)
        intro v3 w3 hown3 hgr _
        have R := esc_stepx hlt (escB_tilde h1) (by rw [List.append_assoc]; exact hown3)
        have hb3 : Below B w w3 := (hb.alloc hzr _).grown hgr (by simp; omega) (fun k hk => (ho.lt k hk).1)
        have hk3 : Kept w w3 := (hkp.alloc _).grown (ho.alloc _) hgr
        clear hown3 ho hgr hel
        go_wp2_with fail
        go_roundg (gk - 1)
        case rel => exact ⟨k + 1, by omega, by omega, by go_num, R, hb3, hk3⟩
        case measure => omega
      · by_cases h2 : (s[k].toNat : Int) = 47
        · rw [escB_slash h2, show ([126, 49] : List UInt8).length = 2 from rfl] at hel
          go_wp2_with (at_builtin; refine wpList_append_own _ rfl _ _ 22 rfl B 5 i0 (.int .u8 0) 1 1 Ybad.underlying22 hi0 hz0 hz1' hz2' rfl (by decide) _ _ _ rfl (ho.alloc _) ⟨wr.heap.size, 0, none⟩ 2 2 [.int .u8 126, .int .u8 49] rfl rfl (two_new _ _ _ _) (by intro u hu; simp at hu; rcases hu with rfl | rfl <;> rfl) (by unfold maxLen; omega) (by omega) (by simp; omega) ?_)
          intro v3 w3 hown3 hgr _
          have R := esc_stepx hlt (escB_slash h2) (by rw [List.append_assoc]; exact hown3)
          have hb3 : Below B w w3 := (hb.alloc hzr _).grown hgr (by simp; omega) (fun k hk => (ho.lt k hk).1)
          have hk3 : Kept w w3 := (hkp.alloc _).grown (ho.alloc _) hgr
          clear hown3 ho hgr hel
          go_wp2_with fail
          go_roundg (gk - 1)
          case rel => exact ⟨k + 1, by omega, by omega, by go_num, R, hb3, hk3⟩
          case measure => omega
        · rw [escB_else h1 h2, List.length_singleton] at hel
          go_wp2_with (at_builtin; refine wpList_append_own _ rfl _ _ 22 rfl B 5 i0 (.int .u8 0) 1 1 Ybad.underlying22 hi0 hz0 hz1' hz2' rfl (by decide) _ _ _ rfl (ho.alloc _) ⟨wr.heap.size, 0, none⟩ 1 1 [.int .u8 (s[k].toNat : Int)] rfl rfl (one_new _ _ _) (by intro u hu; simp at hu; subst hu; rfl) (by unfold maxLen; omega) (by omega) (by simp; omega) ?_)
          intro v3 w3 hown3 hgr _
          have R := esc_stepx hlt (escB_else h1 h2) (by rw [List.append_assoc]; exact hown3)
          have hb3 : Below B w w3 := (hb.alloc hzr _).grown hgr (by simp; omega) (fun k hk => (ho.lt k hk).1)
          have hk3 : Kept w w3 := (hkp.alloc _).grown (ho.alloc _) hgr
          clear hown3 ho hgr hel
          go_wp2_with fail
          go_roundg (gk - 1)
          case rel => exact ⟨k + 1, by omega, by omega, by go_num, R, hb3, hk3⟩
          case measure => omega
    · have F := ho
      rw [List.take_of_length_le (by rw [data_size]; omega)] at F
      go_wp2_with fail
      go_ret
      exact ⟨_, rfl, F, hb, hkp⟩

/-! ### zzs4444bitoa -/

/-- The digits of a number that is not 0; of 0 none. -/
def digs (n : Nat) : List UInt8 := if n = 0 then [] else Lib.decDigits n

theorem digs_step (n : Nat) (h : 0 < n) : digs n = digs (n / 10) ++ [UInt8.ofNat (48 + n % 10)] := by
  unfold digs
  rw [if_neg (by omega)]
  by_cases h10 : n < 10
  · rw [if_pos (by omega), Lib.decDigits_one h10, Nat.mod_eq_of_lt h10]; rfl
  · rw [if_neg (by omega), Lib.decDigits, dif_neg h10]

theorem digs_len (n : Nat) (h : n ≤ 9223372036854775807) : (digs n).length ≤ 20 := by
  unfold digs
  split
  · simp
  · rw [Lib.decDigits_length]; exact Lib.nDigits_le20 n (by omega)

theorem digs_pos (n : Nat) (h : 0 < n) : 0 < (digs n).length := by rw [digs_step n h, List.length_append, List.length_singleton]; omega

theorem byte_of (n : Nat) : 48 + (n : Int) % 10 = ((UInt8.ofNat (48 + n % 10)).toNat : Int) := by
  have : (UInt8.ofNat (48 + n % 10)).toNat = 48 + n % 10 := by simp; omega
  rw [this]; omega

/-- The digits of m that are already laid lie in the new array from i on. -/
def Digs (m q i : Nat) (w wr : World) : Prop :=
  (digs q).length ≤ i ∧ i ≤ 24 ∧ (∃ (cur : Array Value) (suf : List UInt8), wr.heap[w.heap.size]? = some (.cells cur 62 (0, 0)) ∧ cur.size = 24 ∧ cur.toList.drop i = bc suf ∧ suf.length = 24 - i ∧ digs m = digs q ++ suf) ∧ Below w.heap.size w wr ∧ wr.heap.size = w.heap.size + 1

theorem Digs.start {m : Nat} {w : World} (hm : m ≤ 9223372036854775807) : Digs m m 24 w (w.alloc (.cells #[.int .u8 0, .int .u8 0, .int .u8 0, .int .u8 0, .int .u8 0, .int .u8 0, .int .u8 0, .int .u8 0, .int .u8 0, .int .u8 0, .int .u8 0, .int .u8 0, .int .u8 0, .int .u8 0, .int .u8 0, .int .u8 0, .int .u8 0, .int .u8 0, .int .u8 0, .int .u8 0, .int .u8 0, .int .u8 0, .int .u8 0, .int .u8 0] 62)) :=
  ⟨by have := digs_len m hm; omega, Nat.le_refl _, ⟨_, [], heap_alloc_new w _, rfl, rfl, rfl, by simp⟩, (Below.refl _ _).alloc (Nat.le_refl _) _, by simp⟩

theorem Digs.room {m q i : Nat} {w wr : World} (h : Digs m q i w wr) (hq : 0 < q) : ∃ i', i = i' + 1 ∧ i' < 24 := by
  have := digs_pos q hq
  have := h.1
  have := h.2.1
  exact ⟨i - 1, by omega, by omega⟩

theorem Digs.cell {m q i : Nat} {w wr : World} (h : Digs m q (i + 1) w wr) : ∃ c, wr.cell? ⟨w.heap.size, i, none⟩ = some c ∧ wr.frozen? ⟨w.heap.size, i, none⟩ = false := by
  obtain ⟨-, hi, ⟨cur, suf, hh, hs, -⟩, -⟩ := h
  refine ⟨cur[i]'(by omega), ?_, frozen_of_row wr _ i cur 62 hh⟩
  rw [cell_of_row wr _ i cur 62 (0, 0) hh]
  simp

theorem Digs.next {m q i : Nat} {w wr : World} (h : Digs m q (i + 1) w wr) (hq : 0 < q) : Digs m (q / 10) i w (wr.setCell ⟨w.heap.size, i, none⟩ (.int .u8 (48 + (q : Int) % 10))) := by
  rw [byte_of]
  obtain ⟨h1, hi, ⟨cur, suf, hh, hs, hd, hl, hm⟩, hb, hz⟩ := h
  have hst := digs_step q hq
  refine ⟨by rw [hst, List.length_append, List.length_singleton] at h1; omega, by omega, ⟨_, UInt8.ofNat (48 + q % 10) :: suf, heap_setCell_same wr w.heap.size i cur 62 _ hh, by simpa using hs, ?_, by rw [List.length_cons]; omega, by rw [hm, hst]; simp⟩, hb.setCell (Nat.le_refl _) _, by simpa [World.setCell] using hz⟩
  rw [Array.toList_setIfInBounds, List.drop_eq_getElem_cons (by simp; omega), List.drop_set, if_pos (by omega), hd]
  simp [bc]

theorem Digs.done {m i : Nat} {w wr : World} (h : Digs m 0 i w wr) : ∃ suf : List UInt8, suf.length = 24 - i ∧ i ≤ 24 ∧ (∀ j u, (bc suf)[j]? = some u → wr.cell? ((⟨w.heap.size, i, none⟩ : Addr).add j) = some u) ∧ digs m = suf ∧ Below w.heap.size w wr ∧ wr.heap.size = w.heap.size + 1 := by
  obtain ⟨-, hi, ⟨cur, suf, hh, hs, hd, hl, hm⟩, hb, hz⟩ := h
  refine ⟨suf, hl, hi, fun j u hj => ?_, by simpa [digs] using hm, hb, hz⟩
  rw [Go.WideShapes.add_plain, cell_of_row wr _ _ cur 62 (0, 0) hh]
  rw [← hd, List.getElem?_drop] at hj
  simpa using hj

theorem own_below {w wr : World} {B n : Nat} {v : Value} {xs : List Value} (h : w.ownsRow B 5 1 v n xs) (hb : Below w.heap.size w wr) : wr.ownsRow B 5 1 v n xs := by
  refine ⟨h.1, h.2.imp id ?_⟩
  rintro ⟨g, cap, cur, hv, hg, hh, r⟩
  exact ⟨g, cap, cur, hv, hg, (hb.block g (heap_lt hh)).trans hh, r⟩

theorem kept_below {w wr : World} (hb : Below w.heap.size w wr) : Kept w wr := fun k _ hk _ _ => (hb.block k (heap_lt hk)).trans hk

theorem fin_itoa0 {w : World} {B n : Nat} {v : Value} {xs : List Value} (h : w.ownsRow B 5 1 v (n + 1) (xs ++ [.int .u8 48])) :
    w.ownsRow B 5 1 v (n + (Lib.itoa ((0 : Nat) : Int)).length) (xs ++ bc (Lib.itoa ((0 : Nat) : Int))) := by
  have e : Lib.itoa ((0 : Nat) : Int) = [48] := by rw [Lib.itoa_nonneg, Lib.decDigits_one (by omega)]; rfl
  rw [e]; exact h

theorem fin_itoa {w : World} {B n m i : Nat} {v : Value} {xs : List Value} {suf : List UInt8} (hm : ¬ m = 0) (hd : digs m = suf) (hl : suf.length = 24 - i) (h : w.ownsRow B 5 1 v (n + (24 - i)) (xs ++ bc suf)) :
    w.ownsRow B 5 1 v (n + (Lib.itoa (m : Int)).length) (xs ++ bc (Lib.itoa (m : Int))) := by
  have e : Lib.itoa (m : Int) = suf := by rw [Lib.itoa_nonneg, ← hd]; simp [digs, hm]
  rw [e, hl]; exact h

theorem slice62 (w : World) (b i : Nat) (h : i < 24) :
    (Instr.sliceAt 62 (.pointer (some ⟨b, 0, none⟩)) (some (.int .i64 (i : Int))) none none).run Ybad.prog w = .ok (.slice (some ⟨b, i, none⟩) (24 - i) (24 - i)) w := by
  have e : Ybad.prog.arrayLen 62 = 24 := by kernel_rfl
  have h2 : Ybad.prog.elem 62 = 5 := by kernel_rfl
  have hu : Ybad.prog.underlying 62 = some (.array (Ybad.prog.arrayLen 62) (Ybad.prog.elem 62)) := by rw [e, h2]; kernel_rfl
  obtain ⟨i0, hi0, hz0, hz1', hz2'⟩ := info_parts Ybad.info5
  rw [run_sliceAt_array_l (P := Ybad.prog) w 62 ⟨b, 0, none⟩ hu .i64 i (by omega) (by rw [e]; omega), e, h2]
  have hsz : (sizeOf 5).run Ybad.prog w = .ok 1 w := by simp [sizeOf, typeInfo, hi0, hz1']
  rw [hsz]
  simp [slicedAt, show ¬ 24 = i by omega, Addr.add]
  omega

set_option maxHeartbeats 1000000 in
set_option maxRecDepth 10000 in
theorem itoa_any (B n : Nat) (m : Nat) (v : Value) (xs : List Value) (w : World) (hown : w.ownsRow B 5 1 v n xs) (hB : B ≤ w.heap.size) (hn : n + 21 ≤ 140737488355328) (hm : m ≤ 9223372036854775807) :
    Calls Ybad.prog 8 #[v, .int .i64 m] w fun e w' => ∃ v', e = .returned v' ∧ w'.ownsRow B 5 1 v' (n + (Lib.itoa m).length) (xs ++ bc (Lib.itoa m)) ∧ Below B w w' ∧ Kept w w' := by
  obtain ⟨i0, hi0, hz0, hz1', hz2'⟩ := info_parts Ybad.info5
  by_cases h0 : m = 0
  · subst h0
    go_enter Ybad.func8, Ybad.ntmps8
    go_wp2_with (at_builtin; refine wpList_append_own _ rfl _ _ 22 rfl B 5 i0 (.int .u8 0) 1 1 Ybad.underlying22 hi0 hz0 hz1' hz2' rfl (by decide) _ _ _ rfl (hown.alloc _) ⟨w.heap.size, 0, none⟩ 1 1 [.int .u8 48] rfl rfl (one_new _ _ _) (by intro u hu; simp at hu; subst hu; rfl) (by unfold maxLen; omega) (by omega) (by simp; omega) ?_)
    intro v3 w3 hown3 hgr _
    have hb3 : Below B w w3 := ((Below.refl _ _).alloc hB _).grown hgr (by simp; omega) (fun k hk => (hown.lt k hk).1)
    have hk3 : Kept w w3 := ((Kept.refl _).alloc _).grown (hown.alloc _) hgr
    have F := fin_itoa0 hown3
    clear hown3 hgr
    go_wp2_with fail
    go_ret
    exact ⟨_, rfl, F, hb3, hk3⟩
  · go_enter Ybad.func8, Ybad.ntmps8
    go_wp2_with fail
    go_loopg [1, 6] m (fun gk nv iv wr => ∃ (q i : Nat), q ≤ gk ∧ q ≤ 9223372036854775807 ∧ nv = .int .i64 q ∧ iv = .int .i64 i ∧ Digs m q i w wr)
    case atStart => exact ⟨m, 24, Nat.le_refl _, hm, rfl, rfl, Digs.start hm⟩
    case round =>
      obtain ⟨q, i, hqg, hq, rfl, rfl, hd⟩ := hrel
      by_cases hq0 : 0 < q
      · obtain ⟨i', rfl, hi24⟩ := hd.room hq0
        obtain ⟨c0, hc0, hf0⟩ := hd.cell
        have HN := Lib.hid (hd.next hq0)
        clear hd
        go_wp2_with fail
        go_roundg (q / 10)
        case rel => exact ⟨q / 10, i', Nat.le_refl _, by omega, by go_num, rfl, HN.out⟩
        case measure => omega
      · obtain rfl : q = 0 := by omega
        obtain ⟨suf, hsl, hi24, hcells, hm2, hbw, hzw⟩ := hd.done
        have hbB : Below B w wr := hbw.mono hB
        have hz : B ≤ wr.heap.size := by omega
        have hpos : 0 < 24 - i := by rw [← hsl, ← hm2]; exact digs_pos m (by omega)
        have h20 : 24 - i ≤ 20 := by rw [← hsl, ← hm2]; exact digs_len m hm
        have ho2 := own_below hown hbw
        have hkp := kept_below hbw
        have HC := Lib.hid hcells
        have HM := Lib.hid hm2
        have HSL := Lib.hid hsl
        have HZW := Lib.hid hzw
        have hsl62 := slice62 wr w.heap.size i (by omega)
        clear hcells hm2 hd hsl hzw
        go_wp2_with (at_builtin; refine wpList_append_own _ rfl _ _ 22 rfl B 5 i0 (.int .u8 0) 1 1 Ybad.underlying22 hi0 hz0 hz1' hz2' rfl (by decide) _ _ _ rfl ho2 ⟨w.heap.size, i, none⟩ (24 - i) (24 - i) (bc suf) rfl (by rw [bc_length, HSL.out, Nat.mul_one]) HC.out (by intro u hu; simp only [bc, List.mem_map] at hu; obtain ⟨b, -, rfl⟩ := hu; rfl) (by unfold maxLen; omega) (by omega) hz ?_)
        intro v3 w3 hown3 hgr _
        have hb3 : Below B w w3 := hbB.grown hgr hz (fun k hk => (ho2.lt k hk).1)
        have hk3 : Kept w w3 := hkp.grown ho2 hgr
        have F := fin_itoa h0 HM.out HSL.out hown3
        clear hown3 hgr
        go_wp2_with fail
        go_ret
        exact ⟨_, rfl, F, hb3, hk3⟩

/-! ### bytes.Equal, where both read as one text -/
set_option maxHeartbeats 400000 in
theorem equal_same (a b : Value) (s : ByteArray) (w : World) (ha : (convert 22 9 a).run Ybad.prog w = .ok (.string s) w) (hb : (convert 22 9 b).run Ybad.prog w = .ok (.string s) w) :
    Calls Ybad.prog 12 #[a, b] w fun e w' => e = .returned (.bool true) ∧ w' = w := by
  go_enter Ybad.func12, Ybad.ntmps12
  go_wp2
  go_ret
  exact ⟨by simp, rfl⟩

end Go.Proofs.YbulkcmzyDoor
