/-
  WALKS over tsf/read.go: member, index, appendPointer.
-/
import Derived.Test.YbulkcmzyDoorBuf
namespace Go.Proofs.YbulkcmzyDoor
open Go.RowKit

set_option maxHeartbeats 400000 in
theorem member_any (p : Option Addr) (s : ByteArray) (w : World) :
    Calls Ybad.prog 9 #[.pointer p, .string s] w fun e w' => e = .returned (.pointer (some ⟨w.heap.size, 0, none⟩)) ∧ w' = w.alloc (.cells #[.pointer p, .string s, .int .i64 (-1)] 61) := by
  go_enter Ybad.func9, Ybad.ntmps9
  go_wp2
  go_ret
  exact ⟨rfl, rfl⟩

set_option maxHeartbeats 400000 in
theorem index_any (p : Option Addr) (i : Int) (w : World) :
    Calls Ybad.prog 7 #[.pointer p, .int .i64 i] w fun e w' => e = .returned (.pointer (some ⟨w.heap.size, 0, none⟩)) ∧ w' = w.alloc (.cells #[.pointer p, .string ⟨#[]⟩, .int .i64 i] 61) := by
  go_enter Ybad.func7, Ybad.ntmps7
  go_wp2
  go_ret
  exact ⟨rfl, rfl⟩

/-- What strconv.AppendInt at base 10 is asked for, in every world that the walk may come to. -/
def AIok (B : Nat) (w : World) : Prop := ∀ (w' : World) (v : Value) (n : Nat) (xs : List Value) (i : Int), Below B w w' → 0 ≤ i → i ≤ 9223372036854775807 → w'.ownsRow B 5 1 v n xs → n + 21 ≤ 140737488355328 →
  Calls Ybad.prog 16 #[v, .int .i64 i, .int .i64 10] w' fun e w2 => ∃ v', e = .returned v' ∧ w2.ownsRow B 5 1 v' (n + (Lib.itoa i).length) (xs ++ bc (Lib.itoa i)) ∧ Below B w' w2

theorem esc_snoc (s : ByteArray) (k : Nat) (h : k < s.size) : esc (s.data.toList.take (k + 1)) = esc (s.data.toList.take k) ++ escB s[k] := by
  rw [List.take_succ_eq_append_getElem (by simpa using h)]
  simp [esc]
  rfl
theorem escB_tilde {c : UInt8} (h : (c.toNat : Int) = 126) : escB c = [126, 48] := by
  have : c = 126 := UInt8.toNat_inj.1 (by simp; omega)
  simp [escB, this]
theorem escB_slash {c : UInt8} (h : (c.toNat : Int) = 47) : escB c = [126, 49] := by
  have : c = 47 := UInt8.toNat_inj.1 (by simp; omega)
  simp [escB, this]
theorem escB_else {c : UInt8} (h : (c.toNat : Int) ≠ 126) (h' : (c.toNat : Int) ≠ 47) : escB c = [c] := by
  have a : ¬ c = 126 := by rintro rfl; simp at h
  have b : ¬ c = 47 := by rintro rfl; simp at h'
  simp [escB, a, b]
theorem size2 {a b : UInt8} : (⟨#[a, b]⟩ : ByteArray).size = 2 := rfl
theorem escB_len (c : UInt8) : (escB c).length ≤ 2 := by unfold escB; split; · simp
                                                         split <;> simp
theorem esc_take_le (l : List UInt8) (k : Nat) : (esc (l.take k)).length ≤ (esc l).length := by
  have h : esc l = esc (l.take k) ++ esc (l.drop k) := by
    unfold esc
    rw [← List.flatMap_append, List.take_append_drop]
  rw [h, List.length_append]
  omega

theorem fin_int {w3 : World} {B n : Nat} {v3 : Value} {xs : List Value} {rest : List (ByteArray × Int)} {s : ByteArray} {e : Int} (he : 0 ≤ e)
    (h : w3.ownsRow B 5 1 v3 (n + (out rest).length + 1 + (Lib.itoa e).length) (xs ++ bc (out rest) ++ [.int .u8 47] ++ bc (Lib.itoa e))) :
    w3.ownsRow B 5 1 v3 (n + (out ((s, e) :: rest)).length) (xs ++ bc (out ((s, e) :: rest))) := by
  have e1 : n + (out ((s, e) :: rest)).length = n + (out rest).length + 1 + (Lib.itoa e).length := by simp [out, seg, he]; omega
  have e2 : xs ++ bc (out ((s, e) :: rest)) = xs ++ bc (out rest) ++ [.int .u8 47] ++ bc (Lib.itoa e) := by simp [out, seg, he, bc]
  rw [e1, e2]; exact h

theorem fin_esc {w3 : World} {B n k : Nat} {v3 : Value} {xs : List Value} {rest : List (ByteArray × Int)} {s : ByteArray} {e : Int} (he : ¬ 0 ≤ e) (hk : s.size ≤ k)
    (h : w3.ownsRow B 5 1 v3 (n + (out rest).length + 1 + (esc (s.data.toList.take k)).length) (xs ++ bc (out rest) ++ bc (47 :: esc (s.data.toList.take k)))) :
    w3.ownsRow B 5 1 v3 (n + (out ((s, e) :: rest)).length) (xs ++ bc (out ((s, e) :: rest))) := by
  rw [List.take_of_length_le (by simpa using hk)] at h
  have e1 : n + (out ((s, e) :: rest)).length = n + (out rest).length + 1 + (esc s.data.toList).length := by simp [out, seg, he]; omega
  have e2 : xs ++ bc (out ((s, e) :: rest)) = xs ++ bc (out rest) ++ bc (47 :: esc s.data.toList) := by simp [out, seg, he, bc]
  rw [e1, e2]; exact h

theorem loop_start {w2 : World} {B n : Nat} {v2 : Value} {xs : List Value} {rest : List (ByteArray × Int)} {s : ByteArray}
    (h : w2.ownsRow B 5 1 v2 (n + (out rest).length + 1) (xs ++ bc (out rest) ++ [.int .u8 47])) :
    w2.ownsRow B 5 1 v2 (n + (out rest).length + 1 + (esc (s.data.toList.take 0)).length) (xs ++ bc (out rest) ++ bc (47 :: esc (s.data.toList.take 0))) := by
  simpa [esc, bc] using h

theorem esc_step {w2 : World} {B k : Nat} (m : Nat) {v2 : Value} (xs ys : List Value) {s : ByteArray} (hk : k < s.size) {l : List UInt8} (hl : escB s[k] = l)
    (h : w2.ownsRow B 5 1 v2 (m + (esc (s.data.toList.take k)).length + l.length) (xs ++ (ys ++ (bc (47 :: esc (s.data.toList.take k)) ++ bc l)))) :
    w2.ownsRow B 5 1 v2 (m + (esc (s.data.toList.take (k + 1))).length) (xs ++ ys ++ bc (47 :: esc (s.data.toList.take (k + 1)))) := by
  have e1 : m + (esc (s.data.toList.take (k + 1))).length = m + (esc (s.data.toList.take k)).length + l.length := by rw [esc_snoc s k hk, hl, List.length_append]; omega
  have e2 : xs ++ ys ++ bc (47 :: esc (s.data.toList.take (k + 1))) = xs ++ (ys ++ (bc (47 :: esc (s.data.toList.take k)) ++ bc l)) := by rw [esc_snoc s k hk, hl]; simp [bc]
  rw [e1, e2]; exact h

set_option maxHeartbeats 1000000 in
set_option maxRecDepth 10000 in
theorem ptr_any : ∀ (l : List (ByteArray × Int)) (p : Option Addr) (w : World) (v : Value) (n : Nat) (xs : List Value), Chain w l p → Buf w.heap.size w v n xs → (∀ st ∈ l, st.1.size ≤ 9223372036854775807) →
    (∀ st ∈ l, 0 ≤ st.2 → st.2 ≤ 9223372036854775807 ∧ AIok w.heap.size w) → n + (out l).length + 21 ≤ 140737488355328 →
    Calls Ybad.prog 11 #[.pointer p, v] w fun e w' => ∃ v', e = .returned v' ∧ Below w.heap.size w w' ∧ ((l = [] ∧ v' = v ∧ w' = w) ∨ w'.ownsRow w.heap.size 5 1 v' (n + (out l).length) (xs ++ bc (out l))) := by
  intro l
  induction l with
  | nil =>
    intro p w v n xs hc hb _ _ _
    obtain rfl : p = none := hc
    go_enter Ybad.func11, Ybad.ntmps11
    go_wp2_with fail
    go_ret
    exact ⟨_, rfl, Below.refl _ _, .inl ⟨trivial, rfl, rfl⟩⟩
  | cons st rest ih =>
    intro p w v n xs hc hb hs hi hn
    obtain ⟨i0, hi0, hz0, hz1', hz2'⟩ := info_parts Ybad.info5
    obtain ⟨s, e⟩ := st
    obtain ⟨b, q, rfl, hblk, hrest⟩ := hc
    have hlt := heap_lt hblk
    obtain ⟨c0, c1, c2⟩ := cells61 hblk
    have IH := ih q w v n xs hrest hb (fun st h => hs st (List.mem_cons_of_mem _ h)) (fun st h => hi st (List.mem_cons_of_mem _ h)) (by simp only [out, List.length_append] at hn; omega)
    have HI := Lib.hid IH
    clear IH ih
    go_enter Ybad.func11, Ybad.ntmps11
    go_wp2_with fail
    refine HI.out.mono ?_
    rintro e1 w1 ⟨v1, rfl, hb1, hcase⟩
    have hbuf : Buf w.heap.size w1 v1 (n + (out rest).length) (xs ++ bc (out rest)) := by
      rcases hcase with ⟨rfl, rfl, rfl⟩ | h
      · simpa [out, bc] using hb
      · exact .inr h
    have hz1 : w.heap.size ≤ w1.heap.size := hb1.size
    have hsl : s.size ≤ 9223372036854775807 := hs (s, e) List.mem_cons_self
    clear hcase hs
    go_wp2_with (at_builtin; refine wpList_append_buf _ rfl _ _ rfl w.heap.size _ _ _ rfl (hbuf.alloc hz1 _) ⟨w1.heap.size, 0, none⟩ 1 1 [.int .u8 47] rfl rfl (by decide) (one_new _ _ _) (by intro u hu; simp at hu; subst hu; rfl) (by simp only [out, seg, List.length_append, List.length_cons] at hn; omega) (by simp; omega) ?_)
    intro v2 w2 hown2 hb2
    rw [← List.append_assoc] at hown2
    have hb12 : Below w.heap.size w w2 := (hb1.alloc hz1 _).trans hb2
    have d1 : w2.cell? ⟨b, 1, none⟩ = some (.string s) := (hb12.cell (p := ⟨b, 1, none⟩) hlt).trans c1
    have d2 : w2.cell? ⟨b, 2, none⟩ = some (.int .i64 e) := (hb12.cell (p := ⟨b, 2, none⟩) hlt).trans c2
    have hz2 : w.heap.size ≤ w2.heap.size := hb12.size
    by_cases he : 0 ≤ e
    · obtain ⟨he2, hAI⟩ := hi (s, e) List.mem_cons_self he
      have HA := Lib.hid (hAI w2 v2 _ _ e hb12 he he2 hown2 (by simp only [out, seg, List.length_append, List.length_cons] at hn; omega))
      clear hAI hi
      go_wp2_with fail
      refine HA.out.mono ?_
      rintro e3 w3 ⟨v3, rfl, hown3, hb3⟩
      have F := fin_int (rest := rest) (s := s) he hown3
      clear hown3 hown2 HA
      go_wp2_with fail
      go_ret
      exact ⟨_, rfl, hb12.trans hb3, .inr F⟩
    · have he' : e < 0 := by omega
      have hn' : n + (out rest).length + 1 + (esc s.data.toList).length + 21 ≤ 140737488355328 := by
        simp only [out, seg, List.length_append, List.length_cons, if_neg he] at hn; omega
      have R0 := loop_start (s := s) hown2
      clear hi hown2 hbuf HI hn
      go_wp2_with fail
      go_loopw [1, 5] (fun bv i wr => ∃ k : Nat, k ≤ s.size ∧ i = .int .i64 k ∧ wr.ownsRow w.heap.size 5 1 bv (n + (out rest).length + 1 + (esc (s.data.toList.take k)).length) (xs ++ bc (out rest) ++ bc (47 :: esc (s.data.toList.take k))) ∧ Below w.heap.size w wr)
        (fun _ i _ => s.size - (intOf i).toNat)
      case atStart => exact ⟨0, Nat.zero_le _, rfl, R0, hb12⟩
      case round =>
        obtain ⟨k, hk, rfl, hown, hbr⟩ := hrel
        have g1 : wr.cell? ⟨b, 1, none⟩ = some (.string s) := (hbr.cell (p := ⟨b, 1, none⟩) hlt).trans c1
        have hzr : w.heap.size ≤ wr.heap.size := hbr.size
        by_cases hlt2 : k < s.size
        · have hel := esc_take_le s.data.toList (k + 1)
          rw [esc_snoc s k hlt2, List.length_append] at hel
          by_cases h1 : (s[k].toNat : Int) = 126
          · rw [escB_tilde h1, show ([126, 48] : List UInt8).length = 2 from rfl] at hel
            go_wp2_with (at_builtin; refine Lib.wpList_append_own_string _ rfl _ _ 22 9 rfl w.heap.size 5 i0 Ybad.underlying22 Ybad.underlying9 hi0 hz0 hz1' hz2' _ _ _ rfl hown ⟨#[126, 48]⟩ rfl (by rw [size2]; unfold maxLen; omega) (by rw [size2]; omega) hzr ?_)
            intro v3 w3 hown3 hgr _
            have R := esc_step (n + (out rest).length + 1) xs (bc (out rest)) hlt2 (escB_tilde h1) hown3
            have hb3 : Below w.heap.size w w3 := hbr.grown hgr hzr (fun k hk => (hown.lt k hk).1)
            clear hown3 hown hgr hel
            go_wp2_with fail
            go_roundw
            case rel => exact ⟨k + 1, by omega, by go_num, R, hb3⟩
            case measure => simp [intOf]; omega
          · by_cases h2 : (s[k].toNat : Int) = 47
            · rw [escB_slash h2, show ([126, 49] : List UInt8).length = 2 from rfl] at hel
              go_wp2_with (at_builtin; refine Lib.wpList_append_own_string _ rfl _ _ 22 9 rfl w.heap.size 5 i0 Ybad.underlying22 Ybad.underlying9 hi0 hz0 hz1' hz2' _ _ _ rfl hown ⟨#[126, 49]⟩ rfl (by rw [size2]; unfold maxLen; omega) (by rw [size2]; omega) hzr ?_)
              intro v3 w3 hown3 hgr _
              have R := esc_step (n + (out rest).length + 1) xs (bc (out rest)) hlt2 (escB_slash h2) hown3
              have hb3 : Below w.heap.size w w3 := hbr.grown hgr hzr (fun k hk => (hown.lt k hk).1)
              clear hown3 hown hgr hel
              go_wp2_with fail
              go_roundw
              case rel => exact ⟨k + 1, by omega, by go_num, R, hb3⟩
              case measure => simp [intOf]; omega
            · rw [escB_else h1 h2, List.length_singleton] at hel
              go_wp2_with (at_builtin; refine wpList_append_own _ rfl _ _ 22 rfl w.heap.size 5 i0 (.int .u8 0) 1 1 Ybad.underlying22 hi0 hz0 hz1' hz2' rfl (by decide) _ _ _ rfl (hown.alloc _) ⟨wr.heap.size, 0, none⟩ 1 1 [.int .u8 (s[k].toNat : Int)] rfl rfl (one_new _ _ _) (by intro u hu; simp at hu; subst hu; rfl) (by unfold maxLen; omega) (by omega) (by simp; omega) ?_)
              intro v3 w3 hown3 hgr _
              have R := esc_step (n + (out rest).length + 1) xs (bc (out rest)) hlt2 (escB_else h1 h2) hown3
              have hb3 : Below w.heap.size w w3 := (hbr.alloc hzr _).grown hgr (by simp; omega) (fun k hk => (hown.lt k hk).1)
              clear hown3 hown hgr hel
              go_wp2_with fail
              go_roundw
              case rel => exact ⟨k + 1, by omega, by go_num, R, hb3⟩
              case measure => simp [intOf]; omega
        · go_wp2_with fail
          go_ret
          have F := fin_esc (rest := rest) (e := e) (s := s) (k := k) (by omega) (by omega) hown
          exact ⟨_, rfl, hbr, .inr F⟩
end Go.Proofs.YbulkcmzyDoor
