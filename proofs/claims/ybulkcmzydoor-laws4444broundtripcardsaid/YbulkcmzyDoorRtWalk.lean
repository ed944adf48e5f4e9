/-
  THE WALK over tsf/zz_law_s4444b.go: LawS4444BRoundTrip.
-/
import Derived.Test.YbulkcmzyDoorRtPlain
import Derived.Deep.QuietTactic
import Derived.BigQuiet
import Derived.Deep.LoopGhost
namespace Go.Proofs.YbulkcmzyDoor
open Go.RowKit

set_option maxHeartbeats 1000000 in
set_option maxRecDepth 10000 in
theorem rt_none (a : Option Addr) (cap : Nat) (w : World) :
    Calls Ybad.prog 4 #[.slice a 0 cap] w fun e w' => e = .returned (.bool true) ∧ Below w.heap.size w w' := by
  have HP := Lib.hid (ptr_any [] none w (.slice none 0 0) 0 [] rfl (.inr (World.ownsRow_nil _ _ _ _)) (fun _ h => by cases h) (fun _ h => by cases h) (by decide))
  go_enter Ybad.func4, Ybad.ntmps4
  go_wp2_with fail
  refine wp_loop_rounds 1 ?_
  rw [rounds_succ]
  go_wp2_with fail
  refine wp_loop_rounds 1 ?_
  rw [rounds_succ]
  go_wp2_with fail
  refine HP.out.mono ?_
  rintro e w1 ⟨v1, rfl, hb, hc⟩
  obtain ⟨a1, c1, rfl⟩ : ∃ a1 c1, v1 = .slice a1 0 c1 := by
    rcases hc with ⟨-, rfl, rfl⟩ | h
    · exact ⟨none, 0, rfl⟩
    · rcases h.2 with ⟨rfl, -⟩ | ⟨g, cap, cur, rfl, -⟩
      · exact ⟨none, 0, rfl⟩
      · exact ⟨_, _, rfl⟩
  clear hc
  go_wp2_with fail
  go_ret
  exact ⟨rfl, hb⟩

theorem all_small (ss : List ByteArray) {k : Nat} (hk : ss.length ≤ k) (h : ∀ j, j < k → (ss.getD j ByteArray.empty).size ≤ 1024) : ∀ s ∈ ss, s.size ≤ 1024 := by
  intro s hs
  obtain ⟨i, hi, rfl⟩ := List.getElem_of_mem hs
  have := h i (by omega)
  rwa [getD_at hi] at this

theorem chain_next {w : World} {ss : List ByteArray} {k : Nat} {s : ByteArray} {p : Option Addr} (hk : k < ss.length) (hs : s = ss.getD k ByteArray.empty) (h : Chain w (rv (ss.take k)) p) :
    Chain (w.alloc (.cells #[.pointer p, .string s, .int .i64 (-1)] 61)) (rv (ss.take (k + 1))) (some ⟨w.heap.size, 0, none⟩) := by
  rw [List.take_succ_eq_append_getElem hk, rv_snoc]
  refine ⟨w.heap.size, p, rfl, ?_, h.below ((Below.refl _ _).alloc (Nat.le_refl _) _)⟩
  rw [heap_alloc_new, hs, getD_at hk]

theorem got_owns {w w1 : World} {ss : List ByteArray} {B : Nat} {v1 : Value} (hp : 0 < ss.length)
    (h : (rv ss = [] ∧ v1 = .slice none 0 0 ∧ w1 = w) ∨ w1.ownsRow B 5 1 v1 (0 + (out (rv ss)).length) ([] ++ bc (out (rv ss)))) : w1.ownsRow B 5 1 v1 (enc ss).length (bc (enc ss)) := by
  rcases h with ⟨h, -⟩ | h
  · simp [rv] at h; subst h; simp at hp
  · rw [out_rv, Nat.zero_add, List.nil_append] at h; exact h

theorem got_cells {w1 : World} {ss : List ByteArray} {B : Nat} {v1 : Value} (hp : 0 < ss.length) (h : w1.ownsRow B 5 1 v1 (enc ss).length (bc (enc ss))) :
    ∃ E g cap, E = (enc ss).length ∧ v1 = .slice (some ⟨g, 0, none⟩) E cap ∧ g < w1.heap.size ∧ ∀ i x, (enc ss)[i]? = some x → w1.cell? ⟨g, i, none⟩ = some (.int .u8 (x.toNat : Int)) := by
  have hE : 0 < (enc ss).length := (List.getElem?_eq_some_iff.1 (enc_head (ns := ss) hp)).1
  rcases h.2 with ⟨-, h0⟩ | ⟨g, cap, cur, rfl, -, hg, -⟩
  · omega
  · refine ⟨_, g, cap, rfl, rfl, heap_lt hg, fun i x hx => ?_⟩
    have hi := (List.getElem?_eq_some_iff.1 hx).1
    rw [h.cellAt i (by omega)]
    simp [bc, hx]

theorem toks_cells {w : World} {ss : List ByteArray} {B n : Nat} {v : Value} (hp : 0 < n) (h : w.ownsRow B 9 1 v n (ss.map Value.string)) :
    ∃ g cap, v = .slice (some ⟨g, 0, none⟩) n cap ∧ ∀ i, i < n → i < ss.length → w.cell? ⟨g, i, none⟩ = some (.string (ss.getD i ByteArray.empty)) := by
  rcases h.2 with ⟨-, h0⟩ | ⟨g, cap, cur, rfl, -, hg, -⟩
  · omega
  · refine ⟨g, cap, rfl, fun i hi hi2 => ?_⟩
    rw [h.cellAt i (by omega), getD_at hi2]
    simp [hi2]

set_option maxHeartbeats 1000000 in
set_option maxRecDepth 10000 in
theorem rt_some (b off len cap : Nat) (ss : List ByteArray) (w : World) (hpos : 0 < len) (hlen : len ≤ 9223372036854775807) (hz : ss.length = len) (hb : b < w.heap.size) (hss : ∀ s ∈ ss, s.size ≤ 9223372036854775807)
    (hc : ∀ j, j < ss.length → w.cell? ⟨b, off + j, none⟩ = some (.string (ss.getD j ByteArray.empty))) :
    Calls Ybad.prog 4 #[.slice (some ⟨b, off, none⟩) len cap] w fun e w' => e = .returned (.bool true) ∧ Below w.heap.size w w' := by
  obtain ⟨i0, hi0, hz0, hz1', hz2'⟩ := info_parts Ybad.info5
  obtain ⟨i9, hi9, hz90, hz91, hz92⟩ := info_parts Ybad.info9
  by_cases hbig : 1024 < len
  · go_enter Ybad.func4, Ybad.ntmps4
    go_wp2_with fail
    go_ret
    exact ⟨rfl, Below.refl _ _⟩
  · have hlen2 : len ≤ 1024 := by omega
    go_enter Ybad.func4, Ybad.ntmps4
    go_wp2_with fail
    go_loop [19] (fun i => ∃ k : Nat, k ≤ len ∧ i = .int .i64 k ∧ ∀ j, j < k → (ss.getD j ByteArray.empty).size ≤ 1024) (fun i => len - (intOf i).toNat)
    case atStart => exact ⟨0, Nat.zero_le _, rfl, fun j h => absurd h (Nat.not_lt_zero _)⟩
    case round =>
      obtain ⟨k, hk, rfl, hsm⟩ := hrel
      obtain ⟨s, hs⟩ : ∃ s, s = ss.getD k ByteArray.empty := ⟨_, rfl⟩
      by_cases hkl : k < len
      · have hcx : w.cell? ⟨b, off + k, none⟩ = some (.string s) := by rw [hs]; exact hc k (by omega)
        have hs2 : s.size ≤ 9223372036854775807 := by rw [hs, getD_at (by omega)]; exact hss _ (List.getElem_mem _)
        have HS := Lib.hid hs
        clear hs hc hss
        by_cases hs1 : 1024 < s.size
        · go_wp2_with fail
          go_ret
          exact ⟨rfl, Below.refl _ _⟩
        · go_wp2_with fail
          go_round
          case rel => exact ⟨k + 1, by omega, by go_num, fun j hj => by rcases Nat.lt_succ_iff_lt_or_eq.1 hj with h | rfl; exact hsm j h; rw [← HS.out]; omega⟩
          case measure => simp [intOf]; omega
      · have hall : ∀ s ∈ ss, s.size ≤ 1024 := all_small ss (by omega) hsm
        clear hsm
        have hel := enc_len ss hall
        go_wp2_with fail
        go_loopw [5, 29] (fun l i wr => ∃ (k2 : Nat) (p : Option Addr), k2 ≤ len ∧ i = .int .i64 k2 ∧ l = .pointer p ∧ Chain wr (rv (ss.take k2)) p ∧ Below w.heap.size w wr) (fun _ i _ => len - (intOf i).toNat)
        case atStart => exact ⟨0, none, Nat.zero_le _, rfl, rfl, rfl, Below.refl _ _⟩
        case round =>
          obtain ⟨k2, p, hk2, rfl, rfl, hch, hbw⟩ := hrel
          by_cases hkl2 : k2 < len
          · obtain ⟨s, hs⟩ : ∃ s, s = ss.getD k2 ByteArray.empty := ⟨_, rfl⟩
            have hcx : wr.cell? ⟨b, off + k2, none⟩ = some (.string s) := by rw [hs]; exact (hbw.cell (p := ⟨b, off + k2, none⟩) hb).trans (hc k2 (by omega))
            have R := chain_next (w := wr) (s := s) (by omega) hs hch
            have HS := Lib.hid hs
            clear hs hc hss hch
            go_wp2_with (go_at_call 9; refine (member_any _ _ _).mono ?_; rintro e w' ⟨rfl, rfl⟩)
            go_roundw
            case rel => exact ⟨k2 + 1, _, by omega, by go_num, rfl, R, hbw.alloc hbw.size _⟩
            case measure => simp [intOf]; omega
          · have hk3 : ss.take k2 = ss := List.take_of_length_le (by omega)
            rw [hk3] at hch
            have HP := Lib.hid (ptr_any (rv ss) p wr (.slice none 0 0) 0 [] hch (.inr (World.ownsRow_nil _ _ _ _)) (fun st h => by have := hall st.1 (mem_rv h).1; omega) (fun st h h0 => by have := (mem_rv h).2; omega) (by rw [out_rv]; omega))
            clear hch hk3
            go_wp2_with fail
            refine HP.out.mono ?_
            rintro e w1 ⟨v1, rfl, hb1, hcase⟩
            have hown := got_owns (ss := ss) (by omega) hcase
            clear hcase HP
            obtain ⟨E, g, cap1, hEE, rfl, hg, hgc⟩ := got_cells (by omega) hown
            have hE : 0 < E := by rw [hEE]; exact (List.getElem?_eq_some_iff.1 (enc_head (ns := ss) (by omega))).1
            have hE2 : E ≤ 2098176 := by omega
            have HEE := Lib.hid hEE
            have hlb : ((len : Int) == 0) = false := by rw [beq_eq_false_iff_ne]; omega
            have hEb : ((E : Int) == 0) = false := by rw [beq_eq_false_iff_ne]; omega
            have hg0 : w1.cell? ⟨g, 0, none⟩ = some (.int .u8 47) := hgc 0 47 (enc_head (by omega))
            have HG := Lib.hid hgc
            clear hown hgc hEE hel
            go_wp2_with fail
            go_loopg [9, 10, 11] E (fun gk toks cur i wr => ∃ j k3 P : Nat, i = .int .i64 P ∧ E < P + gk ∧ At ss j k3 P ∧ wr.ownsRow w1.heap.size 9 1 toks j ((ss.take j).map Value.string) ∧ wr.ownsRow w1.heap.size 5 1 cur k3 (bc ((ss.getD j ByteArray.empty).data.toList.take k3)) ∧ Below w1.heap.size w1 wr)
            case atStart => exact ⟨0, 0, 1, rfl, by omega, At.start (by omega), World.ownsRow_nil _ _ _ _, World.ownsRow_lit w1 #[] 0 (Nat.le_refl _) (Nat.zero_le _) rfl, (Below.refl _ _).alloc (Nat.le_refl _) _⟩
            case round =>
              obtain ⟨j, k3, P, rfl, hgk, hat, hT, hC, hbl⟩ := hrel
              have hPE : P ≤ E := by rw [HEE.out]; exact hat.lt
              have hj : j < ss.length := hat.1
              have hsz : (ss.getD j ByteArray.empty).size ≤ 1024 := by rw [getD_at hj]; exact hall _ (List.getElem_mem _)
              have hk4 : k3 ≤ 1024 := Nat.le_trans hat.2.1 hsz
              clear hsz
              have hzr : w1.heap.size ≤ wr.heap.size := hbl.size
              have rd : ∀ i x, (enc ss)[i]? = some x → wr.cell? ⟨g, i, none⟩ = some (.int .u8 (x.toNat : Int)) := fun i x h => (hbl.cell (p := ⟨g, i, none⟩) hg).trans (HG.out i x h)
              have lt : ∀ i x, (enc ss)[i]? = some x → i < E := fun i x h => by rw [HEE.out]; exact (List.getElem?_eq_some_iff.1 h).1
              rcases hat.ahead with ⟨hk, -, n1, n2, r0, nx⟩ | ⟨hk, hcc, r0, r1, nx⟩ | ⟨hk, hcc, r0, r1, nx⟩ | ⟨hk, hj1, r0, nx⟩ | ⟨hk, hj1, hPl⟩
              · obtain ⟨c, hcd⟩ : ∃ c : UInt8, c = (ss.getD j ByteArray.empty)[k3] := ⟨_, rfl⟩
                rw [← hcd] at n1 n2 r0
                have a0 := rd _ _ r0
                have l0 := lt _ _ r0
                have R := fun v' w3 h1 h2 => rel_cur (w1 := w1) (w3 := w3) (v' := v') (o := .cells #[.int .u8 (c.toNat : Int)] 5) (c := (c.toNat : Int)) hk (by rw [hcd]) hzr hT hC hbl h1 h2
                have HR := Lib.hid R
                have HX := Lib.hid nx
                clear R rd lt hat r0 nx hc hss hcd hk
                go_wp2_with (at_builtin; refine wpList_append_own _ rfl _ _ 22 rfl w1.heap.size 5 i0 (.int .u8 0) 1 1 Ybad.underlying22 hi0 hz0 hz1' hz2' rfl (by decide) _ _ _ rfl (hC.alloc _) ⟨wr.heap.size, 0, none⟩ 1 1 [.int .u8 (c.toNat : Int)] rfl rfl (one_new _ _ _) (by intro u hu; simp at hu; subst hu; rfl) (by unfold maxLen; omega) (by omega) (by simp; omega) ?_)
                intro v3 w3 hown3 hgr _
                have R := HR.out v3 w3 hown3 hgr
                clear hown3 hgr HR
                go_wp2_with fail
                go_roundg (gk - 1)
                case rel => exact ⟨j, k3 + 1, P + 1, by go_num, by omega, HX.out, R⟩
                case measure => omega
              · have l0 := lt _ _ r0
                have a1 : wr.cell? ⟨g, P + 1, none⟩ = some (.int .u8 48) := rd _ _ r1
                have a0 : wr.cell? ⟨g, P, none⟩ = some (.int .u8 126) := rd _ _ r0
                have l1 := lt _ _ r1
                have R := fun v' w3 h1 h2 => rel_cur (w1 := w1) (w3 := w3) (v' := v') (o := .cells #[.int .u8 126] 5) (c := 126) hk (by rw [hcc]; rfl) hzr hT hC hbl h1 h2
                have HR := Lib.hid R
                have HX := Lib.hid nx
                clear R rd lt hat r0 r1 nx hc hss hcc hk
                go_wp2_with (at_builtin; refine wpList_append_own _ rfl _ _ 22 rfl w1.heap.size 5 i0 (.int .u8 0) 1 1 Ybad.underlying22 hi0 hz0 hz1' hz2' rfl (by decide) _ _ _ rfl (hC.alloc _) ⟨wr.heap.size, 0, none⟩ 1 1 [.int .u8 126] rfl rfl (one_new _ _ _) (by intro u hu; simp at hu; subst hu; rfl) (by unfold maxLen; omega) (by omega) (by simp; omega) ?_)
                intro v3 w3 hown3 hgr _
                have R := HR.out v3 w3 hown3 hgr
                clear hown3 hgr HR
                go_wp2_with fail
                go_roundg (gk - 1)
                case rel => exact ⟨j, k3 + 1, P + 2, by go_num, by omega, HX.out, R⟩
                case measure => omega
              · have l0 := lt _ _ r0
                have a1 : wr.cell? ⟨g, P + 1, none⟩ = some (.int .u8 49) := rd _ _ r1
                have a0 : wr.cell? ⟨g, P, none⟩ = some (.int .u8 126) := rd _ _ r0
                have l1 := lt _ _ r1
                have R := fun v' w3 h1 h2 => rel_cur (w1 := w1) (w3 := w3) (v' := v') (o := .cells #[.int .u8 47] 5) (c := 47) hk (by rw [hcc]; rfl) hzr hT hC hbl h1 h2
                have HR := Lib.hid R
                have HX := Lib.hid nx
                clear R rd lt hat r0 r1 nx hc hss hcc hk
                go_wp2_with (at_builtin; refine wpList_append_own _ rfl _ _ 22 rfl w1.heap.size 5 i0 (.int .u8 0) 1 1 Ybad.underlying22 hi0 hz0 hz1' hz2' rfl (by decide) _ _ _ rfl (hC.alloc _) ⟨wr.heap.size, 0, none⟩ 1 1 [.int .u8 47] rfl rfl (one_new _ _ _) (by intro u hu; simp at hu; subst hu; rfl) (by unfold maxLen; omega) (by omega) (by simp; omega) ?_)
                intro v3 w3 hown3 hgr _
                have R := HR.out v3 w3 hown3 hgr
                clear hown3 hgr HR
                go_wp2_with fail
                go_roundg (gk - 1)
                case rel => exact ⟨j, k3 + 1, P + 2, by go_num, by omega, HX.out, R⟩
                case measure => omega
              · obtain ⟨s4, hs4⟩ : ∃ s4, s4 = ss.getD j ByteArray.empty := ⟨_, rfl⟩
                have a0 : wr.cell? ⟨g, P, none⟩ = some (.int .u8 47) := rd _ _ r0
                have l0 := lt _ _ r0
                rw [← hs4] at hC hk
                have hcv := conv_name wr hk hC
                have R := fun v' w3 h1 h2 => rel_tok (w1 := w1) (w3 := w3) (v' := v') (o := .cells #[.string s4] 9) hj hs4 hzr hT hbl h1 h2
                have HR := Lib.hid R
                have HX := Lib.hid nx
                clear R rd lt hat r0 nx hc hss hs4 hk
                go_wp2_with (at_builtin; refine wpList_append_own _ rfl _ _ 34 rfl w1.heap.size 9 i9 (.string ByteArray.empty) 1 16 Ybad.underlying34 hi9 hz90 hz91 hz92 rfl (by decide) _ _ _ rfl (hT.alloc _) ⟨wr.heap.size, 0, none⟩ 1 1 [.string s4] rfl rfl (one_new _ _ _) (by intro u hu; simp at hu; subst hu; rfl) (by unfold maxLen; omega) (by omega) (by simp; omega) ?_)
                intro v3 w3 hown3 hgr _
                have R := HR.out v3 w3 (by simpa only [List.map_take] using hown3) hgr
                have hz3 := R.2.size
                clear hown3 hgr HR hcv
                go_wp2_with fail
                go_roundg (gk - 1)
                case rel => exact ⟨j + 1, 0, P + 1, by go_num, by omega, HX.out, R.1.alloc _, World.ownsRow_lit w3 #[] 0 hz3 (Nat.zero_le _) rfl, R.2.alloc hz3 _⟩
                case measure => omega
              · obtain ⟨s4, hs4⟩ : ∃ s4, s4 = ss.getD j ByteArray.empty := ⟨_, rfl⟩
                have hPEq : ¬ P < E := by rw [HEE.out]; omega
                rw [← hs4] at hC hk
                have hcv := conv_name wr hk hC
                have R := fun v' w3 h1 h2 => rel_tok (w1 := w1) (w3 := w3) (v' := v') (o := .cells #[.string s4] 9) hj hs4 hzr hT hbl h1 h2
                have HR := Lib.hid R
                have hjl : j + 1 = len := by omega
                have HJ := Lib.hid hjl
                have hj2 : j < 1024 := by omega
                clear R rd lt hat hss hs4 hk hPl hj1 hjl
                go_wp2_with (at_builtin; refine wpList_append_own _ rfl _ _ 34 rfl w1.heap.size 9 i9 (.string ByteArray.empty) 1 16 Ybad.underlying34 hi9 hz90 hz91 hz92 rfl (by decide) _ _ _ rfl (hT.alloc _) ⟨wr.heap.size, 0, none⟩ 1 1 [.string s4] rfl rfl (one_new _ _ _) (by intro u hu; simp at hu; subst hu; rfl) (by unfold maxLen; omega) (by omega) (by simp; omega) ?_)
                intro v3 w3 hown3 hgr _
                have R := HR.out v3 w3 (by simpa only [List.map_take] using hown3) hgr
                clear hown3 hgr HR hcv hT hC
                rw [HJ.out, List.take_of_length_le (by omega)] at R
                obtain ⟨g3, cap3, rfl, hg3⟩ := toks_cells hpos R.1
                have hbw3 : Below w.heap.size w w3 := (hbw.trans (hb1.mono hbw.size)).trans (R.2.mono (Nat.le_trans hbw.size hb1.size))
                have HG3 := Lib.hid hg3
                have HC := Lib.hid hc
                have HR2 := Lib.hid R
                clear hg3 hc R HG
                go_wp2_with fail
                go_loopg [13] len (fun gk i wr => ∃ q : Nat, i = .int .i64 q ∧ q ≤ len ∧ len ≤ q + gk ∧ Below w.heap.size w wr ∧ Hid (wr.heap = w3.heap))
                case atStart => exact ⟨0, rfl, by omega, by omega, hbw3, rfl⟩
                case round =>
                  obtain ⟨q, rfl, hq, hgk2, hbq, hhq⟩ := hrel
                  by_cases hql : q < len
                  · obtain ⟨t, ht⟩ : ∃ t, t = ss.getD q ByteArray.empty := ⟨_, rfl⟩
                    have e1 : wr.cell? ⟨g3, q, none⟩ = some (.string t) := by rw [World.cell?_of_block (w := w3) (a := ⟨g3, q, none⟩) (by rw [hhq.out]), ht]; exact HG3.out q hql (by omega)
                    have e2 : wr.cell? ⟨b, off + q, none⟩ = some (.string t) := by rw [ht]; exact (hbq.cell (p := ⟨b, off + q, none⟩) hb).trans (HC.out q (by omega))
                    have HT := Lib.hid ht
                    clear ht
                    go_wp2_with fail
                    go_quiet (fail)
                    go_wp2_with fail
                    go_roundg (gk - 1)
                    case rel => exact ⟨q + 1, by go_num, by omega, by omega, below_drewN hbq _, hhq⟩
                    case measure => omega
                  · go_wp2_with fail
                    go_ret
                    exact ⟨rfl, hbq⟩

end Go.Proofs.YbulkcmzyDoor
