/-
  THE WALK over (*weightedOrder).pick.
-/
import Derived.Test.YbulkcnamSet
namespace Go.Proofs.Ybulkcnam
open Go.RowKit

/-- That no operation on the way is invalid. -/
structure PickOk (sh pk : List Nat) (picks slack : Nat) : Prop where
  one : Ieee.double.add picks 4607182418800017408 = some (fadd picks 4607182418800017408)
  inc : ∀ i, i < sh.length → Ieee.double.add (pk.getD i 0) 4607182418800017408 = some (fadd (pk.getD i 0) 4607182418800017408)
  sub : ∀ i, i < sh.length → Ieee.double.sub (fadd (pk.getD i 0) 4607182418800017408) slack = some (fsub (fadd (pk.getD i 0) 4607182418800017408) slack)
  quo : ∀ i, i < sh.length → Ieee.double.div (fsub (fadd (pk.getD i 0) 4607182418800017408) slack) (sh.getD i 0) = some (fdiv (fsub (fadd (pk.getD i 0) 4607182418800017408) slack) (sh.getD i 0))
  add : ∀ i, i < sh.length → Ieee.double.add (fadd (pk.getD i 0) 4607182418800017408) slack = some (fadd (fadd (pk.getD i 0) 4607182418800017408) slack)
  key : ∀ i, i < sh.length → Ieee.double.div (fadd (fadd (pk.getD i 0) 4607182418800017408) slack) (sh.getD i 0) = some (fdiv (fadd (fadd (pk.getD i 0) 4607182418800017408) slack) (sh.getD i 0))

/-- The two heaps hold each replica once. -/
def Once (wt du : List (Nat × Nat)) (n : Nat) : Prop := ((wt ++ du).map (·.2)).Perm (List.range n)

theorem Once.length {wt du : List (Nat × Nat)} {n : Nat} (h : Once wt du n) : wt.length + du.length = n := by
  have := h.length_eq
  simpa using this
theorem Once.lt {wt du : List (Nat × Nat)} {n : Nat} (h : Once wt du n) {y : Nat × Nat} (hy : y ∈ wt ∨ y ∈ du) : y.2 < n :=
  List.mem_range.1 (h.mem_iff.1 (List.mem_map_of_mem (f := (·.2)) (List.mem_append.2 hy)))
/-- The first of the waiting is made due. -/
theorem Once.move {wt du : List (Nat × Nat)} {n k : Nat} (h : Once wt du n) (h0 : 0 < wt.length) : Once (popL wt) (pushL du (k, (wt.getD 0 dI).2)) n := by
  unfold Once at *
  refine List.Perm.trans ?_ h
  simp only [List.map_append]
  have h1 := (popL_perm wt h0).map (·.2)
  have h2 := (pushL_perm du (k, (wt.getD 0 dI).2)).map (·.2)
  simp only [List.map_cons] at h1 h2
  refine (h2.append_left _).trans ?_
  refine List.Perm.trans List.perm_middle ?_
  exact h1.append_right _
/-- The first that is due is put among the waiting. -/
theorem Once.back {wt du : List (Nat × Nat)} {n k : Nat} (h : Once wt du n) (h0 : 0 < du.length) : Once (pushL wt (k, (du.getD 0 dI).2)) (popL du) n := by
  unfold Once at *
  refine List.Perm.trans ?_ h
  simp only [List.map_append]
  have h1 := (popL_perm du h0).map (·.2)
  have h2 := (pushL_perm wt (k, (du.getD 0 dI).2)).map (·.2)
  simp only [List.map_cons] at h1 h2
  refine (h2.append_right _).trans ?_
  refine List.Perm.trans ?_ (h1.append_left _)
  exact List.perm_middle.symm

/-- The state between the statements of pick. -/
def Mid (w wx : World) (F : Nat → Prop) (ob n : Nat) (sh pk : List Nat) (picks slack : Nat) (P : List (Nat × Nat) → List (Nat × Nat) → Prop) : Prop :=
  ∃ (wt du : List (Nat × Nat)) (F' : Nat → Prop), Ord wx F' ob sh pk picks slack wt du ∧ Once wt du n ∧ Fr w wx F ∧ New w F F' ∧ P wt du

attribute [local go_sem] run_store_float

/-- waiting.Pop, in terms of the state. -/
theorem pop_wt {w : World} {F : Nat → Prop} {ob n : Nat} {sh pk : List Nat} {picks slack : Nat} {wt du : List (Nat × Nat)} (h : Ord w F ob sh pk picks slack wt du) (ho : Once wt du n) (hn : n ≤ 1000) (h0 : 0 < wt.length) :
    Calls Yba.prog 10 #[.pointer (some ⟨ob, 4, none⟩)] w fun e w' => e = .returned (.int .i64 ((wt.getD 0 dI).2 : Nat)) ∧ ∃ F', Ord w' F' ob sh pk picks slack (popL wt) du ∧ Fr w w' F ∧ New w F F' := by
  obtain ⟨shv, pkv, wtv, duv, h⟩ := h
  have hl := ho.length
  refine (pop_any 0 ob 4 34 _ w wtv wt h.blk rfl (by decide) h.owt h0 (by omega) (fun y hy => by have := ho.lt (.inl hy); omega)).mono ?_
  rintro e w' ⟨rfl, v', hb, hw, hs, hf⟩
  obtain ⟨F', h1, h2, h3⟩ := h.setWt (wt' := popL wt) hb hw (.inl hs) hf
  exact ⟨rfl, F', ⟨_, _, _, _, h1⟩, h2, h3⟩
theorem pop_du {w : World} {F : Nat → Prop} {ob n : Nat} {sh pk : List Nat} {picks slack : Nat} {wt du : List (Nat × Nat)} (h : Ord w F ob sh pk picks slack wt du) (ho : Once wt du n) (hn : n ≤ 1000) (h0 : 0 < du.length) :
    Calls Yba.prog 10 #[.pointer (some ⟨ob, 5, none⟩)] w fun e w' => e = .returned (.int .i64 ((du.getD 0 dI).2 : Nat)) ∧ ∃ F', Ord w' F' ob sh pk picks slack wt (popL du) ∧ Fr w w' F ∧ New w F F' := by
  obtain ⟨shv, pkv, wtv, duv, h⟩ := h
  have hl := ho.length
  refine (pop_any 0 ob 5 34 _ w duv du h.blk rfl (by decide) h.odu h0 (by omega) (fun y hy => by have := ho.lt (.inr hy); omega)).mono ?_
  rintro e w' ⟨rfl, v', hb, hw, hs, hf⟩
  obtain ⟨F', h1, h2, h3⟩ := h.setDu (du' := popL du) hb hw (.inl hs) hf
  exact ⟨rfl, F', ⟨_, _, _, _, h1⟩, h2, h3⟩
theorem len_wt {w : World} {F : Nat → Prop} {ob : Nat} {sh pk : List Nat} {picks slack : Nat} {wt du : List (Nat × Nat)} (h : Ord w F ob sh pk picks slack wt du) :
    Calls Yba.prog 9 #[.pointer (some ⟨ob, 4, none⟩)] w fun e w' => e = .returned (.int .i64 (wt.length : Nat)) ∧ w' = w := by
  obtain ⟨shv, pkv, wtv, duv, h⟩ := h
  obtain ⟨a, c, rfl⟩ := owns_shape h.owt
  exact len_any ob 4 a wt.length c w h.cells.2.2.2.2.1
theorem len_du {w : World} {F : Nat → Prop} {ob : Nat} {sh pk : List Nat} {picks slack : Nat} {wt du : List (Nat × Nat)} (h : Ord w F ob sh pk picks slack wt du) :
    Calls Yba.prog 9 #[.pointer (some ⟨ob, 5, none⟩)] w fun e w' => e = .returned (.int .i64 (du.length : Nat)) ∧ w' = w := by
  obtain ⟨shv, pkv, wtv, duv, h⟩ := h
  obtain ⟨a, c, rfl⟩ := owns_shape h.odu
  exact len_any ob 5 a du.length c w h.cells.2.2.2.2.2
theorem peek_wt {w : World} {F : Nat → Prop} {ob : Nat} {sh pk : List Nat} {picks slack : Nat} {wt du : List (Nat × Nat)} (h : Ord w F ob sh pk picks slack wt du) (h0 : 0 < wt.length) :
    Calls Yba.prog 18 #[.pointer (some ⟨ob, 4, none⟩)] w fun e w' => (∃ v, e = .returned (.tuple #[v, .float .f64 (wt.getD 0 dI).1])) ∧ ∃ n, w' = w.drewN n := by
  obtain ⟨shv, pkv, wtv, duv, h⟩ := h
  obtain ⟨g, cap, rfl⟩ : ∃ g cap, wtv = .slice (some ⟨g, 0, none⟩) wt.length cap := by
    rcases h.owt.2 with ⟨-, h⟩ | ⟨g, cap, cur, h, -⟩
    · omega
    · exact ⟨g, cap, h⟩
  have hc := (item_cells (j := 0) h.owt rfl h0).1
  exact peek_any ob 4 g wt.length cap _ w h0 h.cells.2.2.2.2.1 (by simpa using hc)

theorem Ord.drewN {w : World} {F : Nat → Prop} {ob : Nat} {sh pk : List Nat} {picks slack : Nat} {wt du : List (Nat × Nat)} (h : Ord w F ob sh pk picks slack wt du) (q : Nat) : Ord (w.drewN q) F ob sh pk picks slack wt du := by
  obtain ⟨_, _, _, _, h⟩ := h
  exact ⟨_, _, _, _, h.drewN q⟩
theorem Ord.cells2 {w : World} {F : Nat → Prop} {ob : Nat} {sh pk : List Nat} {picks slack : Nat} {wt du : List (Nat × Nat)} (h : Ord w F ob sh pk picks slack wt du) :
    (∃ a c, w.cell? ⟨ob, 0, none⟩ = some (.slice a sh.length c)) ∧ (∃ a c, w.cell? ⟨ob, 1, none⟩ = some (.slice a pk.length c)) ∧ w.cell? ⟨ob, 2, none⟩ = some (.float .f64 picks) ∧ w.cell? ⟨ob, 3, none⟩ = some (.float .f64 slack) ∧ (∃ a c, w.cell? ⟨ob, 4, none⟩ = some (.slice a wt.length c)) ∧ (∃ a c, w.cell? ⟨ob, 5, none⟩ = some (.slice a du.length c)) := by
  obtain ⟨_, _, _, _, h⟩ := h
  obtain ⟨a0, b0, rfl⟩ := owns_shape h.osh
  obtain ⟨a1, b1, rfl⟩ := owns_shape h.opk
  obtain ⟨a2, b2, rfl⟩ := owns_shape h.owt
  obtain ⟨a3, b3, rfl⟩ := owns_shape h.odu
  obtain ⟨c0, c1, c2, c3, c4, c5⟩ := h.cells
  exact ⟨⟨_, _, c0⟩, ⟨_, _, c1⟩, c2, c3, ⟨_, _, c4⟩, ⟨_, _, c5⟩⟩
theorem getD_memI {L : List (Nat × Nat)} {k : Nat} (h : k < L.length) : L.getD k dI ∈ L := by simp [List.getD, h]
theorem okSub {sh pk : List Nat} {picks slack : Nat} (ok : PickOk sh pk picks slack) {i : Nat} (h : i < sh.length) : floatBits .sub .f64 (fadd (pk.getD i 0) 4607182418800017408) slack = some (fsub (fadd (pk.getD i 0) 4607182418800017408) slack) := ok.sub i h

/-- One replica's count is raised. -/
theorem OrdV.setPkAt {w : World} {F : Nat → Prop} {ob : Nat} {sh pk : List Nat} {picks slack : Nat} {wt du : List (Nat × Nat)} {shv wtv duv : Value} {gp cp i : Nat} (h : OrdV w F ob sh pk picks slack wt du shv (.slice (some ⟨gp, 0, none⟩) pk.length cp) wtv duv) (V : Nat) :
    OrdV (w.setCell ⟨gp, i, none⟩ (.float .f64 V)) F ob sh (pk.set i V) picks slack wt du shv (.slice (some ⟨gp, 0, none⟩) pk.length cp) wtv duv := by
  have hne : ob ≠ gp := fun e => h.neOb_pk (by rw [e]; rfl)
  have hst := (h.opk.stored i (.float .f64 V)).1
  have e : (fcs pk).set i (.float .f64 V) = fcs (pk.set i V) := by unfold fcs; rw [List.map_set]
  rw [e] at hst
  refine ⟨fun k hk => by have := h.lt k hk; simpa [World.setCell] using this, h.fob, (Below.heap_setCell _ _ _ _ hne).trans h.blk, owns_setOther h.osh (fun e => h.d1 gp e rfl) _, by rw [List.length_set]; exact hst, owns_setOther h.owt (fun e => owns_apart h.owt h.opk (by decide) gp e rfl) _, owns_setOther h.odu (fun e => owns_apart h.odu h.opk (by decide) gp e rfl) _, h.fsh, h.fpk, h.fwt, h.fdu, h.d1, h.d2⟩

set_option maxHeartbeats 1000000 in
set_option maxRecDepth 10000 in
theorem pick_any (w : World) (F : Nat → Prop) (ob n : Nat) (sh pk : List Nat) (picks slack : Nat) (wt du : List (Nat × Nat)) (hO : Ord w F ob sh pk picks slack wt du) (hon : Once wt du n) (hs : Hid (sh.length = n)) (hp : Hid (pk.length = n)) (h0 : 0 < n) (hn : n ≤ 301) (ok : Hid (PickOk sh pk picks slack)) :
    Calls Yba.prog 11 #[.pointer (some ⟨ob, 0, none⟩)] w fun e w' => ∃ i, i < n ∧ e = .returned (.int .i64 (i : Nat)) ∧ Mid w w' F ob n sh (pk.set i (fadd (pk.getD i 0) 4607182418800017408)) (fadd picks 4607182418800017408) slack (fun _ _ => True) := by
  obtain ⟨shv, pkv, wtv, duv, h⟩ := hO
  obtain ⟨c0, c1, c2, c3, c4, c5⟩ := h.cells
  have hfz := h.free
  have q0 := ok.out.one
  obtain ⟨P1, hP1⟩ : ∃ P1, P1 = fadd picks 4607182418800017408 := ⟨_, rfl⟩
  rw [← hP1] at q0 ⊢
  have r0 := fun w' => run_float_arith (P := Yba.prog) w' .add 27 .f64 picks 4607182418800017408 P1 q0
  have h1 := h.setPicks P1
  have f1 : Fr w (w.setCell ⟨ob, 2, none⟩ (.float .f64 P1)) F := (Fr.refl w _).setCell _ _ (fun _ => h.fob)
  have M1 : Mid w (w.setCell ⟨ob, 2, none⟩ (.float .f64 P1)) F ob n sh pk P1 slack (fun _ _ => True) := ⟨wt, du, F, ⟨_, _, _, _, h1⟩, hon, f1, New.refl _ _, trivial⟩
  have HM1 := Lib.hid M1
  clear hP1 q0 h1 f1 M1 hon h
  go_enter Yba.func11, Yba.ntmps11
  go_upto_block 0 with fail
  go_cut [] (fun wx => Mid w wx F ob n sh pk P1 slack (fun _ _ => True))
  case first =>
    generalize hW1 : w.setCell ⟨ob, 2, none⟩ (.float .f64 P1) = w1 at *
    clear hW1
    go_wp2_with fail
    go_loopg [] n (fun gk wr => Mid w wr F ob n sh pk P1 slack (fun wt _ => wt.length ≤ gk))
    case atStart =>
      obtain ⟨wt', du', F', h2, ho2, f2, n2, -⟩ := HM1.out
      exact ⟨wt', du', F', h2, ho2, f2, n2, by have := ho2.length; omega⟩
    case round =>
      obtain ⟨wt', du', F', hr, hor, hfr, hnw, hgk⟩ := hrel
      have hll := hor.length
      by_cases hwt : 0 < wt'.length
      · have LN := Lib.hid (len_wt hr)
        have PK := Lib.hid (peek_wt hr hwt)
        go_wp2_with (go_at_call 9; refine LN.out.mono ?_; rintro e w' ⟨rfl, hw'⟩; rw [hw']; clear hw' w')
        refine PK.out.mono ?_
        rintro e w2 ⟨⟨v, rfl⟩, q, hw2⟩
        have hrq : Ord w2 F' ob sh pk P1 slack wt' du' := by rw [hw2]; exact hr.drewN q
        have hfq : Fr w w2 F := by rw [hw2]; exact hfr.drewN q
        clear hw2 LN PK hr hfr
        obtain ⟨d0, d1, d2, d3, d4, d5⟩ := hrq.cells2
        obtain ⟨K, hK⟩ : ∃ K, K = (wt'.getD 0 dI).1 := ⟨_, rfl⟩
        rw [← hK]
        clear hK
        cases hgt : (FloatKind.f64.format.order K P1 == some .gt) with
        | true =>
          go_wp2_with fail
          go_meet
          case rel => exact ⟨wt', du', F', hrq, hor, hfq, hnw, trivial⟩
        | false =>
          have PP := Lib.hid (pop_wt hrq hor (by omega) hwt)
          obtain ⟨I, hI⟩ : ∃ I, I = (wt'.getD 0 dI).2 := ⟨_, rfl⟩
          have hIn : I < n := by rw [hI]; exact hor.lt (.inl (getD_memI hwt))
          rw [← hI] at PP
          have HI := Lib.hid hI
          clear hI
          go_wp2_with fail
          refine PP.out.mono ?_
          rintro e w3 ⟨rfl, F3, hr3, f3, n3⟩
          have DD := Lib.hid (due_any w3 F3 ob sh pk P1 slack (popL wt') du' I hr3 (by rw [hs.out]; exact hIn) (by rw [hs.out]; exact hp.out) (by rw [hs.out]; omega) (by omega) (fun y hy => by have := hor.lt (.inr hy); omega) _ _ _ (ok.out.inc I (by rw [hs.out]; exact hIn)) (okSub ok.out (by rw [hs.out]; exact hIn)) (ok.out.quo I (by rw [hs.out]; exact hIn)))
          go_wp2_with fail
          refine DD.out.mono ?_
          rintro e w4 ⟨rfl, F4, hr4, f4, n4⟩
          go_wp2_with fail
          go_roundg (gk - 1)
          case measure => omega
          case rel =>
            refine ⟨popL wt', _, F4, hr4, ?_, (hfq.next f3 hnw).next f4 (hnw.trans n3 hfq.size), (hnw.trans n3 hfq.size).trans n4 (hfq.next f3 hnw).size, by show (popL wt').length ≤ gk - 1; rw [popL_length]; omega⟩
            rw [HI.out]
            exact hor.move hwt
      · have LN := Lib.hid (len_wt hr)
        go_wp2_with (go_at_call 9; refine LN.out.mono ?_; rintro e w' ⟨rfl, hw'⟩; rw [hw']; clear hw' w')
        go_meet
        case rel => exact ⟨wt', du', F', hr, hor, hfr, hnw, trivial⟩
  case rest =>
    obtain ⟨wt1, du1, F1, hr1, hor1, fr1, nw1, -⟩ := hcut
    clear c0 c1 c2 c3 c4 c5 hfz HM1 r0
    have hll := hor1.length
    have LN := Lib.hid (len_du hr1)
    go_upto_if 41 with (go_at_call 9; refine LN.out.mono ?_; rintro e w' ⟨rfl, hw'⟩; rw [hw']; clear hw' w')
    go_cut [] (fun wx => Mid w wx F ob n sh pk P1 slack (fun _ du => 0 < du.length))
    case first =>
      by_cases hdu : du1.length = 0
      · have hwt : 0 < wt1.length := by omega
        have hbb : (((du1.length : Nat) : Int) == 0) = true := by rw [hdu]; rfl
        have PP := Lib.hid (pop_wt hr1 hor1 (by omega) hwt)
        obtain ⟨I, hI⟩ : ∃ I, I = (wt1.getD 0 dI).2 := ⟨_, rfl⟩
        have hIn : I < n := by rw [hI]; exact hor1.lt (.inl (getD_memI hwt))
        rw [← hI] at PP
        have HI := Lib.hid hI
        have HDU := Lib.hid hdu
        clear hI hdu
        go_wp2_with fail
        refine PP.out.mono ?_
        rintro e w3 ⟨rfl, F3, hr3, f3, n3⟩
        have DD := Lib.hid (due_any w3 F3 ob sh pk P1 slack (popL wt1) du1 I hr3 (by rw [hs.out]; exact hIn) (by rw [hs.out]; exact hp.out) (by rw [hs.out]; omega) (by omega) (fun y hy => by have := hor1.lt (.inr hy); omega) _ _ _ (ok.out.inc I (by rw [hs.out]; exact hIn)) (okSub ok.out (by rw [hs.out]; exact hIn)) (ok.out.quo I (by rw [hs.out]; exact hIn)))
        go_wp2_with fail
        refine DD.out.mono ?_
        rintro e w4 ⟨rfl, F4, hr4, f4, n4⟩
        go_wp2_with fail
        go_meet
        case rel =>
          refine ⟨popL wt1, _, F4, hr4, ?_, (fr1.next f3 nw1).next f4 (nw1.trans n3 fr1.size), (nw1.trans n3 fr1.size).trans n4 (fr1.next f3 nw1).size, by show 0 < (pushL _ _).length; rw [pushL_length]; omega⟩
          rw [HI.out]
          exact hor1.move hwt
      · have hbb : (((du1.length : Nat) : Int) == 0) = false := by rw [beq_eq_false_iff_ne]; omega
        go_wp2_with fail
        go_meet
        case rel => exact ⟨wt1, du1, F1, hr1, hor1, fr1, nw1, by show 0 < du1.length; omega⟩
    case rest =>
      clear LN hll hr1 hor1 fr1 nw1
      obtain ⟨wt2, du2, F2, hr2, hor2, fr2, nw2, hdu⟩ := hcut
      have hdu' : 0 < du2.length := hdu
      have hll := hor2.length
      have PP := Lib.hid (pop_du hr2 hor2 (by omega) hdu')
      obtain ⟨I, hI⟩ : ∃ I, I = (du2.getD 0 dI).2 := ⟨_, rfl⟩
      have hIn : I < n := by rw [hI]; exact hor2.lt (.inr (getD_memI hdu'))
      rw [← hI] at PP
      have HOB := Lib.hid (fun k => (hI ▸ hor2.back (k := k) hdu' : Once (pushL wt2 (k, I)) (popL du2) n))
      clear hI hdu
      go_wp2_with fail
      refine PP.out.mono ?_
      rintro e w3 ⟨rfl, F3, ⟨shv3, pkv3, wtv3, duv3, h3⟩, f3, n3⟩
      obtain ⟨gp, cpp, rfl, hcp⟩ := float_row h3.opk (by rw [hp.out]; omega)
      obtain ⟨d0, d1, d2, d3, d4, d5⟩ := h3.cells
      obtain ⟨Y, hY⟩ : ∃ Y, Y = pk.getD I 0 := ⟨_, rfl⟩
      have e1 : w3.cell? ⟨gp, I, none⟩ = some (.float .f64 Y) := by rw [hY]; exact hcp I (by rw [hp.out]; exact hIn)
      have e2 : w3.frozen? ⟨gp, I, none⟩ = false := h3.opk.frozenAt I
      have q1 := ok.out.inc I (by rw [hs.out]; exact hIn)
      have q2 := ok.out.add I (by rw [hs.out]; exact hIn)
      have q3 := ok.out.key I (by rw [hs.out]; exact hIn)
      rw [← hY] at q1 q2 q3
      obtain ⟨V, hV⟩ : ∃ V, V = fadd Y 4607182418800017408 := ⟨_, rfl⟩
      rw [← hV] at q1 q2 q3
      have r1 := fun w' => run_float_arith (P := Yba.prog) w' .add 27 .f64 Y 4607182418800017408 V q1
      have h4 := h3.setPkAt (i := I) V
      have hg : (pk.set I V).getD I 0 = V := by have := hp.out; simp [List.getD, this, hIn]
      rw [← hg] at q2
      have WT := Lib.hid (wait_any _ F3 ob sh (pk.set I V) P1 slack wt2 (popL du2) I ⟨_, _, _, _, h4⟩ (by rw [hs.out]; exact hIn) (by rw [List.length_set, hs.out]; exact hp.out) (by rw [hs.out]; omega) (by omega) (fun y hy => by have := hor2.lt (.inl hy); omega) _ _ q2 (by rw [← hg] at q3; exact q3))
      have f4 : Fr w3 (w3.setCell ⟨gp, I, none⟩ (.float .f64 V)) F3 := (Fr.refl w3 _).setCell _ _ (fun _ => h3.fpk gp rfl)
      have HVV : Hid (V = fadd (pk.getD I 0) 4607182418800017408) := by show _ = _; rw [hV, hY]
      have hpl : (I : Int) < (pk.length : Int) := by have := hp.out; omega
      clear hY hV q1 q2 q3 hg hcp h3
      go_wp2_with fail
      refine WT.out.mono ?_
      rintro e w5 ⟨rfl, F5, hr5, f5, n5⟩
      have fA : Fr w (w3.setCell ⟨gp, I, none⟩ (.float .f64 V)) F := (fr2.next f3 nw2).next f4 (nw2.trans n3 fr2.size)
      have nA : New w F F3 := nw2.trans n3 fr2.size
      have MM : Mid w w5 F ob n sh (pk.set I V) P1 slack (fun _ _ => True) := ⟨_, _, F5, hr5, HOB.out _, fA.next f5 nA, nA.trans n5 fA.size, trivial⟩
      rw [HVV.out] at MM
      go_wp2_with fail
      go_ret
      exact ⟨I, hIn, rfl, MM⟩

end Go.Proofs.Ybulkcnam
