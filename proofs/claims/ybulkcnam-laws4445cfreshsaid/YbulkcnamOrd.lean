/-
  THE STATE OF A weightedOrder IN MEMORY; THE WALKS over wait and makeDue.
-/
import Derived.Test.YbulkcnamPop
import Derived.Deep.RegionWith
import Derived.Deep.RegionHeld
namespace Go.Proofs.Ybulkcnam
open Go.RowKit

def fcs (l : List Nat) : List Value := l.map (Value.float .f64)
theorem fcs_length (l : List Nat) : (fcs l).length = l.length := by simp [fcs]

/-- A weightedOrder at block ob: its six fields, and the rows that they lead to; F: the blocks that it is made of. -/
structure OrdV (w : World) (F : Nat → Prop) (ob : Nat) (sh pk : List Nat) (picks slack : Nat) (wt du : List (Nat × Nat)) (shv pkv wtv duv : Value) : Prop where
  lt : ∀ k, F k → k < w.heap.size
  fob : F ob
  blk : w.heap[ob]? = some (.cells #[shv, pkv, .float .f64 picks, .float .f64 slack, wtv, duv] 34 (0, 0))
  osh : w.ownsRow 0 27 1 shv sh.length (fcs sh)
  opk : w.ownsRow 0 27 1 pkv pk.length (fcs pk)
  owt : w.ownsRow 0 47 3 wtv wt.length (ics wt)
  odu : w.ownsRow 0 47 3 duv du.length (ics du)
  fsh : ∀ k, shv.ownBlock = some k → F k
  fpk : ∀ k, pkv.ownBlock = some k → F k
  fwt : ∀ k, wtv.ownBlock = some k → F k
  fdu : ∀ k, duv.ownBlock = some k → F k
  d1 : ∀ k, shv.ownBlock = some k → pkv.ownBlock ≠ some k
  d2 : ∀ k, wtv.ownBlock = some k → duv.ownBlock ≠ some k

def Ord (w : World) (F : Nat → Prop) (ob : Nat) (sh pk : List Nat) (picks slack : Nat) (wt du : List (Nat × Nat)) : Prop :=
  ∃ shv pkv wtv duv, OrdV w F ob sh pk picks slack wt du shv pkv wtv duv

/-- What it is made of afterwards was there before, or is new. -/
def New (w : World) (F F' : Nat → Prop) : Prop := ∀ k, F' k → F k ∨ w.heap.size ≤ k
theorem New.refl (w : World) (F : Nat → Prop) : New w F F := fun _ h => .inl h
theorem New.trans {w w' : World} {F F' F'' : Nat → Prop} (h : New w F F') (k : New w' F' F'') (hs : w.heap.size ≤ w'.heap.size) : New w F F'' := by
  intro i hi
  rcases k i hi with h1 | h1
  · exact h i h1
  · exact .inr (by omega)
theorem Fr.next {a b c : World} {F F' : Nat → Prop} (h : Fr a b F) (k : Fr b c F') (hn : New a F F') : Fr a c F :=
  h.then k (fun i hi ht => (hn i ht).resolve_right (by omega))

/-- Two rows of one world, of different element types, lie apart. -/
theorem owns_apart {w : World} {B B' : Nat} {e e' : TypeId} {s s' : Nat} {v v' : Value} {n n' : Nat} {xs xs' : List Value} (h : w.ownsRow B e s v n xs) (h' : w.ownsRow B' e' s' v' n' xs') (hne : e ≠ e') : ∀ k, v.ownBlock = some k → v'.ownBlock ≠ some k := by
  intro k hk
  rcases h.2 with ⟨rfl, _⟩ | ⟨g, cap, cur, rfl, _, hg, _⟩
  · simp [Value.ownBlock] at hk
  · simp only [Value.ownBlock, Option.some.injEq] at hk
    subst hk
    exact owns_ne h' hg hne

/-- 'waiting' has been pushed or popped: the other rows stand. -/
theorem OrdV.setWt {w w' : World} {F : Nat → Prop} {ob : Nat} {sh pk : List Nat} {picks slack : Nat} {wt du wt' : List (Nat × Nat)} {shv pkv wtv duv v' : Value} (h : OrdV w F ob sh pk picks slack wt du shv pkv wtv duv)
    (hb : w'.heap[ob]? = some (.cells #[shv, pkv, .float .f64 picks, .float .f64 slack, v', duv] 34 (0, 0))) (ho : w'.ownsRow 0 47 3 v' wt'.length (ics wt')) (hs : SameOrNew w wtv v')
    (hf : Fr w w' (fun k => k = ob ∨ wtv.ownBlock = some k)) :
    ∃ F', OrdV w' F' ob sh pk picks slack wt' du shv pkv v' duv ∧ Fr w w' F ∧ New w F F' := by
  have hlt' : ∀ k, v'.ownBlock = some k → k < w'.heap.size := fun k hk => (ho.lt k hk).2
  refine ⟨fun k => F k ∨ v'.ownBlock = some k, ?_, hf.mono ?_, ?_⟩
  · refine ⟨?_, .inl h.fob, hb, hf.owns h.osh ?_, hf.owns h.opk ?_, ho, hf.owns h.odu ?_, fun k hk => .inl (h.fsh k hk), fun k hk => .inl (h.fpk k hk), fun k hk => .inr hk, fun k hk => .inl (h.fdu k hk), h.d1, ?_⟩
    · rintro k (hk | hk)
      · exact Nat.lt_of_lt_of_le (h.lt k hk) hf.size
      · exact hlt' k hk
    · rintro g hg (rfl | h2)
      · exact owns_ne h.osh h.blk (by decide) hg
      · exact owns_apart h.osh h.owt (by decide) g hg h2
    · rintro g hg (rfl | h2)
      · exact owns_ne h.opk h.blk (by decide) hg
      · exact owns_apart h.opk h.owt (by decide) g hg h2
    · rintro g hg (rfl | h2)
      · exact owns_ne h.odu h.blk (by decide) hg
      · exact h.d2 g h2 hg
    · intro k hk hd
      rcases hs with h2 | ⟨g, h2, h3⟩
      · exact h.d2 k (h2 ▸ hk) hd
      · rw [hk] at h2
        obtain rfl := Option.some.inj h2
        have := h.lt k (h.fdu k hd)
        omega
  · rintro k _ (rfl | hk)
    · exact h.fob
    · exact h.fwt k hk
  · rintro k (hk | hk)
    · exact .inl hk
    · rcases hs with h2 | ⟨g, h2, h3⟩
      · exact .inl (h.fwt k (h2 ▸ hk))
      · rw [hk] at h2
        obtain rfl := Option.some.inj h2
        exact .inr h3

/-- Likewise 'due'. -/
theorem OrdV.setDu {w w' : World} {F : Nat → Prop} {ob : Nat} {sh pk : List Nat} {picks slack : Nat} {wt du du' : List (Nat × Nat)} {shv pkv wtv duv v' : Value} (h : OrdV w F ob sh pk picks slack wt du shv pkv wtv duv)
    (hb : w'.heap[ob]? = some (.cells #[shv, pkv, .float .f64 picks, .float .f64 slack, wtv, v'] 34 (0, 0))) (ho : w'.ownsRow 0 47 3 v' du'.length (ics du')) (hs : SameOrNew w duv v')
    (hf : Fr w w' (fun k => k = ob ∨ duv.ownBlock = some k)) :
    ∃ F', OrdV w' F' ob sh pk picks slack wt du' shv pkv wtv v' ∧ Fr w w' F ∧ New w F F' := by
  have hlt' : ∀ k, v'.ownBlock = some k → k < w'.heap.size := fun k hk => (ho.lt k hk).2
  refine ⟨fun k => F k ∨ v'.ownBlock = some k, ?_, hf.mono ?_, ?_⟩
  · refine ⟨?_, .inl h.fob, hb, hf.owns h.osh ?_, hf.owns h.opk ?_, hf.owns h.owt ?_, ho, fun k hk => .inl (h.fsh k hk), fun k hk => .inl (h.fpk k hk), fun k hk => .inl (h.fwt k hk), fun k hk => .inr hk, h.d1, ?_⟩
    · rintro k (hk | hk)
      · exact Nat.lt_of_lt_of_le (h.lt k hk) hf.size
      · exact hlt' k hk
    · rintro g hg (rfl | h2)
      · exact owns_ne h.osh h.blk (by decide) hg
      · exact owns_apart h.osh h.odu (by decide) g hg h2
    · rintro g hg (rfl | h2)
      · exact owns_ne h.opk h.blk (by decide) hg
      · exact owns_apart h.opk h.odu (by decide) g hg h2
    · rintro g hg (rfl | h2)
      · exact owns_ne h.owt h.blk (by decide) hg
      · exact h.d2 g hg h2
    · intro k hk hd
      rcases hs with h2 | ⟨g, h2, h3⟩
      · exact h.d2 k hk (h2 ▸ hd)
      · rw [hd] at h2
        obtain rfl := Option.some.inj h2
        have := h.lt k (h.fwt k hk)
        omega
  · rintro k _ (rfl | hk)
    · exact h.fob
    · exact h.fdu k hk
  · rintro k (hk | hk)
    · exact .inl hk
    · rcases hs with h2 | ⟨g, h2, h3⟩
      · exact .inl (h.fdu k (h2 ▸ hk))
      · rw [hk] at h2
        obtain rfl := Option.some.inj h2
        exact .inr h3

/-- The six cells of the struct. -/
theorem OrdV.cells {w : World} {F : Nat → Prop} {ob : Nat} {sh pk : List Nat} {picks slack : Nat} {wt du : List (Nat × Nat)} {shv pkv wtv duv : Value} (h : OrdV w F ob sh pk picks slack wt du shv pkv wtv duv) :
    w.cell? ⟨ob, 0, none⟩ = some shv ∧ w.cell? ⟨ob, 1, none⟩ = some pkv ∧ w.cell? ⟨ob, 2, none⟩ = some (.float .f64 picks) ∧ w.cell? ⟨ob, 3, none⟩ = some (.float .f64 slack) ∧ w.cell? ⟨ob, 4, none⟩ = some wtv ∧ w.cell? ⟨ob, 5, none⟩ = some duv := by
  refine ⟨?_, ?_, ?_, ?_, ?_, ?_⟩ <;> rw [cell_of_row w ob _ _ 34 (0, 0) h.blk] <;> rfl
theorem OrdV.free {w : World} {F : Nat → Prop} {ob : Nat} {sh pk : List Nat} {picks slack : Nat} {wt du : List (Nat × Nat)} {shv pkv wtv duv : Value} (h : OrdV w F ob sh pk picks slack wt du shv pkv wtv duv) (j : Nat) : w.frozen? ⟨ob, j, none⟩ = false :=
  frozen_of_row w ob j _ 34 h.blk

/-- A row of floats: where it lies, what its cells hold. -/
theorem float_row {w : World} {v : Value} {l : List Nat} (h : w.ownsRow 0 27 1 v l.length (fcs l)) (hp : 0 < l.length) :
    ∃ g cap, v = .slice (some ⟨g, 0, none⟩) l.length cap ∧ ∀ j, j < l.length → w.cell? ⟨g, j, none⟩ = some (.float .f64 (l.getD j 0)) := by
  rcases h.2 with ⟨-, h0⟩ | ⟨g, cap, cur, rfl, -⟩
  · omega
  · refine ⟨g, cap, rfl, fun j hj => ?_⟩
    rw [h.cellAt j (by omega)]
    simp [fcs, List.getD, hj]

theorem u64_small (i : Nat) (h : i ≤ 1000) : IntKind.u64.wrap (i : Int) = (i : Int) := by
  have e : IntKind.u64.bits = 64 := rfl
  simp [IntKind.wrap, e]
  omega

/-- What a push onto 'waiting' leaves of the cells that 'wait' has read. -/
theorem wait_post {w : World} {F : Nat → Prop} {ob : Nat} {sh pk : List Nat} {picks slack : Nat} {wt du : List (Nat × Nat)} {wtv duv : Value} {gs gp ns np caps capp i X Y key : Nat}
    (h : OrdV w F ob sh pk picks slack wt du (.slice (some ⟨gs, 0, none⟩) ns caps) (.slice (some ⟨gp, 0, none⟩) np capp) wtv duv) (e1 : w.cell? ⟨gs, i, none⟩ = some (.float .f64 X)) (e2 : w.cell? ⟨gp, i, none⟩ = some (.float .f64 Y)) :
    ∀ (e : Ending) (w' : World), (e = .returned (.tuple #[]) ∧ ∃ v', w'.heap[ob]? = some (.cells ((#[.slice (some ⟨gs, 0, none⟩) ns caps, .slice (some ⟨gp, 0, none⟩) np capp, .float .f64 picks, .float .f64 slack, wtv, duv] : Array Value).setIfInBounds 4 v') 34 (0, 0)) ∧ w'.ownsRow 0 47 3 v' (wt.length + 1) (ics (pushL wt (key, i))) ∧ SameOrNew w.drew wtv v' ∧ Fr w.drew w' (fun k => k = ob ∨ wtv.ownBlock = some k)) →
    e = .returned (.tuple #[]) ∧ w'.cell? ⟨ob, 0, none⟩ = some (.slice (some ⟨gs, 0, none⟩) ns caps) ∧ w'.cell? ⟨ob, 1, none⟩ = some (.slice (some ⟨gp, 0, none⟩) np capp) ∧ w'.cell? ⟨ob, 3, none⟩ = some (.float .f64 slack) ∧ w'.cell? ⟨gs, i, none⟩ = some (.float .f64 X) ∧ w'.cell? ⟨gp, i, none⟩ = some (.float .f64 Y) ∧
      Hid (∃ F', Ord w' F' ob sh pk picks slack (pushL wt (key, i)) du ∧ Fr w w' F ∧ New w F F') := by
  rintro e w' ⟨rfl, v', hb, ho, hs, hf⟩
  have hb' : w'.heap[ob]? = some (.cells #[.slice (some ⟨gs, 0, none⟩) ns caps, .slice (some ⟨gp, 0, none⟩) np capp, .float .f64 picks, .float .f64 slack, v', duv] 34 (0, 0)) := hb
  have hf' : Fr w w' (fun k => k = ob ∨ wtv.ownBlock = some k) := ⟨hf.os, hf.tape, hf.output, hf.size, hf.block⟩
  have hs' : SameOrNew w wtv v' := hs
  rw [← pushL_length wt (key, i)] at ho
  obtain ⟨F', h1, h2, h3⟩ := h.setWt hb' ho hs' hf'
  have hkeep : ∀ g, (g = gs ∨ g = gp) → g < w.heap.size → w'.heap[g]? = w.heap[g]? := by
    rintro g hg hlt
    refine hf'.block g hlt ?_
    rintro (rfl | h4)
    · rcases hg with rfl | rfl
      · exact owns_ne h.osh h.blk (by decide) rfl
      · exact owns_ne h.opk h.blk (by decide) rfl
    · rcases hg with rfl | rfl
      · exact owns_apart h.osh h.owt (by decide) _ rfl h4
      · exact owns_apart h.opk h.owt (by decide) _ rfl h4
  refine ⟨rfl, ?_, ?_, ?_, ?_, ?_, F', ⟨_, _, _, _, h1⟩, h2, h3⟩
  · rw [cell_of_row w' ob _ _ 34 (0, 0) hb']; rfl
  · rw [cell_of_row w' ob _ _ 34 (0, 0) hb']; rfl
  · rw [cell_of_row w' ob _ _ 34 (0, 0) hb']; rfl
  · rw [World.cell?_of_block (w := w) (a := ⟨gs, i, none⟩) (hkeep gs (.inl rfl) (World.block_lt_of_cell? _ _ e1))]; exact e1
  · rw [World.cell?_of_block (w := w) (a := ⟨gp, i, none⟩) (hkeep gp (.inr rfl) (World.block_lt_of_cell? _ _ e2))]; exact e2

set_option maxHeartbeats 2000000 in
set_option maxRecDepth 10000 in
theorem wait_any (w : World) (F : Nat → Prop) (ob : Nat) (sh pk : List Nat) (picks slack : Nat) (wt du : List (Nat × Nat)) (i : Nat) (h : Ord w F ob sh pk picks slack wt du) (hi : i < sh.length) (hl : pk.length = sh.length) (hn : sh.length ≤ 1000)
    (hw : wt.length < 1000) (hws : ∀ y ∈ wt, y.2 ≤ 1000) (s key : Nat) (hadd : floatBits .add .f64 (pk.getD i 0) slack = some s) (hdiv : floatBits .quo .f64 s (sh.getD i 0) = some key) :
    Calls Yba.prog 14 #[.pointer (some ⟨ob, 0, none⟩), .int .i64 i] w fun e w' => e = .returned (.tuple #[]) ∧ ∃ F', Ord w' F' ob sh pk picks slack (pushL wt (key, i)) du ∧ Fr w w' F ∧ New w F F' := by
  obtain ⟨shv, pkv, wtv, duv, h⟩ := h
  obtain ⟨c0, c1, c2, c3, c4, c5⟩ := h.cells
  obtain ⟨gs, caps, rfl, hcs⟩ := float_row h.osh (by omega)
  obtain ⟨gp, capp, rfl, hcp⟩ := float_row h.opk (by omega)
  obtain ⟨X, hX⟩ : ∃ X, X = sh.getD i 0 := ⟨_, rfl⟩
  obtain ⟨Y, hY⟩ : ∃ Y, Y = pk.getD i 0 := ⟨_, rfl⟩
  have e1 : w.cell? ⟨gs, i, none⟩ = some (.float .f64 X) := by rw [hX]; exact hcs i hi
  have e2 : w.cell? ⟨gp, i, none⟩ = some (.float .f64 Y) := by rw [hY]; exact hcp i (by omega)
  rw [← hY] at hadd
  rw [← hX] at hdiv
  have r1 := fun w' => run_float_arith (P := Yba.prog) w' .add 27 .f64 Y slack s hadd
  have r2 := fun w' => run_float_arith (P := Yba.prog) w' .quo 27 .f64 s X key hdiv
  have PU := push_any 0 ob 4 34 _ w.drew wtv wt (key, i) h.blk rfl (by decide) h.owt (Nat.zero_le _) (by omega) (show i ≤ 1000 by omega) hws
  have PV := PU.mono (wait_post h e1 e2)
  have HPV := Lib.hid PV
  have HX := Lib.hid hX
  have HY := Lib.hid hY
  have HL := Lib.hid hl
  have hi' : (i : Int) < (sh.length : Int) := by omega
  have hip : (i : Int) < (pk.length : Int) := by omega
  have hwrap : IntKind.u64.wrap (i : Int) = (i : Int) := u64_small i (by omega)
  clear hX hY PU PV hadd hdiv hcs hcp hl
  go_enter Yba.func14, Yba.ntmps14
  go_wp2_with fail
  go_region_held (fun w' => w'.cell? ⟨ob, 0, none⟩ = some (.slice (some ⟨gs, 0, none⟩) sh.length caps) ∧ w'.cell? ⟨ob, 1, none⟩ = some (.slice (some ⟨gp, 0, none⟩) pk.length capp) ∧ w'.cell? ⟨ob, 3, none⟩ = some (.float .f64 slack) ∧ w'.cell? ⟨gs, i, none⟩ = some (.float .f64 X) ∧ w'.cell? ⟨gp, i, none⟩ = some (.float .f64 Y)) (first | exact ⟨c0, c1, c3, e1, e2⟩ | exact ⟨by assumption, by assumption, by assumption, by assumption, by assumption⟩)
    ((go_at_call 20; refine HPV.out.mono ?_; rintro e w' ⟨rfl, s0, s1, s3, s4, s5, R⟩))
  go_end0
  exact ⟨rfl, R.out⟩

/-- What a push onto 'due' leaves of the cells that 'makeDue' has read. -/
theorem due_post {w : World} {F : Nat → Prop} {ob : Nat} {sh pk : List Nat} {picks slack : Nat} {wt du : List (Nat × Nat)} {wtv duv : Value} {gs gp ns np caps capp i X Y key : Nat}
    (h : OrdV w F ob sh pk picks slack wt du (.slice (some ⟨gs, 0, none⟩) ns caps) (.slice (some ⟨gp, 0, none⟩) np capp) wtv duv) (e1 : w.cell? ⟨gs, i, none⟩ = some (.float .f64 X)) (e2 : w.cell? ⟨gp, i, none⟩ = some (.float .f64 Y)) :
    ∀ (e : Ending) (w' : World), (e = .returned (.tuple #[]) ∧ ∃ v', w'.heap[ob]? = some (.cells ((#[.slice (some ⟨gs, 0, none⟩) ns caps, .slice (some ⟨gp, 0, none⟩) np capp, .float .f64 picks, .float .f64 slack, wtv, duv] : Array Value).setIfInBounds 5 v') 34 (0, 0)) ∧ w'.ownsRow 0 47 3 v' (du.length + 1) (ics (pushL du (key, i))) ∧ SameOrNew w.drew duv v' ∧ Fr w.drew w' (fun k => k = ob ∨ duv.ownBlock = some k)) →
    e = .returned (.tuple #[]) ∧ w'.cell? ⟨ob, 0, none⟩ = some (.slice (some ⟨gs, 0, none⟩) ns caps) ∧ w'.cell? ⟨ob, 1, none⟩ = some (.slice (some ⟨gp, 0, none⟩) np capp) ∧ w'.cell? ⟨ob, 3, none⟩ = some (.float .f64 slack) ∧ w'.cell? ⟨gs, i, none⟩ = some (.float .f64 X) ∧ w'.cell? ⟨gp, i, none⟩ = some (.float .f64 Y) ∧
      Hid (∃ F', Ord w' F' ob sh pk picks slack wt (pushL du (key, i)) ∧ Fr w w' F ∧ New w F F') := by
  rintro e w' ⟨rfl, v', hb, ho, hs, hf⟩
  have hb' : w'.heap[ob]? = some (.cells #[.slice (some ⟨gs, 0, none⟩) ns caps, .slice (some ⟨gp, 0, none⟩) np capp, .float .f64 picks, .float .f64 slack, wtv, v'] 34 (0, 0)) := hb
  have hf' : Fr w w' (fun k => k = ob ∨ duv.ownBlock = some k) := ⟨hf.os, hf.tape, hf.output, hf.size, hf.block⟩
  have hs' : SameOrNew w duv v' := hs
  rw [← pushL_length du (key, i)] at ho
  obtain ⟨F', h1, h2, h3⟩ := h.setDu hb' ho hs' hf'
  have hkeep : ∀ g, (g = gs ∨ g = gp) → g < w.heap.size → w'.heap[g]? = w.heap[g]? := by
    rintro g hg hlt
    refine hf'.block g hlt ?_
    rintro (rfl | h4)
    · rcases hg with rfl | rfl
      · exact owns_ne h.osh h.blk (by decide) rfl
      · exact owns_ne h.opk h.blk (by decide) rfl
    · rcases hg with rfl | rfl
      · exact owns_apart h.osh h.odu (by decide) _ rfl h4
      · exact owns_apart h.opk h.odu (by decide) _ rfl h4
  refine ⟨rfl, ?_, ?_, ?_, ?_, ?_, F', ⟨_, _, _, _, h1⟩, h2, h3⟩
  · rw [cell_of_row w' ob _ _ 34 (0, 0) hb']; rfl
  · rw [cell_of_row w' ob _ _ 34 (0, 0) hb']; rfl
  · rw [cell_of_row w' ob _ _ 34 (0, 0) hb']; rfl
  · rw [World.cell?_of_block (w := w) (a := ⟨gs, i, none⟩) (hkeep gs (.inl rfl) (World.block_lt_of_cell? _ _ e1))]; exact e1
  · rw [World.cell?_of_block (w := w) (a := ⟨gp, i, none⟩) (hkeep gp (.inr rfl) (World.block_lt_of_cell? _ _ e2))]; exact e2

set_option maxHeartbeats 2000000 in
set_option maxRecDepth 10000 in
theorem due_any (w : World) (F : Nat → Prop) (ob : Nat) (sh pk : List Nat) (picks slack : Nat) (wt du : List (Nat × Nat)) (i : Nat) (h : Ord w F ob sh pk picks slack wt du) (hi : i < sh.length) (hl : pk.length = sh.length) (hn : sh.length ≤ 1000)
    (hw : du.length < 1000) (hws : ∀ y ∈ du, y.2 ≤ 1000) (s0 s key : Nat) (hadd : floatBits .add .f64 (pk.getD i 0) 4607182418800017408 = some s0) (hsub : floatBits .sub .f64 s0 slack = some s) (hdiv : floatBits .quo .f64 s (sh.getD i 0) = some key) :
    Calls Yba.prog 19 #[.pointer (some ⟨ob, 0, none⟩), .int .i64 i] w fun e w' => e = .returned (.tuple #[]) ∧ ∃ F', Ord w' F' ob sh pk picks slack wt (pushL du (key, i)) ∧ Fr w w' F ∧ New w F F' := by
  obtain ⟨shv, pkv, wtv, duv, h⟩ := h
  obtain ⟨c0, c1, c2, c3, c4, c5⟩ := h.cells
  obtain ⟨gs, caps, rfl, hcs⟩ := float_row h.osh (by omega)
  obtain ⟨gp, capp, rfl, hcp⟩ := float_row h.opk (by omega)
  obtain ⟨X, hX⟩ : ∃ X, X = sh.getD i 0 := ⟨_, rfl⟩
  obtain ⟨Y, hY⟩ : ∃ Y, Y = pk.getD i 0 := ⟨_, rfl⟩
  have e1 : w.cell? ⟨gs, i, none⟩ = some (.float .f64 X) := by rw [hX]; exact hcs i hi
  have e2 : w.cell? ⟨gp, i, none⟩ = some (.float .f64 Y) := by rw [hY]; exact hcp i (by omega)
  rw [← hY] at hadd
  rw [← hX] at hdiv
  have r1 := fun w' => run_float_arith (P := Yba.prog) w' .add 27 .f64 Y 4607182418800017408 s0 hadd
  have r3 := fun w' => run_float_arith (P := Yba.prog) w' .sub 27 .f64 s0 slack s hsub
  have r2 := fun w' => run_float_arith (P := Yba.prog) w' .quo 27 .f64 s X key hdiv
  have PU := push_any 0 ob 5 34 _ w.drew duv du (key, i) h.blk rfl (by decide) h.odu (Nat.zero_le _) (by omega) (show i ≤ 1000 by omega) hws
  have PV := PU.mono (due_post h e1 e2)
  have HPV := Lib.hid PV
  have HX := Lib.hid hX
  have HY := Lib.hid hY
  have HL := Lib.hid hl
  have hi' : (i : Int) < (sh.length : Int) := by omega
  have hip : (i : Int) < (pk.length : Int) := by omega
  have hwrap : IntKind.u64.wrap (i : Int) = (i : Int) := u64_small i (by omega)
  clear hX hY PU PV hadd hsub hdiv hcs hcp hl
  go_enter Yba.func19, Yba.ntmps19
  go_wp2_with fail
  go_region_held (fun w' => w'.cell? ⟨ob, 0, none⟩ = some (.slice (some ⟨gs, 0, none⟩) sh.length caps) ∧ w'.cell? ⟨ob, 1, none⟩ = some (.slice (some ⟨gp, 0, none⟩) pk.length capp) ∧ w'.cell? ⟨ob, 3, none⟩ = some (.float .f64 slack) ∧ w'.cell? ⟨gs, i, none⟩ = some (.float .f64 X) ∧ w'.cell? ⟨gp, i, none⟩ = some (.float .f64 Y)) (first | exact ⟨c0, c1, c3, e1, e2⟩ | exact ⟨by assumption, by assumption, by assumption, by assumption, by assumption⟩)
    ((go_at_call 20; refine HPV.out.mono ?_; rintro e w' ⟨rfl, z0, z1, z3, z4, z5, R⟩))
  go_end0
  exact ⟨rfl, R.out⟩

end Go.Proofs.Ybulkcnam
