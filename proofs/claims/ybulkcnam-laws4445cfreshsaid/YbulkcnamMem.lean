/-
  MEMORY for the walks over package leadline: rows that the call owns, what an append does to them and to nothing else, items of three cells.
-/
import Derived.Test.YbulkcnamHeap
import Derived.Deep.AppendSrc
namespace Go.Proofs.Ybulkcnam
open Go.RowKit

theorem heap_lt {w : World} {b : Nat} {o : Obj} (h : w.heap[b]? = some o) : b < w.heap.size := (Array.getElem?_eq_some_iff.1 h).1

/-! ### A frame: nothing that was there has turned, but for the blocks S -/
structure Fr (w w' : World) (S : Nat → Prop) : Prop where
  os : w'.os = w.os
  tape : w'.tape = w.tape
  output : w'.output = w.output
  size : w.heap.size ≤ w'.heap.size
  block : ∀ k, k < w.heap.size → ¬ S k → w'.heap[k]? = w.heap[k]?

theorem Fr.refl (w : World) (S : Nat → Prop) : Fr w w S := ⟨rfl, rfl, rfl, Nat.le_refl _, fun _ _ _ => rfl⟩
theorem Fr.mono {w w' : World} {S T : Nat → Prop} (h : Fr w w' S) (hst : ∀ k, k < w.heap.size → S k → T k) : Fr w w' T :=
  ⟨h.os, h.tape, h.output, h.size, fun k hk hn => h.block k hk (fun hs => hn (hst k hk hs))⟩
theorem Fr.trans {a b c : World} {S : Nat → Prop} (h : Fr a b S) (k : Fr b c S) : Fr a c S :=
  ⟨k.os.trans h.os, k.tape.trans h.tape, k.output.trans h.output, Nat.le_trans h.size k.size, fun i hi hn => (k.block i (Nat.lt_of_lt_of_le hi h.size) hn).trans (h.block i hi hn)⟩
/-- The second step may write what was not there before the first. -/
theorem Fr.then {a b c : World} {S T : Nat → Prop} (h : Fr a b S) (k : Fr b c T) (hT : ∀ i, i < a.heap.size → T i → S i) : Fr a c S :=
  ⟨k.os.trans h.os, k.tape.trans h.tape, k.output.trans h.output, Nat.le_trans h.size k.size, fun i hi hn => (k.block i (Nat.lt_of_lt_of_le hi h.size) (fun ht => hn (hT i hi ht))).trans (h.block i hi hn)⟩
theorem Fr.drewN {a b : World} {S : Nat → Prop} (h : Fr a b S) (n : Nat) : Fr a (b.drewN n) S := ⟨h.os, h.tape, h.output, h.size, h.block⟩
theorem Fr.drew {a b : World} {S : Nat → Prop} (h : Fr a b S) : Fr a b.drew S := ⟨h.os, h.tape, h.output, h.size, h.block⟩
theorem Fr.alloc {a b : World} {S : Nat → Prop} (h : Fr a b S) (o : Obj) : Fr a (b.alloc o) S :=
  ⟨h.os, h.tape, h.output, by have := h.size; simp; omega, fun i hi hn => (Below.heap_alloc b o i (Nat.lt_of_lt_of_le hi h.size)).trans (h.block i hi hn)⟩
theorem Fr.setCell {a b : World} {S : Nat → Prop} (h : Fr a b S) (p : Addr) (v : Value) (hp : p.block < a.heap.size → S p.block) : Fr a (b.setCell p v) S :=
  ⟨h.os, h.tape, h.output, by have := h.size; simpa [World.setCell] using this, fun i hi hn => (Below.heap_setCell b p v i (fun e => hn (e ▸ hp (e ▸ hi)))).trans (h.block i hi hn)⟩
theorem Fr.grown {a b c : World} {S : Nat → Prop} {row : Option Nat} (h : Fr a b S) (hg : b.grownBy c row) (hr : ∀ k, k < a.heap.size → row = some k → S k) : Fr a c S :=
  ⟨hg.os.trans h.os, hg.tape.trans h.tape, hg.output.trans h.output, Nat.le_trans h.size hg.size, fun i hi hn => (hg.block i (Nat.lt_of_lt_of_le hi h.size) (fun e => hn (hr i hi e.symm))).trans (h.block i hi hn)⟩
theorem Fr.below {w w' : World} {S : Nat → Prop} {B : Nat} (h : Fr w w' S) (hB : B ≤ w.heap.size) (hS : ∀ k, k < B → ¬ S k) : Below B w w' :=
  ⟨h.os, h.tape, h.output, h.size, fun k hk => h.block k (by omega) (hS k hk)⟩
theorem Fr.of_below {w w' : World} {S : Nat → Prop} (h : Below w.heap.size w w') : Fr w w' S := ⟨h.os, h.tape, h.output, h.size, fun k hk _ => h.block k hk⟩

/-- A row stays owned where its block is not among those written. -/
theorem Fr.owns {w w' : World} {S : Nat → Prop} {B : Nat} {e : TypeId} {size : Nat} {v : Value} {n : Nat} {xs : List Value} (h : Fr w w' S) (ho : w.ownsRow B e size v n xs) (hS : ∀ g, v.ownBlock = some g → ¬ S g) : w'.ownsRow B e size v n xs := by
  refine ⟨ho.1, ho.2.imp id ?_⟩
  rintro ⟨g, cap, cur, rfl, hg, hh, r⟩
  exact ⟨g, cap, cur, rfl, hg, (h.block g (heap_lt hh) (hS g rfl)).trans hh, r⟩

/-! ### append onto a row that the call owns: where the result lies -/
section
variable {P : Program} (w : World)

/-- Either it lies where it lay, or in a block that was not there. -/
def SameOrNew (w : World) (v v' : Value) : Prop := v'.ownBlock = v.ownBlock ∨ ∃ g, v'.ownBlock = some g ∧ w.heap.size ≤ g

theorem run_app (B : Nat) (t ty e : TypeId) (i : TypeInfo) (z : Value) (size bytes : Nat) (ht : P.underlying t = some (.slice e)) (hi : P.info? e = some i) (hz : i.zero = some z)
    (hsize : i.size = size) (hby : i.bytes = bytes) (hzs : z.cells.size = size)
    (v : Value) (n : Nat) (xs : List Value) (hown : w.ownsRow B e size v n xs)
    (a : Addr) (m c : Nat) (news : List Value) (hl : news.length = m * size) (hm : 0 < m) (hnews : ∀ j u, news[j]? = some u → w.cell? (a.add j) = some u) (h1 : ∀ u ∈ news, u.oneCell' = true)
    (hbytes : (n + m) * bytes ≤ 140737488355328) (hb1 : 0 < bytes) (hbase : B ≤ w.heap.size) :
    ∃ v' w', (Builtin.append_ #[t, t] ty #[v, .slice (some a) m c]).run P w = .ok v' w' ∧ w'.ownsRow B e size v' (n + m) (xs ++ news) ∧ SameOrNew w v v' ∧ w.grownBy w' v.ownBlock := by
  have hnm : n + m ≤ 140737488355328 := Nat.le_trans (Nat.le_mul_of_pos_right _ hb1) hbytes
  have h63 : n + m ≤ maxLen := by unfold maxLen; omega
  have hs : Src P i.size t (.slice (some a) m c) m news w := Src.ofSlice w ht a m c news (by rw [hsize]; exact hl) hnews h1
  have grow : ∀ (ba : Option Addr) (cap : Nat), cap < n + m → (Builtin.firstCells i.size n (.slice ba n cap)).run P w.drew = .ok xs.toArray w.drew →
      ∃ v' w', (Builtin.append_ #[t, t] ty #[.slice ba n cap, .slice (some a) m c]).run P w = .ok v' w' ∧ w'.ownsRow B e size v' (n + m) (xs ++ news) ∧ (∃ g, v'.ownBlock = some g ∧ w.heap.size ≤ g) ∧ ∀ row, w.grownBy w' row := by
    intro ba cap hcap hold
    have hr := run_append_grow_src (P := P) w t t ty e i z ht hi hz ba n cap xs hold (.slice (some a) m c) m news hs hcap (by omega) (by rw [hby]; exact growslice_fits hcap hbytes)
    have hge := grownCap_ge w (n + m) cap e
    have hcm := grownCap_le_maxLen w (n + m) cap e h63
    have hlen : (xs ++ news).length = (n + m) * size := by rw [List.length_append, hown.1, hl, Nat.add_mul]
    refine ⟨_, _, hr, ⟨hlen, .inr ⟨w.heap.size, _, _, rfl, hbase, heap_alloc_new w.drew _, hge, hcm, ?_, ?_⟩⟩, ⟨w.heap.size, rfl, Nat.le_refl _⟩, fun row => ⟨rfl, rfl, rfl, by simp, fun k hk _ => Below.heap_alloc w.drew _ k hk⟩⟩
    · simp only [Array.size_append, List.size_toArray, size_zeroCells, hzs, hlen]
      rw [← Nat.add_mul]
      congr 1
      omega
    · rw [Array.toList_append, ← hlen]
      exact List.take_left
  rcases hown.2 with ⟨rfl, rfl⟩ | ⟨g, cap, cur, rfl, hbg, hg, hnc, hcm, hcs, htake⟩
  · have hx : xs = [] := List.eq_nil_of_length_eq_zero (by simpa using hown.1)
    subst hx
    obtain ⟨v', w', h2, h3, h4, h5⟩ := grow none 0 (by omega) (run_firstCells_none w.drew i.size 0 0 0)
    exact ⟨v', w', h2, h3, .inr h4, h5 _⟩
  · by_cases hroom : n + m ≤ cap
    · obtain ⟨w', h2, h3, h4⟩ := run_append_fits (P := P) w B t ty e i size ht hi hsize g n cap xs hown a m c news hl hnews h1 hroom
      exact ⟨_, w', h2, h3, .inl rfl, h4⟩
    · obtain ⟨v', w', h2, h3, h4, h5⟩ := grow (some ⟨g, 0, none⟩) cap (by omega) (run_firstCells_some w.drew i.size n ⟨g, 0, none⟩ n cap xs (by rw [hsize]; exact hown.1) (by simpa using hown.cells (g := g) rfl))
      exact ⟨v', w', h2, h3, .inr h4, h5 _⟩

theorem wpList_app {ops : Array Oper} {rest : List Oper} {o : Oper} {a : Act} {Q : Exit → Act → World → Prop} (hgd : o.guard = none) (s x : Operand) (t : TypeId)
    (ho : o.op = .call { callee := .builtin .append, args := #[s, x], argTypes := #[t, t] })
    (B : Nat) (e : TypeId) (i : TypeInfo) (z : Value) (size bytes : Nat) (ht : P.underlying t = some (.slice e)) (hi : P.info? e = some i) (hz : i.zero = some z)
    (hsize : i.size = size) (hby : i.bytes = bytes) (hzs : z.cells.size = size)
    (v : Value) (n : Nat) (xs : List Value) (hs : a.eval s = v) (hown : w.ownsRow B e size v n xs)
    (ad : Addr) (m c : Nat) (news : List Value) (hx : a.eval x = .slice (some ad) m c) (hl : news.length = m * size) (hm : 0 < m) (hnews : ∀ j u, news[j]? = some u → w.cell? (ad.add j) = some u) (h1 : ∀ u ∈ news, u.oneCell' = true)
    (hbytes : (n + m) * bytes ≤ 140737488355328) (hb1 : 0 < bytes) (hbase : B ≤ w.heap.size)
    (h : ∀ v' w', w'.ownsRow B e size v' (n + m) (xs ++ news) → SameOrNew w v v' → w.grownBy w' v.ownBlock → wpList P ops Q rest (a.put o.dst v') w') : wpList P ops Q (o :: rest) a w := by
  refine wpList_plain hgd fun K hK => ?_
  obtain ⟨v', w', hr, h2, h3, h4⟩ := run_app (P := P) w B t o.type e i z size bytes ht hi hz hsize hby hzs v n xs hown ad m c news hl hm hnews h1 hbytes hb1 hbase
  unfold Oper.wp execOp
  simp only [ho, resolve, invoke, builtin, Sem.run_bind, Sem.run_pure, Result.andThen_ok, List.map_toArray, List.map_cons, List.map_nil, hs, hx, hr]
  exact hK _ _ (h v' w' h2 h3 h4)
end

/-! ### Items -/
def ic (a : Nat × Nat) : List Value := [.float .f64 a.1, .int .u64 (a.2 : Nat), .int .i64 (a.2 : Nat)]
def ics (L : List (Nat × Nat)) : List Value := L.flatMap ic

theorem ics_append (a b : List (Nat × Nat)) : ics (a ++ b) = ics a ++ ics b := by simp [ics]
theorem ics_length (L : List (Nat × Nat)) : (ics L).length = L.length * 3 := by
  induction L with
  | nil => rfl
  | cons x L ih => rw [ics, List.flatMap_cons, List.length_append, List.length_cons, Nat.add_mul]; unfold ics at ih; rw [ih]; simp [ic]; omega
theorem ics_one (L : List (Nat × Nat)) : ∀ u ∈ ics L, u.oneCell' = true := by
  intro u hu
  simp only [ics, List.mem_flatMap] at hu
  obtain ⟨x, _, hx⟩ := hu
  simp only [ic, List.mem_cons, List.not_mem_nil, or_false] at hx
  rcases hx with rfl | rfl | rfl <;> rfl

def dI : Nat × Nat := (0, 0)

theorem ics_at (L : List (Nat × Nat)) : ∀ j, j < L.length → (ics L)[j * 3]? = some (.float .f64 (L.getD j dI).1) ∧ (ics L)[j * 3 + 1]? = some (.int .u64 ((L.getD j dI).2 : Nat)) ∧ (ics L)[j * 3 + 2]? = some (.int .i64 ((L.getD j dI).2 : Nat)) := by
  induction L with
  | nil => intro j h; simp at h
  | cons x L ih =>
    intro j hj
    have e : ics (x :: L) = ic x ++ ics L := by simp [ics]
    cases j with
    | zero => rw [e]; simp [ic]
    | succ j =>
      have := ih j (by simpa using hj)
      rw [e]
      have h3 : (ic x).length = 3 := rfl
      refine ⟨?_, ?_, ?_⟩ <;> rw [List.getElem?_append_right (by omega), h3]
      · rw [show (j + 1) * 3 - 3 = j * 3 by omega]; simpa using this.1
      · rw [show (j + 1) * 3 + 1 - 3 = j * 3 + 1 by omega]; simpa using this.2.1
      · rw [show (j + 1) * 3 + 2 - 3 = j * 3 + 2 by omega]; simpa using this.2.2

theorem ics_set (L : List (Nat × Nat)) (y : Nat × Nat) : ∀ j, (((ics L).set (j * 3) (.float .f64 y.1)).set (j * 3 + 1) (.int .u64 (y.2 : Nat))).set (j * 3 + 2) (.int .i64 (y.2 : Nat)) = ics (L.set j y) := by
  induction L with
  | nil => intro j; rfl
  | cons x L ih =>
    intro j
    have e : ∀ (x : Nat × Nat) L, ics (x :: L) = .float .f64 x.1 :: .int .u64 (x.2 : Nat) :: .int .i64 (x.2 : Nat) :: ics L := fun x L => by simp [ics, ic]
    cases j with
    | zero => rw [e]; simp [e]
    | succ j =>
      rw [e, show (j + 1) * 3 = j * 3 + 3 by omega]
      simp only [List.set_cons_succ, show j * 3 + 3 + 1 = (j * 3 + 1) + 3 by omega, show j * 3 + 3 + 2 = (j * 3 + 2) + 3 by omega]
      rw [ih, e]

end Go.Proofs.Ybulkcnam
