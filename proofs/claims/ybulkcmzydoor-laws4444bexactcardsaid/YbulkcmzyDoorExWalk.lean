/-
  THE WALK over tsf/zz_law_s4444b.go: LawS4444BExact.
-/
import Derived.Test.YbulkcmzyDoorExFns
import Derived.Test.YbulkcmzyDoorShelf
import Derived.Laws.CopyOwn
namespace Go.Proofs.YbulkcmzyDoor
open Go.RowKit

/-- A slice of bytes that came in: nil, or cells. -/
def Pre (w : World) (a : Option Addr) (n c : Nat) (pl : List UInt8) : Prop :=
  pl.length = n ∧ ((a = none ∧ n = 0 ∧ c = 0) ∨ ∃ x, a = some x ∧ ∀ j u, (bc pl)[j]? = some u → w.cell? (x.add j) = some u)

theorem Pre.below {w w' : World} {a : Option Addr} {n c : Nat} {pl : List UInt8} (h : Pre w a n c pl) (hb : Below w.heap.size w w') : Pre w' a n c pl := by
  refine ⟨h.1, h.2.imp id ?_⟩
  rintro ⟨x, rfl, hc⟩
  refine ⟨x, rfl, fun j u hj => ?_⟩
  have h1 := hc j u hj
  rw [hb.cell (World.block_lt_of_cell? _ _ h1)]
  exact h1

theorem conv_pre {w : World} {a : Option Addr} {n c : Nat} {pl : List UInt8} (h : Pre w a n c pl) : (convert 22 9 (.slice a n c)).run Ybad.prog w = .ok (.string ⟨pl.toArray⟩) w := by
  obtain ⟨rfl, ⟨rfl, h0, rfl⟩ | ⟨x, rfl, hc⟩⟩ := h
  · have hl : pl = [] := List.eq_nil_of_length_eq_zero h0
    subst hl
    exact run_convert_bytes_nil (P := Ybad.prog) w 22 5 Ybad.underlying22 Ybad.underlying5 0 0 9 Ybad.underlying9
  · exact run_convert_bytes_back (P := Ybad.prog) w 22 9 5 x c pl Ybad.underlying22 Ybad.underlying5 Ybad.underlying9 (fun j hj => hc j _ (by simp [bc, hj]))

theorem bc_one (l : List UInt8) : ∀ u ∈ bc l, u.oneCell' = true := by
  intro u hu
  simp only [bc, List.mem_map] at hu
  obtain ⟨b, -, rfl⟩ := hu
  rfl

/-- 'append(want, prefix...)'. -/
theorem wpList_append_pre (w : World) {ops : Array Oper} {rest : List Oper} {o : Oper} {a : Act} {Q : Exit → Act → World → Prop} (hgd : o.guard = none) (s x : Operand)
    (ho : o.op = .call { callee := .builtin .append, args := #[s, x], argTypes := #[22, 22] })
    (B : Nat) (v : Value) (n : Nat) (xs : List Value) (hs : a.eval s = v) (hown : w.ownsRow B 5 1 v n xs)
    (pa : Option Addr) (m c : Nat) (pl : List UInt8) (hx : a.eval x = .slice pa m c) (hp : Pre w pa m c pl)
    (h63 : n + m ≤ 140737488355328) (hbase : B ≤ w.heap.size)
    (h : ∀ v' w', w'.ownsRow B 5 1 v' (n + m) (xs ++ bc pl) → w.grownBy w' v.ownBlock → wpList Ybad.prog ops Q rest (a.put o.dst v') w') : wpList Ybad.prog ops Q (o :: rest) a w := by
  obtain ⟨i0, hi0, hz0, hz1', hz2'⟩ := info_parts Ybad.info5
  refine wpList_plain hgd fun K hK => ?_
  obtain ⟨v', w', hr, h2, h3⟩ : ∃ v' w', (Builtin.append_ #[22, 22] o.type #[v, .slice pa m c]).run Ybad.prog w = .ok v' w' ∧ w'.ownsRow B 5 1 v' (n + m) (xs ++ bc pl) ∧ w.grownBy w' v.ownBlock := by
    obtain ⟨hl, ⟨rfl, rfl, rfl⟩ | ⟨y, rfl, hc⟩⟩ := hp
    · have hl : pl = [] := List.eq_nil_of_length_eq_zero hl
      subst hl
      refine ⟨v, w, run_append_owned_none (P := Ybad.prog) w B 22 o.type 5 i0 1 Ybad.underlying22 hi0 v n xs hown, by simpa [bc] using hown, ⟨rfl, rfl, rfl, Nat.le_refl _, fun _ _ _ => rfl⟩⟩
    · obtain ⟨v', w', hr, h2, h3, -⟩ := run_append_own (P := Ybad.prog) w B 22 o.type 5 i0 (.int .u8 0) 1 1 Ybad.underlying22 hi0 hz0 hz1' hz2' rfl (by decide) v n xs hown y m c (bc pl) (by rw [bc_length, hl, Nat.mul_one]) hc (bc_one pl) (by unfold maxLen; omega) (by omega) hbase
      exact ⟨v', w', hr, h2, h3⟩
  unfold Oper.wp execOp
  simp only [ho, resolve, invoke, builtin, Sem.run_bind, Sem.run_pure, Result.andThen_ok, List.map_toArray, List.map_cons, List.map_nil, hs, hx, hr]
  exact hK _ _ (h v' w' h2 h3)

/-! ### The steps -/
def stepOf (x : ByteArray × Int × Bool) : ByteArray × Int := if x.2.2 then (⟨#[]⟩, x.2.1) else (x.1, -1)
def chn (l : List (ByteArray × Int × Bool)) : List (ByteArray × Int) := (l.map stepOf).reverse
def stD : ByteArray × Int × Bool := (ByteArray.empty, 0, false)

def Steps (w : World) (a : Option Addr) (len : Nat) (st : List (ByteArray × Int × Bool)) : Prop :=
  st.length = len ∧ (0 < len → ∃ b off, a = some ⟨b, off, none⟩ ∧ b < w.heap.size ∧ ∀ j, j < len → w.cell? ⟨b, off + j * 3, none⟩ = some (.string (st.getD j stD).1) ∧ w.cell? ⟨b, off + j * 3 + 1, none⟩ = some (.int .i64 (st.getD j stD).2.1) ∧ w.cell? ⟨b, off + j * 3 + 2, none⟩ = some (.bool (st.getD j stD).2.2)) ∧
  ∀ x ∈ st, x.1.size ≤ 9223372036854775807 ∧ -9223372036854775808 ≤ x.2.1 ∧ x.2.1 ≤ 9223372036854775807

theorem getD_mem {st : List (ByteArray × Int × Bool)} {k : Nat} (h : k < st.length) : st.getD k stD ∈ st := by
  simp [List.getD, h]

theorem all_small3 {st : List (ByteArray × Int × Bool)} {k : Nat} (hk : st.length ≤ k) (h : ∀ j, j < k → (st.getD j stD).1.size ≤ 1024) : ∀ x ∈ st, x.1.size ≤ 1024 := by
  intro x hx
  obtain ⟨i, hi, rfl⟩ := List.getElem_of_mem hx
  have := h i (by omega)
  simpa [List.getD, hi] using this

/-- What the second loop hands on: the chain, and the bytes that are wanted. -/
def Rel (B n : Nat) (pl : List UInt8) (l : List (ByteArray × Int × Bool)) (p : Option Addr) (v : Value) (w : World) : Prop :=
  Chain w (chn l) p ∧ w.ownsRow B 5 1 v (n + (out (chn l)).length) (bc pl ++ bc (out (chn l)))

theorem ex_start {w : World} {B n : Nat} {pl : List UInt8} {v : Value} (h : w.ownsRow B 5 1 v n (bc pl)) : Rel B n pl [] none v w :=
  ⟨rfl, by simpa [chn, out, bc] using h⟩

theorem chn_snoc (l : List (ByteArray × Int × Bool)) (x : ByteArray × Int × Bool) : chn (l ++ [x]) = stepOf x :: chn l := by simp [chn]

theorem rel_next {st : List (ByteArray × Int × Bool)} {k B n : Nat} {pl : List UInt8} {x : ByteArray × Int × Bool} {p' : Option Addr} {v3 : Value} {w3 : World} {tl : List UInt8} (hk : k < st.length) (hx : x = st.getD k stD)
    (hs : seg (stepOf x) = 47 :: tl) (hc : Chain w3 (stepOf x :: chn (st.take k)) p') (ho : w3.ownsRow B 5 1 v3 (n + (out (chn (st.take k))).length + 1 + tl.length) (bc pl ++ bc (out (chn (st.take k))) ++ [.int .u8 47] ++ bc tl)) :
    Rel B n pl (st.take (k + 1)) p' v3 w3 := by
  have e : st.take (k + 1) = st.take k ++ [x] := by rw [List.take_succ_eq_append_getElem hk, hx]; simp [List.getD, hk]
  unfold Rel
  rw [e, chn_snoc]
  refine ⟨hc, ?_⟩
  have e1 : n + (out (stepOf x :: chn (st.take k))).length = n + (out (chn (st.take k))).length + 1 + tl.length := by simp [out, hs]; omega
  have e2 : bc pl ++ bc (out (stepOf x :: chn (st.take k))) = bc pl ++ bc (out (chn (st.take k))) ++ [.int .u8 47] ++ bc tl := by simp [out, hs, bc]
  rw [e1, e2]; exact ho

theorem seg_len (x : ByteArray × Int × Bool) (h : x.1.size ≤ 1024 ∧ -9223372036854775808 ≤ x.2.1 ∧ x.2.1 ≤ 9223372036854775807) : (seg (stepOf x)).length ≤ 2049 := by
  obtain ⟨s, e, b⟩ := x
  have h3 := esc_len s.data.toList
  rw [data_size] at h3
  simp only at h
  cases b with
  | true =>
    simp only [stepOf, seg, if_true, List.length_cons]
    split
    · have := Lib.itoa_length_le e h.2.1 h.2.2; omega
    · simp [esc]
  | false =>
    simp [stepOf, seg]
    omega

theorem out_len (l : List (ByteArray × Int × Bool)) (h : ∀ x ∈ l, x.1.size ≤ 1024 ∧ -9223372036854775808 ≤ x.2.1 ∧ x.2.1 ≤ 9223372036854775807) : (out (chn l)).length ≤ 2049 * l.length := by
  have key : ∀ m : List (ByteArray × Int × Bool), (∀ x ∈ m, x.1.size ≤ 1024 ∧ -9223372036854775808 ≤ x.2.1 ∧ x.2.1 ≤ 9223372036854775807) → (out (m.map stepOf)).length ≤ 2049 * m.length := by
    intro m hm
    induction m with
    | nil => simp [out]
    | cons x m ih =>
      have h1 := ih (fun y hy => hm y (List.mem_cons_of_mem _ hy))
      have h2 := seg_len x (hm x List.mem_cons_self)
      simp only [List.map_cons, out, List.length_append, List.length_cons]
      omega
  have := key l.reverse (fun x hx => h x (List.mem_reverse.1 hx))
  rw [List.length_reverse, List.map_reverse] at this
  exact this

theorem blk25 {wr w1 : World} {B n : Nat} {v : Value} {xs : List Value} {c : Array Value} {o : Obj} (how : wr.ownsRow B 5 1 v n xs) (hg : ((wr.alloc (.cells c 25)).alloc o).grownBy w1 v.ownBlock) : w1.heap[wr.heap.size]? = some (.cells c 25 (0, 0)) := by
  rw [hg.block wr.heap.size (by simp; omega) (fun h => by have := (how.lt _ h.symm).2; omega)]
  rw [Below.heap_alloc _ _ _ (by simp), heap_alloc_new]

theorem chain_more {w1 w3 : World} {l : List (ByteArray × Int)} {p : Option Addr} {s : ByteArray} {e : Int} (h : Chain w1 l p) (hk : Kept (w1.alloc (.cells #[.pointer p, .string s, .int .i64 e] 61)) w3) :
    Chain w3 ((s, e) :: l) (some ⟨w1.heap.size, 0, none⟩) :=
  hk.chain ⟨w1.heap.size, p, rfl, heap_alloc_new _ _, h.below ((Below.refl _ _).alloc (Nat.le_refl _) _)⟩

theorem sz5 : (Ybad.prog.info? 5).map (·.size) = some 1 := by
  obtain ⟨i0, hi0, hz0, hz1', hz2'⟩ := info_parts Ybad.info5
  rw [hi0]; simp [hz1']

theorem made_block {w : World} {B g n : Nat} {xs : List Value} (h : w.ownsRow B 5 1 (.slice (some ⟨g, 0, none⟩) n n) n xs) : ∃ cur : List Value, w.heap[g]? = some (.cells cur.toArray 5 (0, 0)) ∧ cur.length = n := by
  rcases h.2 with ⟨h', -⟩ | ⟨g', cap, cur, hv, -, hg, -, -, hs, -⟩
  · simp at h'
  · simp only [Value.slice.injEq, Option.some.injEq, Addr.mk.injEq, and_true, true_and] at hv
    obtain ⟨rfl, rfl⟩ := hv
    exact ⟨cur.toList, by simpa using hg, by simpa using hs⟩

theorem pre_src {w : World} {a : Option Addr} {n c : Nat} {pl : List UInt8} {g : Nat} (h : Pre w a n c pl) :
    0 < (bc pl).length → (some (⟨g, 0, none⟩ : Addr)) = some ⟨g, 0, none⟩ ∧ ∃ ad, a = some ad ∧ ∀ j v, (bc pl)[j]? = some v → w.cell? (ad.add j) = some v := by
  intro hp
  rw [bc_length, h.1] at hp
  rcases h.2 with ⟨-, h0, -⟩ | ⟨x, rfl, hc⟩
  · omega
  · exact ⟨rfl, x, rfl, hc⟩

/-- The copy of the prefix: the call's own row, without spare room. -/
theorem copied {wm w2 : World} {a : Option Addr} {n c g : Nat} {pl : List UInt8} {cur : List Value} (hp : Pre wm a n c pl) (hn : n ≤ maxLen) (hc : cur.length = n) (h : w2.heap[g]? = some (.cells (splice cur 0 (bc pl)).toArray 5 (0, 0))) :
    w2.ownsRow 0 5 1 (.slice (some ⟨g, 0, none⟩) n n) n (bc pl) := by
  have e : splice cur 0 (bc pl) = bc pl := by
    unfold splice
    rw [List.take_zero, List.nil_append, Nat.zero_add, List.drop_eq_nil_of_le (by rw [bc_length, hp.1]; omega), List.append_nil]
  rw [e] at h
  have hl : (bc pl).length = n := by rw [bc_length, hp.1]
  refine ⟨by rw [hl, Nat.mul_one], .inr ⟨g, n, _, rfl, Nat.zero_le _, h, Nat.le_refl _, hn, by simp [hl], by simp [← hl]⟩⟩

theorem full_of {w2 : World} {g n : Nat} {xs : List Value} (h : w2.ownsRow 0 5 1 (.slice (some ⟨g, 0, none⟩) n n) n xs) (hlt : g < w2.heap.size) : Full w2.heap.size w2 (.slice (some ⟨g, 0, none⟩) n n) n xs :=
  ⟨by simpa using h.1, ⟨g, 0, none⟩, rfl, hlt, h.cells (g := g) rfl⟩

theorem mem_chn {st : List (ByteArray × Int × Bool)} {x : ByteArray × Int} (h : x ∈ chn st) : ∃ y ∈ st, x = stepOf y := by
  simp only [chn, List.mem_reverse, List.mem_map] at h
  obtain ⟨y, hy, rfl⟩ := h
  exact ⟨y, hy, rfl⟩

theorem chn_size {st : List (ByteArray × Int × Bool)} (h : ∀ x ∈ st, x.1.size ≤ 1024) {x : ByteArray × Int} (hx : x ∈ chn st) : x.1.size ≤ 9223372036854775807 := by
  obtain ⟨⟨s, e, b⟩, hy, rfl⟩ := mem_chn hx
  have := h _ hy
  simp only at this
  cases b
  · simp [stepOf]; omega
  · simp [stepOf]; decide

theorem chn_max {st : List (ByteArray × Int × Bool)} (h : ∀ x ∈ st, x.2.1 ≤ 9223372036854775807) {x : ByteArray × Int} (hx : x ∈ chn st) : x.2 ≤ 9223372036854775807 := by
  obtain ⟨⟨s, e, b⟩, hy, rfl⟩ := mem_chn hx
  have := h _ hy
  cases b <;> simp [stepOf]
  exact this

theorem conv_app {w : World} {B n : Nat} {v : Value} {pl o : List UInt8} (h : w.ownsRow B 5 1 v (n + o.length) (bc pl ++ bc o)) (hl : pl.length = n) : (convert 22 9 v).run Ybad.prog w = .ok (.string ⟨(pl ++ o).toArray⟩) w := by
  refine conv_own (B := B) w ?_
  rw [bc_append, List.length_append, hl]; exact h

theorem conv_app0 {w : World} {B n : Nat} {v : Value} {pl : List UInt8} (h : w.ownsRow B 5 1 v n (bc pl)) (hl : pl.length = n) : (convert 22 9 v).run Ybad.prog w = .ok (.string ⟨pl.toArray⟩) w := by
  refine conv_own (B := B) w ?_
  rw [hl]; exact h

theorem got_conv {w2 w3 : World} {B g n : Nat} {st : List (ByteArray × Int × Bool)} {v3 : Value} {pl : List UInt8} (hin : w2.ownsRow 0 5 1 (.slice (some ⟨g, 0, none⟩) n n) n (bc pl))
    (h : (chn st = [] ∧ v3 = .slice (some ⟨g, 0, none⟩) n n ∧ w3 = w2) ∨ w3.ownsRow B 5 1 v3 (n + (out (chn st)).length) (bc pl ++ bc (out (chn st)))) :
    (convert 22 9 v3).run Ybad.prog w3 = .ok (.string ⟨(pl ++ out (chn st)).toArray⟩) w3 := by
  have hl : pl.length = n := by have := hin.1; rw [bc_length] at this; omega
  rcases h with ⟨h, rfl, rfl⟩ | h
  · rw [h, show out [] = [] from rfl, List.append_nil]
    exact conv_app0 hin hl
  · exact conv_app h hl

theorem aiok {w w2 : World} (hT : Lib.TabIs Ybad.prog w powName .u64 Lib.pow10Tab) (hb : Below w.heap.size w w2) : AIok w2.heap.size w2 := by
  intro w' v n xs i hbw h0 h1 hown hn
  have t2 : Lib.TabIs Ybad.prog w2 powName .u64 Lib.pow10Tab := Lib.tabBelow_of_tabIs hT w2 hb
  refine (Ybad.strconv_AppendInt_10 w2.heap.size n i (by omega) h1 v xs w' hown hbw.size hn ((Lib.tabBelow_of_tabIs t2).on hbw)).mono ?_
  rintro e w3 ⟨v', rfl, h2, h3, -⟩
  exact ⟨v', rfl, h2, h3⟩

set_option maxHeartbeats 1000000 in
set_option maxRecDepth 10000 in
theorem ex_walk (a0 : Option Addr) (n cap0 : Nat) (pl : List UInt8) (a1 : Option Addr) (len cap1 : Nat) (st : List (ByteArray × Int × Bool)) (w : World) (hP : Pre w a0 n cap0 pl) (hS : Steps w a1 len st) (hT : Lib.TabIs Ybad.prog w powName .u64 Lib.pow10Tab) (hn : n ≤ 9223372036854775807) (hlen : len ≤ 9223372036854775807) :
    Calls Ybad.prog 3 #[.slice a0 n cap0, .slice a1 len cap1] w fun e w' => e = .returned (.bool true) ∧ Below w.heap.size w w' := by
  obtain ⟨i0, hi0, hz0, hz1', hz2'⟩ := info_parts Ybad.info5
  have HP := Lib.hid hP
  have HS := Lib.hid hS
  clear hP hS
  by_cases hbig : 1024 < n
  · go_enter Ybad.func3, Ybad.ntmps3
    go_wp2_with fail
    go_ret
    exact ⟨rfl, Below.refl _ _⟩
  · have hn2 : n ≤ 1024 := by omega
    have hd0 : decide ((1024 : Int) < (n : Int)) = false := by simp; omega
    by_cases hbig2 : 1024 < len
    · go_enter Ybad.func3, Ybad.ntmps3
      go_wp2_with fail
      go_ret
      exact ⟨rfl, Below.refl _ _⟩
    · have hl2 : len ≤ 1024 := by omega
      have hd1 : decide ((1024 : Int) < (len : Int)) = false := by simp; omega
      have lens : st.length = len := HS.out.1
      have HL := Lib.hid lens
      clear lens
      go_enter Ybad.func3, Ybad.ntmps3
      go_wp2_with fail
      go_loopg [23] len (fun gk i wr => ∃ k : Nat, i = .int .i64 k ∧ k ≤ len ∧ len ≤ k + gk ∧ (∀ j, j < k → (st.getD j stD).1.size ≤ 1024) ∧ Below w.heap.size w wr)
      case atStart => exact ⟨0, rfl, Nat.zero_le _, by omega, fun j h => absurd h (Nat.not_lt_zero _), Below.refl _ _⟩
      case round =>
        obtain ⟨k, rfl, hk, hgk, hsm, hb⟩ := hrel
        by_cases hkl : k < len
        · obtain ⟨b, off, rfl, hbl, hcs⟩ := HS.out.2.1 (by omega)
          obtain ⟨⟨s, e, bb⟩, hse⟩ : ∃ x, x = st.getD k stD := ⟨_, rfl⟩
          have hq := hcs k hkl
          have hx := HS.out.2.2 (st.getD k stD) (getD_mem (by have := HL.out; omega))
          rw [← hse] at hq hx
          obtain ⟨q0, q1, q2⟩ := hq
          have c0 : wr.cell? ⟨b, off + k * 3, none⟩ = some (.string s) := (hb.cell (p := ⟨b, off + k * 3, none⟩) hbl).trans q0
          have c1 : wr.cell? ⟨b, off + k * 3 + 1, none⟩ = some (.int .i64 e) := (hb.cell (p := ⟨b, off + k * 3 + 1, none⟩) hbl).trans q1
          have c2 : wr.cell? ⟨b, off + k * 3 + 2, none⟩ = some (.bool bb) := (hb.cell (p := ⟨b, off + k * 3 + 2, none⟩) hbl).trans q2
          have hs1 : s.size ≤ 9223372036854775807 := hx.1
          have HSE := Lib.hid hse
          clear hse hcs q0 q1 q2 hx
          by_cases hs2 : 1024 < s.size
          · go_wp2_with fail
            go_ret
            exact ⟨rfl, hb.alloc hb.size _⟩
          · go_wp2_with fail
            go_roundg (gk - 1)
            case rel => exact ⟨k + 1, by go_num, by omega, by omega, fun j hj => by rcases Nat.lt_succ_iff_lt_or_eq.1 hj with h | rfl; exact hsm j h; rw [← HSE.out]; show s.size ≤ 1024; omega, hb.alloc hb.size _⟩
            case measure => omega
        · have hall : ∀ x ∈ st, x.1.size ≤ 1024 := all_small3 (by have := HL.out; omega) hsm
          have HA := Lib.hid hall
          clear hall hsm
          have hz := hb.size
          go_wp2_with (at_make; refine wpList_make_own _ rfl _ _ 22 rfl w.heap.size 5 i0 (.int .u8 0) 1 Ybad.underlying22 hi0 hz0 hz1' _ _ _ n rfl rfl rfl (by rw [hz2']; omega) (by unfold maxLen; omega) hz ?_; intro wm hom hgm; refine Hid.out ?_)
          refine Lib.hid ?_
          have hbm : Below w.heap.size w wm := hb.grown hgm hz (fun k hk => by cases hk)
          have hzm := hbm.size
          have hPm := HP.out.below hbm
          have HPM := Lib.hid hPm
          clear hPm hgm
          go_wp2_with (at_builtin; refine wpList_append_pre _ rfl _ _ rfl w.heap.size _ _ _ rfl hom _ n cap0 pl rfl HPM.out (by omega) hzm ?_)
          intro v0 w0 how0 hg0
          have hb0 : Below w.heap.size w w0 := hbm.grown hg0 hzm (fun k hk => (hom.lt k hk).1)
          have R0 := ex_start how0
          clear how0 hg0 hom HPM
          go_wp2_with fail
          go_loopg [7, 8, 40] len (fun gk l wv i wr => ∃ (k : Nat) (p : Option Addr), i = .int .i64 k ∧ l = .pointer p ∧ k ≤ len ∧ len ≤ k + gk ∧ Rel w.heap.size n pl (st.take k) p wv wr ∧ Below w.heap.size w wr)
          case atStart => exact ⟨0, none, rfl, rfl, Nat.zero_le _, by omega, R0, hb0⟩
          case round =>
            obtain ⟨k, p, rfl, rfl, hk2, hgk2, ⟨hch, how⟩, hb2⟩ := hrel
            have hzr := hb2.size
            have hol := out_len (st.take k) (fun x hx => ⟨HA.out x (List.mem_of_mem_take hx), (HS.out.2.2 x (List.mem_of_mem_take hx)).2⟩)
            have htk : (st.take k).length ≤ k := List.length_take_le _ _
            by_cases hkl2 : k < len
            · obtain ⟨b, off, rfl, hbl, hcs⟩ := HS.out.2.1 (by omega)
              obtain ⟨⟨s, e, bb⟩, hse⟩ : ∃ x, x = st.getD k stD := ⟨_, rfl⟩
              have hq := hcs k hkl2
              have hm := getD_mem (st := st) (k := k) (by have := HL.out; omega)
              have hx := (HS.out.2.2 _ hm).2
              have hx1 := HA.out _ hm
              rw [← hse] at hq hx hx1
              obtain ⟨q0, q1, q2⟩ := hq
              obtain ⟨he1, he2⟩ := hx
              have c0 : wr.cell? ⟨b, off + k * 3, none⟩ = some (.string s) := (hb2.cell (p := ⟨b, off + k * 3, none⟩) hbl).trans q0
              have c1 : wr.cell? ⟨b, off + k * 3 + 1, none⟩ = some (.int .i64 e) := (hb2.cell (p := ⟨b, off + k * 3 + 1, none⟩) hbl).trans q1
              have c2 : wr.cell? ⟨b, off + k * 3 + 2, none⟩ = some (.bool bb) := (hb2.cell (p := ⟨b, off + k * 3 + 2, none⟩) hbl).trans q2
              have hse' : (s, e, bb) = st.getD k stD := hse
              have RN := fun (p' : Option Addr) (v3 : Value) (w3 : World) (tl : List UInt8) => rel_next (B := w.heap.size) (n := n) (pl := pl) (p' := p') (v3 := v3) (w3 := w3) (tl := tl) (show k < st.length by have := HL.out; omega) hse'
              have HRN := Lib.hid RN
              have hs3 : s.size ≤ 1024 := hx1
              clear hse hse' hcs q0 q1 q2 hx1 hm RN
              go_wp2_with (at_builtin; refine wpList_append_own _ rfl _ _ 22 rfl w.heap.size 5 i0 (.int .u8 0) 1 1 Ybad.underlying22 hi0 hz0 hz1' hz2' rfl (by decide) _ _ _ rfl ((how.alloc _).alloc _) ⟨wr.heap.size + 1, 0, none⟩ 1 1 [.int .u8 47] rfl rfl (by have := one_new (wr.alloc (.cells #[.string s, .int .i64 e, .bool bb] 25)) (.int .u8 47) 5; simpa using this) (by intro u hu; simp at hu; subst hu; rfl) (by unfold maxLen; omega) (by omega) (by simp; omega) ?_)
              intro v1 w1 how1 hg1 _
              have hkp1 : Kept wr w1 := (((Kept.refl _).alloc _).alloc _).grown ((how.alloc _).alloc _) hg1
              have hch1 : Chain w1 (chn (st.take k)) p := hkp1.chain hch
              have hb1 : Below w.heap.size w w1 := ((hb2.alloc hzr _).alloc (by simp; omega) _).grown hg1 (by simp; omega) (fun k hk => (how.lt k hk).1)
              have hsz1 : wr.heap.size + 2 ≤ w1.heap.size := by have := hg1.size; simpa using this
              have hblk1 : w1.heap[wr.heap.size]? = some (.cells #[.string s, .int .i64 e, .bool bb] 25 (0, 0)) := blk25 how hg1
              have d0 : w1.cell? ⟨wr.heap.size, 0, none⟩ = some (.string s) := by rw [cell_of_row w1 _ _ _ 25 (0, 0) hblk1]; rfl
              have d1 : w1.cell? ⟨wr.heap.size, 1, none⟩ = some (.int .i64 e) := by rw [cell_of_row w1 _ _ _ 25 (0, 0) hblk1]; rfl
              have d2 : w1.cell? ⟨wr.heap.size, 2, none⟩ = some (.bool bb) := by rw [cell_of_row w1 _ _ _ 25 (0, 0) hblk1]; rfl
              have hlt1 : wr.heap.size < w1.heap.size := by omega
              have HBK := Lib.hid hblk1
              have hzw1 := hb1.size
              clear hg1 how hch hblk1 c0 c1 c2 hkp1
              rw [← List.append_assoc] at how1
              cases bb with
              | true =>
                by_cases he : 0 ≤ e
                · obtain ⟨m, rfl⟩ : ∃ m : Nat, e = m := ⟨e.toNat, by omega⟩
                  have IT := Lib.hid (itoa_any w.heap.size _ m v1 _ (w1.alloc (.cells #[.pointer p, .string ⟨#[]⟩, .int .i64 m] 61)) (how1.alloc _) (by simp; omega) (by omega) (by omega))
                  go_wp2_with (first | (go_at_call 7; refine (index_any _ _ _).mono ?_; rintro e w' ⟨rfl, rfl⟩) | (go_at_call 8; refine IT.out.mono ?_; rintro e3 w3 ⟨v3, rfl, how3, hb3, hk3⟩))
                  have R := HRN.out _ v3 w3 (Lib.itoa m) (by simp [stepOf, seg]) (chain_more (s := ⟨#[]⟩) (e := m) hch1 hk3) how3
                  go_roundg (gk - 1)
                  case rel => exact ⟨k + 1, _, by go_num, rfl, by omega, by omega, R, (hb1.alloc hzw1 _).trans hb3⟩
                  case measure => omega
                · have R := HRN.out _ v1 (w1.alloc (.cells #[.pointer p, .string ⟨#[]⟩, .int .i64 e] 61)) [] (by simp [stepOf, seg, esc, he]) (chain_more (s := ⟨#[]⟩) (e := e) hch1 (Kept.refl _)) (by simpa [bc] using how1.alloc _)
                  go_wp2_with (go_at_call 7; refine (index_any _ _ _).mono ?_; rintro e w' ⟨rfl, rfl⟩)
                  go_roundg (gk - 1)
                  case rel => exact ⟨k + 1, _, by go_num, rfl, by omega, by omega, R, hb1.alloc hzw1 _⟩
                  case measure => omega
              | false =>
                have hes := esc_len s.data.toList
                rw [data_size] at hes
                have IT := Lib.hid (escape_any w.heap.size _ v1 _ s (w1.alloc (.cells #[.pointer p, .string s, .int .i64 (-1)] 61)) (how1.alloc _) (by simp; omega) (by omega) (by omega))
                go_wp2_with (first | (go_at_call 9; refine (member_any _ _ _).mono ?_; rintro e w' ⟨rfl, rfl⟩) | (go_at_call 10; refine IT.out.mono ?_; rintro e3 w3 ⟨v3, rfl, how3, hb3, hk3⟩))
                have R := HRN.out _ v3 w3 (esc s.data.toList) (by simp [stepOf, seg]) (chain_more (s := s) (e := -1) hch1 hk3) how3
                go_roundg (gk - 1)
                case rel => exact ⟨k + 1, _, by go_num, rfl, by omega, by omega, R, (hb1.alloc hzw1 _).trans hb3⟩
                case measure => omega
            · have hst : st.take k = st := List.take_of_length_le (by have := HL.out; omega)
              rw [hst] at hch how hol
              have hln := HL.out
              clear hst htk
              go_wp2_with (at_make; refine wpList_make_full _ rfl _ _ 22 rfl w.heap.size 5 i0 (.int .u8 0) 1 Ybad.underlying22 hi0 hz0 hz1' _ _ _ _ n rfl rfl rfl rfl (by rw [hz2']; omega) (by unfold maxLen; omega) hzr ?_; intro wm hom hgm; refine Hid.out ?_)
              refine Lib.hid ?_
              obtain ⟨cur, hcur, hcl⟩ := made_block hom
              have hbm2 : Below wr.heap.size wr wm := (Below.refl _ _).grown hgm (Nat.le_refl _) (fun k hk => by cases hk)
              have hPm := HP.out.below (hb2.trans (hbm2.mono hzr))
              have HPM := Lib.hid hPm
              have HCUR := Lib.hid hcur
              clear hPm hgm hom hcur hln
              go_wp2_with (refine wpList_copy_splice rfl (.tmp 72) (.tmp 73) 22 22 rfl 5 Ybad.underlying22 sz5 _ _ n n n cap0 rfl rfl wr.heap.size 0 cur 5 HCUR.out (bc pl) (by rw [bc_length, HPM.out.1]; simp) (pre_src HPM.out) (by rw [bc_length, HPM.out.1, hcl]; omega) (bc_one pl) wr.heap.size wr hbm2 (Nat.le_refl _) ?_; intro w2 hw2 hbw2; refine Hid.out ?_)
              refine Lib.hid ?_
              have hin := copied HPM.out (by unfold maxLen; omega) hcl hw2.out
              have hb2w : Below w.heap.size w w2 := hb2.trans (hbw2.mono hzr)
              have hlt2 : wr.heap.size < w2.heap.size := heap_lt hw2.out
              have hsz2 : n + (out (chn st)).length + 21 ≤ 140737488355328 := by have := HL.out; omega
              have PT := Lib.hid (ptr_any (chn st) p w2 (.slice (some ⟨wr.heap.size, 0, none⟩) n n) n (bc pl) (hch.below hbw2) (.inl (full_of hin hlt2)) (fun x hx => chn_size HA.out hx) (fun x hx h0 => ⟨chn_max (fun y hy => (HS.out.2.2 y hy).2.2) hx, aiok hT hb2w⟩) hsz2)
              clear HPM HCUR hw2
              go_wp2_with fail
              refine PT.out.mono ?_
              rintro e3 w3 ⟨v3, rfl, hb3, hc3⟩
              have k1 := got_conv hin hc3
              have hb3r : Below wr.heap.size wr w3 := hbw2.trans (hb3.mono hbw2.size)
              have k2 := conv_app (own_below how hb3r) HP.out.1
              have k3 := conv_app0 (own_below hin hb3) HP.out.1
              have hb3w : Below w.heap.size w w3 := hb2w.trans (hb3.mono hb2w.size)
              have k4 := conv_pre (HP.out.below hb3w)
              have Q1 := Lib.hid (equal_same _ _ _ _ k1 k2)
              have Q2 := Lib.hid (equal_same _ _ _ _ k3 k4)
              clear k1 k2 k3 k4 hc3 PT
              go_wp2_with fail
              refine Q1.out.mono ?_
              rintro e4 w4 ⟨rfl, rfl⟩
              go_wp2_with fail
              refine Q2.out.mono ?_
              rintro e4 w4 ⟨rfl, rfl⟩
              go_wp2_with fail
              go_ret
              exact ⟨rfl, hb3w⟩

end Go.Proofs.YbulkcmzyDoor
