/-
  THE BYTES THAT GROW, AND THE CHAIN OF LOCATIONS: laws of memory for the walks over package tsf. No Go function is walked here.
-/
import Derived.Test.YbulkcmzyDoorRows
import Derived.WalkKit
import Derived.WalkSpells
import Derived.WalkLawsBesides
import Derived.Lib.AppendStr
import Derived.Deep.AppendSrc
import Derived.Lib.ItoaLen
namespace Go.Proofs.YbulkcmzyDoor
open Go.RowKit

/-- A value that is a slice of bytes without spare room (nil, or lying below block B), or a row of the call's own from B on. -/
def Full (B : Nat) (w : World) (v : Value) (n : Nat) (xs : List Value) : Prop :=
  xs.length = n ∧ ∃ a, v = .slice (some a) n n ∧ a.block < B ∧ ∀ j u, xs[j]? = some u → w.cell? (a.add j) = some u

def Buf (B : Nat) (w : World) (v : Value) (n : Nat) (xs : List Value) : Prop := Full B w v n xs ∨ w.ownsRow B 5 1 v n xs

theorem Full.below {B n : Nat} {w w' : World} {v : Value} {xs : List Value} (h : Full B w v n xs) (hb : Below B w w') : Full B w' v n xs := by
  obtain ⟨hl, a, hv, ha, hc⟩ := h
  refine ⟨hl, a, hv, ha, fun j u hj => ?_⟩
  rw [hb.cell (p := a.add j) (by rw [Addr.add]; split <;> exact ha)]
  exact hc j u hj

theorem Buf.alloc {B n : Nat} {w : World} {v : Value} {xs : List Value} (h : Buf B w v n xs) (hB : B ≤ w.heap.size) (o : Obj) : Buf B (w.alloc o) v n xs :=
  h.elim (fun x => .inl (x.below ((Below.refl B w).alloc hB o))) (fun x => .inr (x.alloc o))

/-- One new cell, read. -/
theorem one_new (w : World) (u : Value) (t : TypeId) : ∀ j x, [u][j]? = some x → (w.alloc (.cells #[u] t)).cell? ((⟨w.heap.size, 0, none⟩ : Addr).add j) = some x := by
  intro j x hj
  match j, hj with
  | 0, hj => simp at hj; subst hj; simp [Addr.add]

theorem Ybad.info5 : (Ybad.prog.info? 5).map (fun i => (i.zero, i.size, i.bytes)) = some (some (.int .u8 0), 1, 1) := by kernel_rfl
theorem Ybad.info9 : (Ybad.prog.info? 9).map (fun i => (i.zero, i.size, i.bytes)) = some (some (.string ByteArray.empty), 1, 16) := by kernel_rfl

section
variable (w : World)

/-- One step more: what is appended is laid behind, in a row of the call's own. -/
theorem run_append_buf (B : Nat) (ty : TypeId) (v : Value) (n : Nat) (xs : List Value) (hbuf : Buf B w v n xs)
    (a : Addr) (m c : Nat) (news : List Value) (hl : news.length = m) (hm : 0 < m) (hnews : ∀ j u, news[j]? = some u → w.cell? (a.add j) = some u) (h1 : ∀ u ∈ news, u.oneCell' = true)
    (h63 : n + m ≤ 140737488355328) (hbase : B ≤ w.heap.size) :
    ∃ v' w', (Builtin.append_ #[22, 22] ty #[v, .slice (some a) m c]).run Ybad.prog w = .ok v' w' ∧ w'.ownsRow B 5 1 v' (n + m) (xs ++ news) ∧ Below B w w' := by
  obtain ⟨i0, hi, hz0, hz1, hz2⟩ := info_parts Ybad.info5
  rcases hbuf with ⟨hxl, b, rfl, hb, hc⟩ | hown
  · have hs : Src Ybad.prog i0.size 22 (.slice (some a) m c) m news w := Src.ofSlice w Ybad.underlying22 a m c news (by rw [hz1, hl, Nat.mul_one]) hnews h1
    have hold := run_firstCells_some (P := Ybad.prog) w.drew i0.size n b n n xs (by rw [hz1, hxl, Nat.mul_one]) (by simpa using hc)
    have hr := run_append_grow_src (P := Ybad.prog) w 22 22 ty 5 i0 (.int .u8 0) Ybad.underlying22 hi hz0 (some b) n n xs hold (.slice (some a) m c) m news hs (by omega) (by omega) (growslice_fits (by omega) (by rw [hz2]; omega))
    have hge := grownCap_ge w (n + m) n 5
    have hcm := grownCap_le_maxLen w (n + m) n 5 (by unfold maxLen; omega)
    have hlen : (xs ++ news).length = (n + m) * 1 := by rw [List.length_append, hxl, hl, Nat.mul_one]
    refine ⟨_, _, hr, ⟨hlen, .inr ⟨w.heap.size, _, _, rfl, hbase, heap_alloc_new w.drew _, hge, hcm, ?_, ?_⟩⟩, ((Below.refl B w).drew).alloc hbase _⟩
    · have hz1' : (Value.int IntKind.u8 0).cells.size = 1 := rfl
      simp only [Array.size_append, List.size_toArray, size_zeroCells, hz1', hlen]
      omega
    · rw [Array.toList_append, ← hlen]
      exact List.take_left
  · obtain ⟨v', w', hr, h2, h3, _⟩ := run_append_own (P := Ybad.prog) w B 22 ty 5 i0 (.int .u8 0) 1 1 Ybad.underlying22 hi hz0 hz1 hz2 rfl (by decide) v n xs hown a m c news (by rw [hl, Nat.mul_one]) hnews h1 (by unfold maxLen; omega) (by omega) hbase
    exact ⟨v', w', hr, h2, (Below.refl B w).grown h3 hbase (fun k hk => (hown.lt k hk).1)⟩

theorem wpList_append_buf {ops : Array Oper} {rest : List Oper} {o : Oper} {a : Act} {Q : Exit → Act → World → Prop} (hgd : o.guard = none) (s x : Operand)
    (ho : o.op = .call { callee := .builtin .append, args := #[s, x], argTypes := #[22, 22] })
    (B : Nat) (v : Value) (n : Nat) (xs : List Value) (hs : a.eval s = v) (hbuf : Buf B w v n xs)
    (ad : Addr) (m c : Nat) (news : List Value) (hx : a.eval x = .slice (some ad) m c) (hl : news.length = m) (hm : 0 < m) (hnews : ∀ j u, news[j]? = some u → w.cell? (ad.add j) = some u) (h1 : ∀ u ∈ news, u.oneCell' = true)
    (h63 : n + m ≤ 140737488355328) (hbase : B ≤ w.heap.size)
    (h : ∀ v' w', w'.ownsRow B 5 1 v' (n + m) (xs ++ news) → Below B w w' → wpList Ybad.prog ops Q rest (a.put o.dst v') w') : wpList Ybad.prog ops Q (o :: rest) a w := by
  refine wpList_plain hgd fun K hK => ?_
  obtain ⟨v', w', hr, h2, h3⟩ := run_append_buf w B o.type v n xs hbuf ad m c news hl hm hnews h1 h63 hbase
  unfold Oper.wp execOp
  simp only [ho, resolve, invoke, builtin, Sem.run_bind, Sem.run_pure, Result.andThen_ok, List.map_toArray, List.map_cons, List.map_nil, hs, hx, hr]
  exact hK _ _ (h v' w' h2 h3)
end

/-! ### The chain of locations, the leaf first -/

def Chain (w : World) : List (ByteArray × Int) → Option Addr → Prop
  | [], p => p = none
  | (s, e) :: rest, p => ∃ b q, p = some ⟨b, 0, none⟩ ∧ w.heap[b]? = some (.cells #[.pointer q, .string s, .int .i64 e] 61 (0, 0)) ∧ Chain w rest q

theorem Chain.kept {w w' : World} (h : ∀ (b : Nat) (c : Array Value), w.heap[b]? = some (Obj.cells c 61 (0, 0)) → w'.heap[b]? = some (Obj.cells c 61 (0, 0))) : ∀ {l : List (ByteArray × Int)} {p : Option Addr}, Chain w l p → Chain w' l p
  | [], _, hc => hc
  | (_, _) :: _, _, ⟨b, q, hp, hb, hr⟩ => ⟨b, q, hp, h b _ hb, Chain.kept h hr⟩

theorem heap_lt {w : World} {b : Nat} {o : Obj} (h : w.heap[b]? = some o) : b < w.heap.size := (Array.getElem?_eq_some_iff.1 h).1

theorem Chain.below {w w' : World} {l : List (ByteArray × Int)} {p : Option Addr} (h : Chain w l p) (hb : Below w.heap.size w w') : Chain w' l p :=
  h.kept fun b _ hc => (hb.block b (heap_lt hc)).trans hc

theorem cells61 {w : World} {b : Nat} {q : Option Addr} {s : ByteArray} {e : Int} (h : w.heap[b]? = some (.cells #[.pointer q, .string s, .int .i64 e] 61 (0, 0))) :
    w.cell? ⟨b, 0, none⟩ = some (.pointer q) ∧ w.cell? ⟨b, 1, none⟩ = some (.string s) ∧ w.cell? ⟨b, 2, none⟩ = some (.int .i64 e) := by
  refine ⟨?_, ?_, ?_⟩ <;> rw [cell_of_row w b _ _ 61 (0, 0) h] <;> rfl

/-! ### What is written -/

def escB (c : UInt8) : List UInt8 := if c = 126 then [126, 48] else if c = 47 then [126, 49] else [c]
def esc (l : List UInt8) : List UInt8 := l.flatMap escB
def seg (st : ByteArray × Int) : List UInt8 := 47 :: (if 0 ≤ st.2 then Lib.itoa st.2 else esc st.1.data.toList)
def out : List (ByteArray × Int) → List UInt8
  | [] => []
  | st :: rest => out rest ++ seg st

/-- Bytes as cells. -/
def bc (l : List UInt8) : List Value := l.map fun b => Value.int .u8 (b.toNat : Int)
theorem bc_append (a b : List UInt8) : bc (a ++ b) = bc a ++ bc b := by simp [bc]
theorem bc_length (a : List UInt8) : (bc a).length = a.length := by simp [bc]

end Go.Proofs.YbulkcmzyDoor
