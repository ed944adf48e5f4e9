/-
  THE PLAIN LAW OF THE ROUND TRIP: lists of bytes alone; then what the loops' relations hand on.
-/
import Derived.Test.YbulkcmzyDoorPtr
namespace Go.Proofs.YbulkcmzyDoor
open Go.RowKit

/-- The pointer to a chain of members, the root's member first. -/
def enc (ns : List ByteArray) : List UInt8 := ns.flatMap fun s => 47 :: esc s.data.toList
/-- The chain, the leaf first. -/
def rv (ns : List ByteArray) : List (ByteArray × Int) := ns.reverse.map fun s => (s, -1)

theorem data_size (s : ByteArray) : s.data.toList.length = s.size := by rw [Array.length_toList]; rfl
theorem getD_at {ns : List ByteArray} {j : Nat} (h : j < ns.length) : ns.getD j ByteArray.empty = ns[j] := by simp [List.getD, h]
theorem u8_tilde {c : UInt8} (h : (c.toNat : Int) = 126) : c = 126 := UInt8.toNat_inj.1 (by simp; omega)
theorem u8_slash {c : UInt8} (h : (c.toNat : Int) = 47) : c = 47 := UInt8.toNat_inj.1 (by simp; omega)

theorem rv_snoc (ns : List ByteArray) (s : ByteArray) : rv (ns ++ [s]) = (s, -1) :: rv ns := by simp [rv]
theorem enc_snoc (ns : List ByteArray) (s : ByteArray) : enc (ns ++ [s]) = enc ns ++ (47 :: esc s.data.toList) := by simp [enc]
theorem enc_cons (ns : List ByteArray) (s : ByteArray) : enc (s :: ns) = (47 :: esc s.data.toList) ++ enc ns := by simp [enc]
theorem enc_append (a b : List ByteArray) : enc (a ++ b) = enc a ++ enc b := by simp [enc]

theorem out_rv (ns : List ByteArray) : out (rv ns) = enc ns := by
  have h : ∀ ms : List ByteArray, out (rv ms.reverse) = enc ms.reverse := by
    intro ms
    induction ms with
    | nil => rfl
    | cons s ms ih => rw [List.reverse_cons, rv_snoc, enc_snoc, ← ih]; simp [out, seg]
  have := h ns.reverse
  rwa [List.reverse_reverse] at this

theorem mem_rv {ns : List ByteArray} {st : ByteArray × Int} (h : st ∈ rv ns) : st.1 ∈ ns ∧ st.2 = -1 := by
  simp only [rv, List.mem_map, List.mem_reverse] at h
  obtain ⟨s, hs, rfl⟩ := h
  exact ⟨hs, rfl⟩

theorem esc_len (l : List UInt8) : (esc l).length ≤ 2 * l.length := by
  induction l with
  | nil => simp [esc]
  | cons c l ih =>
    have := escB_len c
    have e : esc (c :: l) = escB c ++ esc l := by simp [esc]
    rw [e, List.length_append, List.length_cons]; omega

theorem enc_len (ns : List ByteArray) (h : ∀ s ∈ ns, s.size ≤ 1024) : (enc ns).length ≤ 2049 * ns.length := by
  induction ns with
  | nil => simp [enc]
  | cons s ns ih =>
    have h1 := ih (fun t ht => h t (List.mem_cons_of_mem _ ht))
    have h2 := h s List.mem_cons_self
    have h3 := esc_len s.data.toList
    have h4 : s.data.toList.length = s.size := data_size s
    rw [enc_cons, List.length_append, List.length_cons, List.length_cons]; omega

/-- The reader has read j names whole, and k bytes of the next; it stands at P. -/
def At (ns : List ByteArray) (j k P : Nat) : Prop :=
  j < ns.length ∧ k ≤ (ns.getD j ByteArray.empty).size ∧ P = (enc (ns.take j)).length + 1 + (esc ((ns.getD j ByteArray.empty).data.toList.take k)).length

theorem At.split {ns : List ByteArray} {j k P : Nat} (h : At ns j k P) :
    ∃ pre, pre.length = P ∧ enc ns = pre ++ (esc ((ns.getD j ByteArray.empty).data.toList.drop k) ++ enc (ns.drop (j + 1))) := by
  obtain ⟨hj, hk, hP⟩ := h
  refine ⟨enc (ns.take j) ++ 47 :: esc ((ns.getD j ByteArray.empty).data.toList.take k), by rw [List.length_append, List.length_cons]; omega, ?_⟩
  have e1 : ns = ns.take j ++ (ns.getD j ByteArray.empty :: ns.drop (j + 1)) := by
    rw [getD_at hj, ← List.drop_eq_getElem_cons hj, List.take_append_drop]
  have e2 : esc ((ns.getD j ByteArray.empty).data.toList) = esc ((ns.getD j ByteArray.empty).data.toList.take k) ++ esc ((ns.getD j ByteArray.empty).data.toList.drop k) := by
    unfold esc
    rw [← List.flatMap_append, List.take_append_drop]
  have e3 : enc ns = enc (ns.take j ++ (ns.getD j ByteArray.empty :: ns.drop (j + 1))) := congrArg enc e1
  rw [e3, enc_append, enc_cons, e2]
  simp

theorem getElem?_pre {α : Type} {pre l : List α} {P : Nat} (h : pre.length = P) (i : Nat) : (pre ++ l)[P + i]? = l[i]? := by
  rw [List.getElem?_append_right (by omega)]
  congr 1
  omega


/-- What lies ahead: a byte of the name (plain, or escaped), or the name is done. -/
theorem At.ahead {ns : List ByteArray} {j k P : Nat} (h : At ns j k P) :
    (∃ hk : k < (ns.getD j ByteArray.empty).size, escB ((ns.getD j ByteArray.empty)[k]) = [(ns.getD j ByteArray.empty)[k]] ∧ ((ns.getD j ByteArray.empty)[k]).toNat ≠ 126 ∧ ((ns.getD j ByteArray.empty)[k]).toNat ≠ 47 ∧
        (enc ns)[P]? = some ((ns.getD j ByteArray.empty)[k]) ∧ At ns j (k + 1) (P + 1)) ∨
    (∃ hk : k < (ns.getD j ByteArray.empty).size, (ns.getD j ByteArray.empty)[k] = 126 ∧ (enc ns)[P]? = some 126 ∧ (enc ns)[P + 1]? = some 48 ∧ At ns j (k + 1) (P + 2)) ∨
    (∃ hk : k < (ns.getD j ByteArray.empty).size, (ns.getD j ByteArray.empty)[k] = 47 ∧ (enc ns)[P]? = some 126 ∧ (enc ns)[P + 1]? = some 49 ∧ At ns j (k + 1) (P + 2)) ∨
    (k = (ns.getD j ByteArray.empty).size ∧ j + 1 < ns.length ∧ (enc ns)[P]? = some 47 ∧ At ns (j + 1) 0 (P + 1)) ∨
    (k = (ns.getD j ByteArray.empty).size ∧ j + 1 = ns.length ∧ P = (enc ns).length) := by
  obtain ⟨pre, hpre, hE⟩ := h.split
  obtain ⟨hj, hk, hP⟩ := h
  by_cases hlt : k < (ns.getD j ByteArray.empty).size
  · have ed : (ns.getD j ByteArray.empty).data.toList.drop k = (ns.getD j ByteArray.empty)[k] :: (ns.getD j ByteArray.empty).data.toList.drop (k + 1) := by
      rw [List.drop_eq_getElem_cons (by rw [data_size]; exact hlt)]; rfl
    have es := esc_snoc _ _ hlt
    have en : esc ((ns.getD j ByteArray.empty)[k] :: (ns.getD j ByteArray.empty).data.toList.drop (k + 1)) = escB ((ns.getD j ByteArray.empty)[k]) ++ esc ((ns.getD j ByteArray.empty).data.toList.drop (k + 1)) := by simp [esc]
    rw [ed, en] at hE
    have at0 : ∀ i, i < (escB ((ns.getD j ByteArray.empty)[k])).length → (enc ns)[P + i]? = (escB ((ns.getD j ByteArray.empty)[k]))[i]? := by
      intro i hi
      rw [hE, getElem?_pre hpre, List.append_assoc, List.getElem?_append_left hi]
    have next : At ns j (k + 1) (P + (escB ((ns.getD j ByteArray.empty)[k])).length) := ⟨hj, hlt, by rw [es, List.length_append]; omega⟩
    by_cases h1 : (((ns.getD j ByteArray.empty)[k]).toNat : Int) = 126
    · have e := escB_tilde h1
      rw [e] at at0 next
      exact .inr (.inl ⟨hlt, u8_tilde h1, at0 0 (by decide), at0 1 (by decide), next⟩)
    · by_cases h2 : (((ns.getD j ByteArray.empty)[k]).toNat : Int) = 47
      · have e := escB_slash h2
        rw [e] at at0 next
        exact .inr (.inr (.inl ⟨hlt, u8_slash h2, at0 0 (by decide), at0 1 (by decide), next⟩))
      · have e := escB_else h1 h2
        rw [e] at at0 next
        exact .inl ⟨hlt, e, by omega, by omega, at0 0 (by simp), next⟩
  · have hk' : k = (ns.getD j ByteArray.empty).size := by omega
    have ed : (ns.getD j ByteArray.empty).data.toList.drop k = [] := List.drop_eq_nil_of_le (by rw [data_size]; omega)
    have ee : esc (([] : List UInt8)) = [] := rfl
    rw [ed, ee, List.nil_append] at hE
    by_cases hl : j + 1 < ns.length
    · have e2 : ns.drop (j + 1) = ns[j + 1] :: ns.drop (j + 1 + 1) := List.drop_eq_getElem_cons hl
      rw [e2, enc_cons] at hE
      refine .inr (.inr (.inr (.inl ⟨hk', hl, ?_, hl, Nat.zero_le _, ?_⟩)))
      · have := getElem?_pre (l := (47 :: esc ns[j + 1].data.toList) ++ enc (ns.drop (j + 1 + 1))) hpre 0
        rw [hE]
        exact this
      · have e3 : ns.take (j + 1) = ns.take j ++ [ns.getD j ByteArray.empty] := by
          rw [List.take_succ_eq_append_getElem hj, getD_at hj]
        have e4 : (ns.getD j ByteArray.empty).data.toList.take k = (ns.getD j ByteArray.empty).data.toList := List.take_of_length_le (by rw [data_size]; omega)
        rw [e4] at hP
        rw [e3, enc_snoc, List.length_append, List.length_cons, hP]
        simp [esc]
        omega
    · refine .inr (.inr (.inr (.inr ⟨hk', by omega, ?_⟩)))
      rw [List.drop_eq_nil_of_le (by omega)] at hE
      rw [hE]
      simp [enc, hpre]

theorem At.lt {ns : List ByteArray} {j k P : Nat} (h : At ns j k P) : P ≤ (enc ns).length := by
  obtain ⟨pre, hpre, hE⟩ := h.split
  rw [hE, List.length_append]; omega

theorem At.start {ns : List ByteArray} (h : 0 < ns.length) : At ns 0 0 1 := ⟨h, Nat.zero_le _, by simp [enc, esc]⟩

theorem enc_head {ns : List ByteArray} (h : 0 < ns.length) : (enc ns)[0]? = some 47 := by
  cases ns with
  | nil => simp at h
  | cons s ns => rw [enc_cons]; rfl

/-! ### Memory: what the loops hand on -/

/-- Another row, of another element type, is kept while this one grows. -/
theorem owns_other {w w' : World} {B B' e e' : Nat} {t c : Value} {n m : Nat} {xs ys : List Value} (h : w.ownsRow B e 1 t n xs) (hc : w.ownsRow B' e' 1 c m ys) (hne : e ≠ e') (hg : w.grownBy w' c.ownBlock) : w'.ownsRow B e 1 t n xs := by
  refine h.kept hg ?_
  rcases h.2 with ⟨rfl, _⟩ | ⟨g, cap, cur, rfl, _, hgg, _⟩
  · exact .inl rfl
  · right
    intro he
    rcases hc.2 with ⟨rfl, _⟩ | ⟨g', cap', cur', rfl, _, hgg', _⟩
    · simp [Value.ownBlock] at he
    · simp [Value.ownBlock] at he
      subst he
      rw [hgg] at hgg'
      simp at hgg'
      exact hne hgg'.2

/-- The owned bytes as a string. -/
theorem conv_own (w : World) {B : Nat} {v : Value} {l : List UInt8} (h : w.ownsRow B 5 1 v l.length (bc l)) :
    (convert 22 9 v).run Ybad.prog w = .ok (.string ⟨l.toArray⟩) w := by
  rcases h.2 with ⟨rfl, h0⟩ | ⟨g, cap, cur, rfl, _⟩
  · have hl : l = [] := List.eq_nil_of_length_eq_zero h0
    subst hl
    exact run_convert_bytes_nil (P := Ybad.prog) w 22 5 Ybad.underlying22 Ybad.underlying5 0 0 9 Ybad.underlying9
  · exact run_convert_bytes_back (P := Ybad.prog) w 22 9 5 ⟨g, 0, none⟩ cap l Ybad.underlying22 Ybad.underlying5 Ybad.underlying9 (fun j hj => h.cells (g := g) rfl j _ (by simp [bc, hj]))

/-- One byte more of the name: the bytes read so far grow, the names read so far stand. -/
theorem rel_cur {w1 wr w3 : World} {B j k : Nat} {toks cur v' : Value} {xs : List Value} {s : ByteArray} {o : Obj} {c : Int} (hk : k < s.size) (hcx : c = (s[k].toNat : Int)) (hB : B ≤ wr.heap.size)
    (hT : wr.ownsRow B 9 1 toks j xs) (hC : wr.ownsRow B 5 1 cur k (bc (s.data.toList.take k))) (hbl : Below B w1 wr)
    (hown3 : w3.ownsRow B 5 1 v' (k + 1) (bc (s.data.toList.take k) ++ [.int .u8 c])) (hgr : (wr.alloc o).grownBy w3 cur.ownBlock) :
    w3.ownsRow B 9 1 toks j xs ∧ w3.ownsRow B 5 1 v' (k + 1) (bc (s.data.toList.take (k + 1))) ∧ Below B w1 w3 := by
  refine ⟨owns_other (hT.alloc o) (hC.alloc o) (by decide) hgr, ?_, (hbl.alloc hB o).grown hgr (by simp; omega) (fun k hk => (hC.lt k hk).1)⟩
  have e : s.data.toList.take (k + 1) = s.data.toList.take k ++ [s[k]] := by
    rw [List.take_succ_eq_append_getElem (by rw [data_size]; exact hk)]; rfl
  rw [e, bc_append]
  simpa [bc, hcx] using hown3

/-- A name more: it is laid behind the names; the bytes begin anew. -/
theorem rel_tok {w1 wr w3 : World} {B j : Nat} {toks v' : Value} {ss : List ByteArray} {s : ByteArray} {o : Obj} (hj : j < ss.length) (hs : s = ss.getD j ByteArray.empty) (hB : B ≤ wr.heap.size)
    (hT : wr.ownsRow B 9 1 toks j ((ss.take j).map Value.string)) (hbl : Below B w1 wr)
    (hown3 : w3.ownsRow B 9 1 v' (j + 1) ((ss.take j).map Value.string ++ [.string s])) (hgr : (wr.alloc o).grownBy w3 toks.ownBlock) :
    w3.ownsRow B 9 1 v' (j + 1) ((ss.take (j + 1)).map Value.string) ∧ Below B w1 w3 := by
  refine ⟨?_, (hbl.alloc hB o).grown hgr (by simp; omega) (fun k hk => (hT.lt k hk).1)⟩
  rw [List.take_succ_eq_append_getElem hj, List.map_append, List.map_singleton, ← getD_at hj, ← hs]
  exact hown3

theorem str_whole (s : ByteArray) : (⟨s.data.toList.toArray⟩ : ByteArray) = s := by simp

theorem conv_name (w : World) {B : Nat} {v : Value} {s : ByteArray} {k : Nat} (hk : k = s.size) (h : w.ownsRow B 5 1 v k (bc (s.data.toList.take k))) :
    (convert 22 9 v).run Ybad.prog w = .ok (.string s) w := by
  have e : s.data.toList.take k = s.data.toList := List.take_of_length_le (by rw [data_size]; omega)
  rw [e] at h
  have hl : k = s.data.toList.length := by rw [data_size, hk]
  rw [hl] at h
  have := conv_own w h
  rwa [str_whole] at this

end Go.Proofs.YbulkcmzyDoor
