/-
  THE WALK over LawS4445CCarry.
-/
import Derived.Test.YbulkcnamOk
namespace Go.Proofs.Ybulkcnam
open Go.RowKit

/-- A slice of bytes, as the shell says it. -/
theorem raw_of {w : World} {a : Option Addr} {len cap : Nat} {zs : List Int} (h : (a = none ∧ len = 0 ∧ cap = 0 ∧ zs = []) ∨
    ∃ x, a = some x ∧ len ≤ cap ∧ cap ≤ maxLen ∧ zs.length = cap ∧ (∀ i, i < zs.length → w.cell? (x.add i) = some (.int .u8 (zs.getD i 0))) ∧ ∀ n ∈ zs, (Lit.int .u8 n).wf = true) :
    Raw w a len (zs.take len) := by
  rcases h with ⟨rfl, rfl, rfl, rfl⟩ | ⟨⟨b, off, sp⟩, rfl, h1, h2, h3, h4, h5⟩
  · exact ⟨rfl, fun h => by omega, fun j hj => by omega⟩
  · have hg : ∀ j, j < len → (zs.take len).getD j 0 = zs.getD j 0 := by
      intro j hj
      simp [List.getD, hj]
    refine ⟨by rw [List.length_take]; omega, fun hp => ?_, fun j hj => ?_⟩
    · have h0 := h4 0 (by omega)
      have hsp : sp = none := by
        simp only [Addr.add, if_true] at h0
        unfold World.cell? at h0
        split at h0
        · cases sp with
          | none => rfl
          | some s => simp at h0
        · cases h0
      subst hsp
      refine ⟨b, off, rfl, ?_, fun j hj => ?_⟩
      · simp only [Addr.add, if_true] at h0
        unfold World.cell? at h0
        split at h0
        · rename_i hh; exact heap_lt hh
        · cases h0
      · have := h4 j (by omega)
        rw [hg j hj]
        cases j with
        | zero => simpa [Addr.add] using this
        | succ j => simpa [Addr.add] using this
    · rw [hg j hj]
      have hm : zs.getD j 0 ∈ zs := by
        have : j < zs.length := by omega
        simp [List.getD, this]
      have := h5 _ hm
      generalize zs.getD j 0 = z at this
      have hmin : IntKind.u8.min = 0 := rfl
      have hmax : IntKind.u8.max = 255 := rfl
      simp [Lit.wf, hmin, hmax] at this
      omega

theorem fi_zero : Fl.fi 0 = 0 := by decide +kernel
theorem wsOf_one {vs : List Nat} (h : ∀ v ∈ vs, 1 ≤ v ∧ v ≤ 16) : wsOf 4607182418800017408 vs = vs.map Fl.fi := by
  unfold wsOf
  apply List.map_congr_left
  intro v hv
  unfold fmul
  have := h v hv
  rw [Fl.fi_mul_one v (by omega), Option.getD_some]
theorem vsOf_mem (a0 : Int) (zs : List Int) : ∀ v ∈ vsOf a0 zs, 1 ≤ v ∧ v ≤ 16 := by
  intro v hv
  rcases List.mem_cons.1 hv with rfl | hv
  · exact vOf_bound _
  · obtain ⟨z, _, rfl⟩ := List.mem_map.1 hv
    exact vOf_bound z

/-- The second weights. -/
def byteAt (a0 : Int) (zs : List Int) (i : Nat) : Int := if zs.length = 0 then a0 else zs.getD (i % zs.length) 0
def vs2Of (a0 : Int) (zs : List Int) (n : Nat) : List Nat := (List.range n).map fun i => vOf (byteAt a0 zs i)
theorem vs2Of_length (a0 : Int) (zs : List Int) (n : Nat) : (vs2Of a0 zs n).length = n := by simp [vs2Of]
theorem vs2Of_mem (a0 : Int) (zs : List Int) (n : Nat) : ∀ v ∈ vs2Of a0 zs n, 1 ≤ v ∧ v ≤ 16 := by
  intro v hv
  obtain ⟨z, _, rfl⟩ := List.mem_map.1 hv
  exact vOf_bound _
theorem getD_map {l : List Nat} {i : Nat} (f : Nat → Nat) (h : i < l.length) : (l.map f).getD i 0 = f (l.getD i 0) := by simp [List.getD, h]
theorem vs2Of_at {a0 : Int} {zs : List Int} {n i : Nat} (h : i < n) : (vs2Of a0 zs n).getD i 0 = vOf (byteAt a0 zs i) := by simp [vs2Of, List.getD, h]
theorem vs2Of_get {a0 : Int} {zs : List Int} {n i : Nat} (h : i < n) : ((vs2Of a0 zs n).map Fl.fi).getD i 0 = Fl.fi (vOf (byteAt a0 zs i)) := by
  rw [getD_map Fl.fi (by rw [vs2Of_length]; exact h), vs2Of_at h]

/-- One count is raised. -/
theorem cn_step {cn : List Nat} {i k : Nat} (hi : i < cn.length) (hk : k < 64) (hc : ∀ c ∈ cn, c ≤ k) : (cn.map Fl.fi).set i (fadd ((cn.map Fl.fi).getD i 0) 4607182418800017408) = (cn.set i (cn.getD i 0 + 1)).map Fl.fi := by
  have hm : cn.getD i 0 ∈ cn := by simp [List.getD, hi]
  have e : (cn.map Fl.fi).getD i 0 = Fl.fi (cn.getD i 0) := getD_map Fl.fi hi
  rw [e, fadd_fi (by have := hc _ hm; omega), List.map_set]
theorem cn_mem {cn : List Nat} {i k : Nat} (hi : i < cn.length) (hc : ∀ c ∈ cn, c ≤ k) : ∀ c ∈ cn.set i (cn.getD i 0 + 1), c ≤ k + 1 := by
  intro c hm
  rcases List.mem_or_eq_of_mem_set hm with h | h
  · have := hc c h; omega
  · have := hc (cn.getD i 0) (by simp [List.getD, hi])
    omega

/-- A new order. -/
theorem ord_new {w : World} {ob : Nat} (hb : ob < w.heap.size) (h : w.heap[ob]? = some (.cells #[.slice none 0 0, .slice none 0 0, .float .f64 0, .float .f64 0, .slice none 0 0, .slice none 0 0] 34 (0, 0))) :
    Ord w (fun k => k = ob) ob [] [] 0 0 [] [] := by
  refine ⟨_, _, _, _, ⟨fun k hk => hk ▸ hb, rfl, h, ⟨rfl, .inl ⟨rfl, rfl⟩⟩, ⟨rfl, .inl ⟨rfl, rfl⟩⟩, ⟨rfl, .inl ⟨rfl, rfl⟩⟩, ⟨rfl, .inl ⟨rfl, rfl⟩⟩, ?_, ?_, ?_, ?_, ?_, ?_⟩⟩ <;> intro k hk <;> simp [Value.ownBlock] at hk

theorem New.off {w : World} {F F' : Nat → Prop} {P : Nat → Prop} (hn : New w F F') (h : ∀ k, F k → P k) (hp : ∀ k, w.heap.size ≤ k → P k) : ∀ k, F' k → P k :=
  fun k hk => (hn k hk).elim (h k) (hp k)

theorem lead_none (n : Nat) : leadL [] [] 0 n = (List.replicate n 0).map Fl.fi := by
  show leadK [] [] 0 n 0 = _
  rw [leadK_zero, List.map_replicate, fi_zero]

theorem once_start (lead shs : List Nat) (slack n : Nat) : Once (waitK lead shs slack n) [] n := by
  unfold Once
  rw [List.append_nil]
  exact waitK_perm _ _ _ _

theorem lead_get {sh pk : List Nat} {picks n i : Nat} (h : i < n) (h2 : sh.length = n) : (leadL sh pk picks n).getD i 0 = fsub (pk.getD i 0) (fmul picks (sh.getD i 0)) := by
  unfold leadL leadK
  simp [List.getD, h, h2]

end Go.Proofs.Ybulkcnam
