/-
  WHAT A STORE INTO ONE FIELD OF A weightedOrder DOES TO ITS STATE. No Go function is walked here.
-/
import Derived.Test.YbulkcnamMax
namespace Go.Proofs.Ybulkcnam
open Go.RowKit

section
variable {w : World} {F : Nat → Prop} {ob : Nat} {sh pk : List Nat} {picks slack : Nat} {wt du : List (Nat × Nat)} {shv pkv wtv duv : Value}

/-- Worlds that differ off the footprint alone. -/
theorem OrdV.keep {w' : World} {S : Nat → Prop} (h : OrdV w F ob sh pk picks slack wt du shv pkv wtv duv) (hf : Fr w w' S) (hS : ∀ k, F k → ¬ S k) : OrdV w' F ob sh pk picks slack wt du shv pkv wtv duv :=
  ⟨fun k hk => Nat.lt_of_lt_of_le (h.lt k hk) hf.size, h.fob, (hf.block ob (h.lt ob h.fob) (hS ob h.fob)).trans h.blk, hf.owns h.osh (fun g hg => hS g (h.fsh g hg)), hf.owns h.opk (fun g hg => hS g (h.fpk g hg)), hf.owns h.owt (fun g hg => hS g (h.fwt g hg)), hf.owns h.odu (fun g hg => hS g (h.fdu g hg)), h.fsh, h.fpk, h.fwt, h.fdu, h.d1, h.d2⟩

theorem OrdV.drewN (h : OrdV w F ob sh pk picks slack wt du shv pkv wtv duv) (q : Nat) : OrdV (w.drewN q) F ob sh pk picks slack wt du shv pkv wtv duv :=
  ⟨h.lt, h.fob, h.blk, h.osh, h.opk, h.owt, h.odu, h.fsh, h.fpk, h.fwt, h.fdu, h.d1, h.d2⟩

theorem OrdV.neOb_sh (h : OrdV w F ob sh pk picks slack wt du shv pkv wtv duv) : shv.ownBlock ≠ some ob := owns_ne h.osh h.blk (by decide)
theorem OrdV.neOb_pk (h : OrdV w F ob sh pk picks slack wt du shv pkv wtv duv) : pkv.ownBlock ≠ some ob := owns_ne h.opk h.blk (by decide)
theorem OrdV.neOb_wt (h : OrdV w F ob sh pk picks slack wt du shv pkv wtv duv) : wtv.ownBlock ≠ some ob := owns_ne h.owt h.blk (by decide)
theorem OrdV.neOb_du (h : OrdV w F ob sh pk picks slack wt du shv pkv wtv duv) : duv.ownBlock ≠ some ob := owns_ne h.odu h.blk (by decide)

theorem OrdV.setSlack (h : OrdV w F ob sh pk picks slack wt du shv pkv wtv duv) (v : Nat) : OrdV (w.setCell ⟨ob, 3, none⟩ (.float .f64 v)) F ob sh pk picks v wt du shv pkv wtv duv :=
  ⟨fun k hk => by have := h.lt k hk; simpa [World.setCell] using this, h.fob, heap_setCell_same w ob 3 _ 34 _ h.blk, owns_setOther h.osh h.neOb_sh _, owns_setOther h.opk h.neOb_pk _, owns_setOther h.owt h.neOb_wt _, owns_setOther h.odu h.neOb_du _, h.fsh, h.fpk, h.fwt, h.fdu, h.d1, h.d2⟩
theorem OrdV.setPicks (h : OrdV w F ob sh pk picks slack wt du shv pkv wtv duv) (v : Nat) : OrdV (w.setCell ⟨ob, 2, none⟩ (.float .f64 v)) F ob sh pk v slack wt du shv pkv wtv duv :=
  ⟨fun k hk => by have := h.lt k hk; simpa [World.setCell] using this, h.fob, heap_setCell_same w ob 2 _ 34 _ h.blk, owns_setOther h.osh h.neOb_sh _, owns_setOther h.opk h.neOb_pk _, owns_setOther h.owt h.neOb_wt _, owns_setOther h.odu h.neOb_du _, h.fsh, h.fpk, h.fwt, h.fdu, h.d1, h.d2⟩

/-- 'picked' is set to a row that is none of its own yet. -/
theorem OrdV.setPk (h : OrdV w F ob sh pk picks slack wt du shv pkv wtv duv) {v' : Value} {pk' : List Nat} (ho : w.ownsRow 0 27 1 v' pk'.length (fcs pk')) (hn : ∀ k, v'.ownBlock = some k → ¬ F k) :
    OrdV (w.setCell ⟨ob, 1, none⟩ v') (fun k => F k ∨ v'.ownBlock = some k) ob sh pk' picks slack wt du shv v' wtv duv := by
  have hne : v'.ownBlock ≠ some ob := fun e => hn ob e h.fob
  refine ⟨?_, .inl h.fob, heap_setCell_same w ob 1 _ 34 _ h.blk, owns_setOther h.osh h.neOb_sh _, owns_setOther ho hne _, owns_setOther h.owt h.neOb_wt _, owns_setOther h.odu h.neOb_du _, fun k hk => .inl (h.fsh k hk), fun k hk => .inr hk, fun k hk => .inl (h.fwt k hk), fun k hk => .inl (h.fdu k hk), fun k hk e => hn k e (h.fsh k hk), h.d2⟩
  rintro k (hk | hk)
  · have := h.lt k hk; simpa [World.setCell] using this
  · have := (ho.lt k hk).2; simpa [World.setCell] using this

/-- 'share' is set: what it leads to lies where it lay, or in a new block. -/
theorem OrdV.setSh {w1 : World} (h : OrdV w F ob sh pk picks slack wt du shv pkv wtv duv) {v' : Value} {sh' : List Nat} (hf : Fr w w1 (fun k => shv.ownBlock = some k)) (ho : w1.ownsRow 0 27 1 v' sh'.length (fcs sh')) (hs : SameOrNew w shv v') :
    ∃ F', OrdV (w1.setCell ⟨ob, 0, none⟩ v') F' ob sh' pk picks slack wt du v' pkv wtv duv ∧ Fr w (w1.setCell ⟨ob, 0, none⟩ v') F ∧ New w F F' := by
  have hnsh : ∀ k, F k → shv.ownBlock ≠ some k → w1.heap[k]? = w.heap[k]? := fun k hk hn => hf.block k (h.lt k hk) hn
  have hb1 : w1.heap[ob]? = some (.cells #[shv, pkv, .float .f64 picks, .float .f64 slack, wtv, duv] 34 (0, 0)) := (hnsh ob h.fob h.neOb_sh).trans h.blk
  have hne : v'.ownBlock ≠ some ob := owns_ne ho hb1 (by decide)
  have opk1 := hf.owns h.opk (fun g hg e => h.d1 g e hg)
  have owt1 := hf.owns h.owt (fun g hg e => owns_apart h.osh h.owt (by decide) g e hg)
  have odu1 := hf.owns h.odu (fun g hg e => owns_apart h.osh h.odu (by decide) g e hg)
  refine ⟨fun k => F k ∨ v'.ownBlock = some k, ⟨?_, .inl h.fob, heap_setCell_same w1 ob 0 _ 34 _ hb1, owns_setOther ho hne _, owns_setOther opk1 h.neOb_pk _, owns_setOther owt1 h.neOb_wt _, owns_setOther odu1 h.neOb_du _, fun k hk => .inr hk, fun k hk => .inl (h.fpk k hk), fun k hk => .inl (h.fwt k hk), fun k hk => .inl (h.fdu k hk), ?_, h.d2⟩, ?_, ?_⟩
  · rintro k (hk | hk)
    · have := Nat.lt_of_lt_of_le (h.lt k hk) hf.size; simpa [World.setCell] using this
    · have := (ho.lt k hk).2; simpa [World.setCell] using this
  · intro k hk e
    rcases hs with h2 | ⟨g, h2, h3⟩
    · exact h.d1 k (h2 ▸ hk) e
    · rw [hk] at h2
      obtain rfl := Option.some.inj h2
      have := h.lt k (h.fpk k e)
      omega
  · exact (hf.mono (fun k _ hk => h.fsh k hk)).setCell _ _ (fun _ => h.fob)
  · rintro k (hk | hk)
    · exact .inl hk
    · rcases hs with h2 | ⟨g, h2, h3⟩
      · exact .inl (h.fsh k (h2 ▸ hk))
      · rw [hk] at h2
        obtain rfl := Option.some.inj h2
        exact .inr h3

/-- A row cut to no element. -/
theorem owns_cut0 {B : Nat} {e : TypeId} {s n c : Nat} {a : Option Addr} {xs : List Value} (h : w.ownsRow B e s (.slice a n c) n xs) : w.ownsRow B e s (.slice a 0 c) 0 [] := by
  refine ⟨by simp, ?_⟩
  rcases h.2 with ⟨h', -⟩ | ⟨g, cap, cur, h', hb, hh, hn, hm, hs, -⟩
  · simp only [Value.slice.injEq] at h'
    obtain ⟨rfl, rfl, rfl⟩ := h'
    exact .inl ⟨rfl, rfl⟩
  · simp only [Value.slice.injEq] at h'
    obtain ⟨rfl, -, rfl⟩ := h'
    exact .inr ⟨g, c, cur, rfl, hb, hh, Nat.zero_le _, hm, hs, by simp⟩
theorem owns_shape {B : Nat} {e : TypeId} {s n : Nat} {v : Value} {xs : List Value} (h : w.ownsRow B e s v n xs) : ∃ a c, v = .slice a n c := by
  rcases h.2 with ⟨rfl, rfl⟩ | ⟨g, cap, cur, rfl, -⟩
  · exact ⟨_, _, rfl⟩
  · exact ⟨_, _, rfl⟩
theorem ownBlock_len {a : Option Addr} {n m c : Nat} : (Value.slice a n c).ownBlock = (Value.slice a m c).ownBlock := by cases a <;> rfl

theorem OrdV.clearWt {a : Option Addr} {n c : Nat} (h : OrdV w F ob sh pk picks slack wt du shv pkv (.slice a n c) duv) (hn : wt.length = n) : OrdV (w.setCell ⟨ob, 4, none⟩ (.slice a 0 c)) F ob sh pk picks slack [] du shv pkv (.slice a 0 c) duv := by
  subst hn
  refine ⟨fun k hk => by have := h.lt k hk; simpa [World.setCell] using this, h.fob, heap_setCell_same w ob 4 _ 34 _ h.blk, owns_setOther h.osh h.neOb_sh _, owns_setOther h.opk h.neOb_pk _, owns_setOther (owns_cut0 h.owt) (by rw [ownBlock_len]; exact h.neOb_wt) _, owns_setOther h.odu h.neOb_du _, h.fsh, h.fpk, fun k hk => h.fwt k (by rw [ownBlock_len]; exact hk), h.fdu, h.d1, fun k hk => h.d2 k (by rw [ownBlock_len]; exact hk)⟩
theorem OrdV.clearDu {a : Option Addr} {n c : Nat} (h : OrdV w F ob sh pk picks slack wt du shv pkv wtv (.slice a n c)) (hn : du.length = n) : OrdV (w.setCell ⟨ob, 5, none⟩ (.slice a 0 c)) F ob sh pk picks slack wt [] shv pkv wtv (.slice a 0 c) := by
  subst hn
  refine ⟨fun k hk => by have := h.lt k hk; simpa [World.setCell] using this, h.fob, heap_setCell_same w ob 5 _ 34 _ h.blk, owns_setOther h.osh h.neOb_sh _, owns_setOther h.opk h.neOb_pk _, owns_setOther h.owt h.neOb_wt _, owns_setOther (owns_cut0 h.odu) (by rw [ownBlock_len]; exact h.neOb_du) _, h.fsh, h.fpk, h.fwt, fun k hk => h.fdu k (by rw [ownBlock_len]; exact hk), h.d1, fun k hk e => h.d2 k hk (by rw [ownBlock_len]; exact e)⟩
end

end Go.Proofs.Ybulkcnam
