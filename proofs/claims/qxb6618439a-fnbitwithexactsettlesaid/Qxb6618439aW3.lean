import Derived.Test.Qxb6618439aW2
import Derived.Test.Qxb6618439aPlain
namespace Go.Proofs.Qxb6618439a
open Go.RowKit

/-- The encoder's block. -/
def encCells (s : EncSt) (oa : Option Addr) (oc : Nat) : Array Value := #[.int .u64 s.low, .int .u32 s.rng, .int .u8 s.cache, .int .i64 s.pending, .bool s.started, .slice oa s.out.length oc]
/-- The encoder at block E, in the world w; w0: where the call began, v0: the slice that its field held there. -/
structure Enc (E : Nat) (w0 : World) (v0 : Value) (s : EncSt) (oa : Option Addr) (oc : Nat) (w : World) : Prop where
  blk : w.heap[E]? = some (.cells (encCells s oa oc) 40 (0, 0))
  own : Own w (.slice oa s.out.length oc) s.out
  tch : Touch (fun k => k = E ∨ v0.ownBlock = some k) w0 w
  fresh : Value.ownBlock (.slice oa s.out.length oc) = v0.ownBlock ∨ ∀ g, Value.ownBlock (.slice oa s.out.length oc) = some g → w0.heap.size ≤ g

section
variable {E : Nat} {w0 : World} {v0 : Value} {s : EncSt} {oa : Option Addr} {oc : Nat} {w : World}

theorem Enc.c0 (h : Enc E w0 v0 s oa oc w) : w.cell? ⟨E, 0, none⟩ = some (.int .u64 s.low) := by rw [cell_of_row _ _ _ _ _ _ h.blk]; rfl
theorem Enc.c1 (h : Enc E w0 v0 s oa oc w) : w.cell? ⟨E, 1, none⟩ = some (.int .u32 s.rng) := by rw [cell_of_row _ _ _ _ _ _ h.blk]; rfl
theorem Enc.c2 (h : Enc E w0 v0 s oa oc w) : w.cell? ⟨E, 2, none⟩ = some (.int .u8 s.cache) := by rw [cell_of_row _ _ _ _ _ _ h.blk]; rfl
theorem Enc.c3 (h : Enc E w0 v0 s oa oc w) : w.cell? ⟨E, 3, none⟩ = some (.int .i64 s.pending) := by rw [cell_of_row _ _ _ _ _ _ h.blk]; rfl
theorem Enc.c4 (h : Enc E w0 v0 s oa oc w) : w.cell? ⟨E, 4, none⟩ = some (.bool s.started) := by rw [cell_of_row _ _ _ _ _ _ h.blk]; rfl
theorem Enc.c5 (h : Enc E w0 v0 s oa oc w) : w.cell? ⟨E, 5, none⟩ = some (.slice oa s.out.length oc) := by rw [cell_of_row _ _ _ _ _ _ h.blk]; rfl
theorem Enc.fz (h : Enc E w0 v0 s oa oc w) (i : Nat) : w.frozen? ⟨E, i, none⟩ = false := frozen_of_row _ _ _ _ _ h.blk
theorem Enc.lt (h : Enc E w0 v0 s oa oc w) : E < w.heap.size := lt_of_block h.blk
/-- The row of bytes lies in another block. -/
theorem Enc.ne (h : Enc E w0 v0 s oa oc w) : ∀ g, Value.ownBlock (.slice oa s.out.length oc) = some g → g ≠ E := by
  intro g hg e
  subst e
  rcases h.own.cases with ⟨h1, _⟩ | ⟨g', cap, cur, h1, hh, _⟩
  · rw [h1] at hg; simp [Value.ownBlock] at hg
  · rw [h1] at hg
    have : g' = g := by simpa [Value.ownBlock] using hg
    subst this
    have hb := h.blk
    rw [hh] at hb; simp at hb
/-- A store into one block. -/
theorem touchE (w : World) (b i : Nat) (u : Value) : Touch (fun k => k = b) w (w.setCell ⟨b, i, none⟩ u) := (Touch.refl (fun k => k = b) w).setCell (p := ⟨b, i, none⟩) (fun _ => rfl) u
theorem own_setE (h : Enc E w0 v0 s oa oc w) (i : Nat) (u : Value) : Own (w.setCell ⟨E, i, none⟩ u) (.slice oa s.out.length oc) s.out :=
  h.own.kept (S := fun k => k = E) (touchE _ _ _ _) (fun g hg => h.ne g hg)
theorem Enc.setLow (h : Enc E w0 v0 s oa oc w) (x : Int) : Enc E w0 v0 { s with low := x } oa oc (w.setCell ⟨E, 0, none⟩ (.int .u64 x)) :=
  ⟨by rw [heap_setCell_same _ _ _ _ _ _ h.blk]; rfl, own_setE h _ _, h.tch.setCell (fun _ => .inl rfl) _, h.fresh⟩
theorem Enc.setRng (h : Enc E w0 v0 s oa oc w) (x : Int) : Enc E w0 v0 { s with rng := x } oa oc (w.setCell ⟨E, 1, none⟩ (.int .u32 x)) :=
  ⟨by rw [heap_setCell_same _ _ _ _ _ _ h.blk]; rfl, own_setE h _ _, h.tch.setCell (fun _ => .inl rfl) _, h.fresh⟩
theorem Enc.setCache (h : Enc E w0 v0 s oa oc w) (x : Int) : Enc E w0 v0 { s with cache := x } oa oc (w.setCell ⟨E, 2, none⟩ (.int .u8 x)) :=
  ⟨by rw [heap_setCell_same _ _ _ _ _ _ h.blk]; rfl, own_setE h _ _, h.tch.setCell (fun _ => .inl rfl) _, h.fresh⟩
theorem Enc.setPending (h : Enc E w0 v0 s oa oc w) (x : Nat) : Enc E w0 v0 { s with pending := x } oa oc (w.setCell ⟨E, 3, none⟩ (.int .i64 x)) :=
  ⟨by rw [heap_setCell_same _ _ _ _ _ _ h.blk]; rfl, own_setE h _ _, h.tch.setCell (fun _ => .inl rfl) _, h.fresh⟩
theorem Enc.setStarted (h : Enc E w0 v0 s oa oc w) (x : Bool) : Enc E w0 v0 { s with started := x } oa oc (w.setCell ⟨E, 4, none⟩ (.bool x)) :=
  ⟨by rw [heap_setCell_same _ _ _ _ _ _ h.blk]; rfl, own_setE h _ _, h.tch.setCell (fun _ => .inl rfl) _, h.fresh⟩
theorem Enc.drew (h : Enc E w0 v0 s oa oc w) : Enc E w0 v0 s oa oc w.drew := ⟨h.blk, h.own, h.tch.drew, h.fresh⟩
theorem Enc.alloc (h : Enc E w0 v0 s oa oc w) (o : Obj) : Enc E w0 v0 s oa oc (w.alloc o) :=
  ⟨by rw [Below.heap_alloc _ _ _ h.lt]; exact h.blk, h.own.kept ((Touch.refl (fun _ => False) _).alloc o) (fun _ _ f => f), h.tch.alloc o, h.fresh⟩
/-- Another world in which neither the encoder's block nor its row has turned, and another slice of the same bytes in the field. -/
theorem Enc.newOut (h : Enc E w0 v0 s oa oc w) {w1 : World} (ht : Touch (fun _ => False) w w1) {oa' : Option Addr} {oc' : Nat} (ho : Own w1 (.slice oa' s.out.length oc') s.out)
    (hf : Value.slice oa' s.out.length oc' = .slice oa s.out.length oc ∨ ∀ g, Value.ownBlock (.slice oa' s.out.length oc') = some g → w.heap.size ≤ g) :
    Enc E w0 v0 s oa' oc' (w1.setCell ⟨E, 5, none⟩ (.slice oa' s.out.length oc')) := by
  have hb : w1.heap[E]? = some (.cells (encCells s oa oc) 40 (0, 0)) := by rw [ht.block E h.lt (fun f => f)]; exact h.blk
  have h1 : Enc E w0 v0 s oa oc w1 := ⟨hb, h.own.kept ht (fun _ _ f => f), h.tch.trans ht (fun _ _ f => f.elim), h.fresh⟩
  refine ⟨by rw [heap_setCell_same _ _ _ _ _ _ hb]; rfl, ?_, h1.tch.setCell (fun _ => .inl rfl) _, ?_⟩
  · refine ho.kept (S := fun k => k = E) (touchE _ _ _ _) (fun g hg e => ?_)
    rcases hf with hf | hf
    · rw [hf] at hg; exact h.ne g hg e
    · have := hf g hg; have := h.lt; omega
  · rcases hf with hf | hf
    · rw [hf]; exact h.fresh
    · exact .inr fun g hg => Nat.le_trans h.tch.size (hf g hg)
/-- One byte more, within the room. -/
theorem Own.push {w : World} {g cap n : Nat} {bs : List Int} (h : Own w (.slice (some ⟨g, 0, none⟩) n cap) bs) (hn : n = bs.length) (hr : n < cap) (c : Int) : Own (w.setCell ⟨g, n, none⟩ (.int .u8 c)) (.slice (some ⟨g, 0, none⟩) (n + 1) cap) (bs ++ [c]) := by
  subst hn
  rcases h.cases with ⟨h1, _⟩ | ⟨g', cap', cur, h1, hg, h4, h5, h6, h7⟩
  · simp at h1
  · simp only [Value.slice.injEq, Option.some.injEq, Addr.mk.injEq, and_true, true_and] at h1
    obtain ⟨rfl, rfl⟩ := h1
    have e : (bs ++ [c]).length = bs.length + 1 := by simp
    rw [← e]
    refine Own.mk (heap_setCell_same w g bs.length cur 5 _ hg) (by rw [e]; omega) h5 (by rw [Array.size_setIfInBounds]; exact h6) ?_
    rw [e, Array.toList_setIfInBounds, List.take_succ_eq_append_getElem (by simp; omega), List.take_set, List.set_eq_of_length_le (by simp; omega), h7, List.map_append]
    simp
theorem Enc.push {g : Nat} (h : Enc E w0 v0 s (some ⟨g, 0, none⟩) oc w) (hr : s.out.length < oc) (c : Int) :
    Enc E w0 v0 { s with out := s.out ++ [c] } (some ⟨g, 0, none⟩) oc ((w.setCell ⟨g, s.out.length, none⟩ (.int .u8 c)).setCell ⟨E, 5, none⟩ (.slice (some ⟨g, 0, none⟩) (s.out.length + 1) oc)) := by
  have hne : E ≠ g := fun e => h.ne g rfl e.symm
  have hb : (w.setCell ⟨g, s.out.length, none⟩ (.int .u8 c)).heap[E]? = some (.cells (encCells s (some ⟨g, 0, none⟩) oc) 40 (0, 0)) := by
    rw [Below.heap_setCell _ _ _ _ hne]; exact h.blk
  have e : (s.out ++ [c]).length = s.out.length + 1 := by simp
  refine ⟨?_, ?_, ?_, ?_⟩
  · rw [heap_setCell_same _ _ _ _ _ _ hb]; simp [encCells]
  · rw [e]
    exact (h.own.push rfl hr c).kept (S := fun k => k = E) (touchE _ _ _ _) (fun k hk => by
      have : g = k := by simpa [Value.ownBlock] using hk
      subst this; exact fun e => hne e.symm)
  · refine (h.tch.setCell (fun hg => ?_) _).setCell (fun _ => .inl rfl) _
    rcases h.fresh with hf | hf
    · exact .inr hf.symm
    · have h1 := hf g rfl
      have h2 : g < w0.heap.size := hg
      omega
  · exact h.fresh
end

end Go.Proofs.Qxb6618439a
