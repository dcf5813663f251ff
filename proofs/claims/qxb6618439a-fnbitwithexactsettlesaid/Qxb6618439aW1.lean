import Derived.Test.Qxb6618439aProg
import Derived.WalkKit
import Derived.WalkSpells
import Derived.WalkLawsBesides
import Derived.Laws.CopyOwn
import Derived.Deep.DeepCutAuto
import Derived.Deep.CutBlock
import Derived.Deep.LoopGhost
namespace Go.Proofs.Qxb6618439a
open Go.RowKit

theorem hide {p : Prop} (h : p) : Hid p := h
theorem unhide {p : Prop} (h : Hid p) : p := h
theorem ret_bool {p q : Bool} (h : p = q) : Ending.returned (.bool p) = .returned (.bool q) := by rw [h]

/-- Of the blocks that were there only those that S names may have turned. -/
structure Touch (S : Nat → Prop) (w w' : World) : Prop where
  os : w'.os = w.os
  tape : w'.tape = w.tape
  output : w'.output = w.output
  size : w.heap.size ≤ w'.heap.size
  block : ∀ k, k < w.heap.size → ¬ S k → w'.heap[k]? = w.heap[k]?

theorem Touch.refl (S : Nat → Prop) (w : World) : Touch S w w := ⟨rfl, rfl, rfl, Nat.le_refl _, fun _ _ _ => rfl⟩
theorem Touch.trans {S T : Nat → Prop} {a b c : World} (h : Touch S a b) (k : Touch T b c) (hT : ∀ i, i < a.heap.size → T i → S i) : Touch S a c :=
  ⟨k.os.trans h.os, k.tape.trans h.tape, k.output.trans h.output, Nat.le_trans h.size k.size, fun i hi hs => (k.block i (Nat.lt_of_lt_of_le hi h.size) (fun t => hs (hT i hi t))).trans (h.block i hi hs)⟩
theorem Touch.mono {S T : Nat → Prop} {a b : World} (h : Touch S a b) (hST : ∀ i, i < a.heap.size → S i → T i) : Touch T a b :=
  ⟨h.os, h.tape, h.output, h.size, fun i hi hs => h.block i hi (fun t => hs (hST i hi t))⟩
theorem Touch.drew {S : Nat → Prop} {a b : World} (h : Touch S a b) : Touch S a b.drew := ⟨h.os, h.tape, h.output, h.size, h.block⟩
theorem Touch.alloc {S : Nat → Prop} {a b : World} (h : Touch S a b) (o : Obj) : Touch S a (b.alloc o) :=
  h.trans (T := fun _ => False) ⟨rfl, rfl, rfl, by simp, fun k hk _ => Below.heap_alloc _ _ _ hk⟩ (fun _ _ f => f.elim)
theorem Touch.setCell {S : Nat → Prop} {a b : World} (h : Touch S a b) {p : Addr} (hp : p.block < a.heap.size → S p.block) (u : Value) : Touch S a (b.setCell p u) :=
  h.trans (T := fun k => k = p.block) ⟨rfl, rfl, rfl, by simp [World.setCell], fun k _ hne => Below.heap_setCell _ _ _ _ hne⟩ (fun i hi e => by subst e; exact hp hi)
theorem Touch.setRow {S : Nat → Prop} {a b : World} (h : Touch S a b) {g : Nat} (hp : g < a.heap.size → S g) (cs : Array Value) : Touch S a (b.setRow g cs) :=
  h.trans (T := fun k => k = g) ⟨rfl, rfl, rfl, by simp [World.setRow], fun k _ hne => setRow_other b g k cs hne⟩ (fun i hi e => by subst e; exact hp hi)
theorem Touch.grown {S : Nat → Prop} {a b c : World} {row : Option Nat} (h : Touch S a b) (hg : b.grownBy c row) (hp : ∀ g, row = some g → g < a.heap.size → S g) : Touch S a c :=
  h.trans (T := fun k => row = some k) ⟨hg.os, hg.tape, hg.output, hg.size, fun k hk hne => hg.block k hk (fun e => hne e.symm)⟩ (fun i hi e => hp i e hi)
theorem Touch.below {S : Nat → Prop} {B : Nat} {w0 a b : World} (h : Touch S a b) (hb : Below B w0 a) (hB : B ≤ a.heap.size) (hS : ∀ k, k < a.heap.size → S k → B ≤ k) : Below B w0 b :=
  hb.trans ⟨h.os, h.tape, h.output, h.size, fun k hk => h.block k (by omega) (fun s => by have := hS k (by omega) s; omega)⟩
theorem Touch.of_below {w w' : World} (h : Below w.heap.size w w') (S : Nat → Prop) : Touch S w w' := ⟨h.os, h.tape, h.output, h.size, fun k hk _ => h.block k hk⟩

def capOf : Value → Nat
  | .slice _ _ c => c
  | _ => 0
/-- The slice value v holds the bytes bs in a row of the run's own (or is nil). -/
def Own (w : World) (v : Value) (bs : List Int) : Prop := w.ownsRow 0 5 1 v bs.length (bs.map (Value.int .u8))

theorem Own.cases {w : World} {v : Value} {bs : List Int} (h : Own w v bs) : (v = .slice none 0 0 ∧ bs = []) ∨
    ∃ g cap cur, v = .slice (some ⟨g, 0, none⟩) bs.length cap ∧ w.heap[g]? = some (.cells cur 5 (0, 0)) ∧ bs.length ≤ cap ∧ cap ≤ maxLen ∧ cur.size = cap ∧ cur.toList.take bs.length = bs.map (Value.int .u8) := by
  rcases h.2 with ⟨h1, h2⟩ | ⟨g, cap, cur, h1, _, h3, h4, h5, h6, h7⟩
  · exact .inl ⟨h1, List.eq_nil_of_length_eq_zero h2⟩
  · exact .inr ⟨g, cap, cur, h1, h3, h4, h5, by rw [h6, Nat.mul_one], by rw [Nat.mul_one] at h7; exact h7⟩
theorem Own.mk {w : World} {g cap : Nat} {cur : Array Value} {bs : List Int} (h : w.heap[g]? = some (.cells cur 5 (0, 0))) (hl : bs.length ≤ cap) (hm : cap ≤ maxLen) (hs : cur.size = cap) (ht : cur.toList.take bs.length = bs.map (Value.int .u8)) :
    Own w (.slice (some ⟨g, 0, none⟩) bs.length cap) bs :=
  ⟨by simp, .inr ⟨g, cap, cur, rfl, Nat.zero_le _, h, hl, hm, by rw [hs, Nat.mul_one], by rw [Nat.mul_one]; exact ht⟩⟩
theorem Own.nil (w : World) : Own w (.slice none 0 0) [] := ⟨rfl, .inl ⟨rfl, rfl⟩⟩
/-- What is owned stays owned while its block does not turn. -/
theorem Own.kept {w w' : World} {v : Value} {bs : List Int} {S : Nat → Prop} (h : Own w v bs) (ht : Touch S w w') (hS : ∀ g, v.ownBlock = some g → ¬ S g) : Own w' v bs := by
  rcases h.cases with ⟨rfl, rfl⟩ | ⟨g, cap, cur, rfl, hg, h4, h5, h6, h7⟩
  · exact Own.nil _
  · refine Own.mk ?_ h4 h5 h6 h7
    rw [ht.block g (lt_of_block hg) (hS g rfl)]; exact hg
theorem Own.lt {w : World} {v : Value} {bs : List Int} (h : Own w v bs) : ∀ g, v.ownBlock = some g → g < w.heap.size := by
  intro g hg
  rcases h.cases with ⟨rfl, rfl⟩ | ⟨g', cap, cur, rfl, hh, _⟩
  · simp [Value.ownBlock] at hg
  · have : g' = g := by simpa [Value.ownBlock] using hg
    subst this; exact lt_of_block hh
theorem Own.cell {w : World} {g cap n : Nat} {bs : List Int} (h : Own w (.slice (some ⟨g, 0, none⟩) n cap) bs) {i : Nat} {c : Int} (hc : bs[i]? = some c) : w.cell? ⟨g, i, none⟩ = some (.int .u8 c) := by
  rcases h.cases with ⟨h1, _⟩ | ⟨g', cap', cur, h1, hg, _, _, _, h7⟩
  · simp at h1
  · simp only [Value.slice.injEq, Option.some.injEq, Addr.mk.injEq, and_true] at h1
    obtain ⟨rfl, rfl, rfl⟩ := h1
    have hi : i < bs.length := (List.getElem?_eq_some_iff.1 hc).1
    have e : (cur.toList.take bs.length)[i]? = cur[i]? := by rw [List.getElem?_take, if_pos hi, Array.getElem?_toList]
    rw [cell_of_row _ _ _ _ _ _ hg, ← e, h7, List.getElem?_map, hc]; rfl
theorem Own.free {w : World} {g cap n : Nat} {bs : List Int} (h : Own w (.slice (some ⟨g, 0, none⟩) n cap) bs) (i : Nat) : w.frozen? ⟨g, i, none⟩ = false := by
  rcases h.cases with ⟨h1, _⟩ | ⟨g', cap', cur, h1, hg, _⟩
  · simp at h1
  · simp only [Value.slice.injEq, Option.some.injEq, Addr.mk.injEq, and_true] at h1
    obtain ⟨rfl, rfl, rfl⟩ := h1
    exact frozen_of_row _ _ _ _ _ hg
theorem info5 : (Try.prog.info? 5).map (fun i => (i.zero, i.size, i.bytes)) = some (some (.int .u8 0), 1, 1) := by kernel_rfl
theorem size5 : (Try.prog.info? 5).map (·.size) = some 1 := by kernel_rfl

end Go.Proofs.Qxb6618439a
