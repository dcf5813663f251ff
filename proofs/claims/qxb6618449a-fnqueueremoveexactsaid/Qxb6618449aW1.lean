import Derived.Test.Qxb6618449aProg
import Derived.WalkKit
import Derived.WalkSpells
import Derived.WalkLawsBesides
import Derived.BigQuiet
import Derived.Laws.CopyOwn
import Derived.Deep.DeepCutAuto
import Derived.Deep.CutBlock
import Derived.Deep.LoopGhost
namespace Go.Proofs.Qxb6618449a
open Go.RowKit

theorem hide {p : Prop} (h : p) : Hid p := h
theorem unhide {p : Prop} (h : Hid p) : p := h

/-- Of the blocks that were there only those that S names may have turned. -/
structure Touch (S : Nat → Prop) (w w' : World) : Prop where
  os : w'.os = w.os
  tape : w'.tape = w.tape
  output : w'.output = w.output
  size : w.heap.size ≤ w'.heap.size
  block : ∀ k, k < w.heap.size → ¬ S k → w'.heap[k]? = w.heap[k]?

theorem Touch.refl (S : Nat → Prop) (w : World) : Touch S w w := ⟨rfl, rfl, rfl, Nat.le_refl _, fun _ _ _ => rfl⟩
theorem Touch.trans {S T : Nat → Prop} {a b c : World} (h : Touch S a b) (k : Touch T b c) (hT : ∀ i, i < a.heap.size → T i → S i) : Touch S a c :=
  ⟨k.os.trans h.os, k.tape.trans h.tape, k.output.trans h.output, Nat.le_trans h.size k.size, fun i hi hs => (k.block i (Nat.lt_of_lt_of_le hi h.size) (fun t => hs (hT i hi t))).trans (h.block i hi hs)⟩
theorem Touch.drewN {S : Nat → Prop} {a b : World} (h : Touch S a b) (n : Nat) : Touch S a (b.drewN n) := by
  induction n with
  | zero => exact h
  | succ n ih => exact ⟨ih.os, ih.tape, ih.output, ih.size, ih.block⟩
theorem Touch.alloc {S : Nat → Prop} {a b : World} (h : Touch S a b) (o : Obj) : Touch S a (b.alloc o) :=
  h.trans (T := fun _ => False) ⟨rfl, rfl, rfl, by simp, fun k hk _ => Below.heap_alloc _ _ _ hk⟩ (fun _ _ f => f.elim)
theorem Touch.setCell {S : Nat → Prop} {a b : World} (h : Touch S a b) {p : Addr} (hp : p.block < a.heap.size → S p.block) (u : Value) : Touch S a (b.setCell p u) :=
  h.trans (T := fun k => k = p.block) ⟨rfl, rfl, rfl, by simp [World.setCell], fun k _ hne => Below.heap_setCell _ _ _ _ hne⟩ (fun i hi e => by subst e; exact hp hi)
theorem Touch.setCells {S : Nat → Prop} {a : World} {g : Nat} (hp : g < a.heap.size → S g) : ∀ (us : List Value) (o : Nat) {b : World}, Touch S a b → Touch S a (b.setCells g o us)
  | [], _, _, h => h
  | u :: r, o, b, h => Touch.setCells hp r (o + 1) (b := b.setCell ⟨g, o, none⟩ u) (h.setCell (p := ⟨g, o, none⟩) hp u)
theorem Touch.below {S : Nat → Prop} {B : Nat} {w0 a b : World} (h : Touch S a b) (hb : Below B w0 a) (hB : B ≤ a.heap.size) (hS : ∀ k, k < a.heap.size → S k → B ≤ k) : Below B w0 b :=
  hb.trans ⟨h.os, h.tape, h.output, h.size, fun k hk => h.block k (by omega) (fun s => by have := hS k (by omega) s; omega)⟩
theorem Touch.of_below {w w' : World} (h : Below w.heap.size w w') (S : Nat → Prop) : Touch S w w' := ⟨h.os, h.tape, h.output, h.size, fun k hk _ => h.block k hk⟩
theorem Touch.self_below {S : Nat → Prop} {w w' : World} (h : Touch S w w') (hS : ∀ k, S k → w.heap.size ≤ k) : Below w.heap.size w w' :=
  ⟨h.os, h.tape, h.output, h.size, fun k hk => h.block k hk (fun s => by have := hS k s; omega)⟩

/-- Block g holds exactly these cells. -/
def At (w : World) (g : Nat) (t : TypeId) (vs : List Value) : Prop := w.heap[g]? = some (.cells vs.toArray t (0, 0))

theorem At.lt {w : World} {g : Nat} {t : TypeId} {vs : List Value} (h : At w g t vs) : g < w.heap.size := lt_of_block h
theorem At.cell {w : World} {g : Nat} {t : TypeId} {vs : List Value} (h : At w g t vs) {i : Nat} {v : Value} (hv : vs[i]? = some v) : w.cell? ⟨g, i, none⟩ = some v := by
  rw [cell_of_row _ _ _ _ _ _ h]; simpa using hv
theorem At.free {w : World} {g : Nat} {t : TypeId} {vs : List Value} (h : At w g t vs) (i : Nat) : w.frozen? ⟨g, i, none⟩ = false := frozen_of_row _ _ _ _ _ h
theorem At.kept {w w' : World} {g : Nat} {t : TypeId} {vs : List Value} {S : Nat → Prop} (h : At w g t vs) (ht : Touch S w w') (hS : ¬ S g) : At w' g t vs := by
  unfold At; rw [ht.block g h.lt hS]; exact h
theorem At.drewN {w : World} {g : Nat} {t : TypeId} {vs : List Value} (h : At w g t vs) (n : Nat) : At (w.drewN n) g t vs := h.kept ((Touch.refl (fun _ => False) w).drewN n) (fun f => f)
theorem At.alloc {w : World} {g : Nat} {t : TypeId} {vs : List Value} (h : At w g t vs) (o : Obj) : At (w.alloc o) g t vs := h.kept ((Touch.refl (fun _ => False) w).alloc o) (fun f => f)
theorem At.new (w : World) (t : TypeId) (vs : List Value) : At (w.alloc (.cells vs.toArray t)) w.heap.size t vs := heap_alloc_new w _
theorem At.set {w : World} {g : Nat} {t : TypeId} {vs : List Value} (h : At w g t vs) (i : Nat) (v : Value) : At (w.setCell ⟨g, i, none⟩ v) g t (vs.set i v) := by
  unfold At; rw [heap_setCell_same w g i _ t v h]; simp
theorem At.other {w : World} {g : Nat} {t : TypeId} {vs : List Value} (h : At w g t vs) {p : Addr} (hp : g ≠ p.block) (v : Value) : At (w.setCell p v) g t vs :=
  h.kept (S := fun k => k = p.block) ((Touch.refl (fun k => k = p.block) w).setCell (p := p) (fun _ => rfl) v) hp

/-- The cells from o on written over. -/
def over (vs : List Value) (o : Nat) (us : List Value) : List Value := vs.take o ++ us ++ vs.drop (o + us.length)
theorem over_nil (vs : List Value) (o : Nat) : over vs o [] = vs := by simp [over]
theorem over_cons (vs : List Value) (o : Nat) (u : Value) (us : List Value) (h : o < vs.length) : over (vs.set o u) (o + 1) us = over vs o (u :: us) := by
  have e1 : (vs.set o u).take (o + 1) = vs.take o ++ [u] := by
    rw [List.take_add_one, List.take_set, List.getElem?_set_self h, List.set_eq_of_length_le (by simp; omega)]; rfl
  have e2 : (vs.set o u).drop (o + 1 + us.length) = vs.drop (o + 1 + us.length) := by rw [List.drop_set, if_pos (by omega)]
  unfold over
  rw [e1, e2, List.length_cons, show o + (us.length + 1) = o + 1 + us.length by omega]
  simp
theorem over_len (vs : List Value) (o : Nat) (us : List Value) (h : o + us.length ≤ vs.length) : (over vs o us).length = vs.length := by
  simp [over]; omega
theorem At.setCells {g : Nat} {t : TypeId} : ∀ (us : List Value) (o : Nat) {w : World} {vs : List Value}, At w g t vs → o + us.length ≤ vs.length → At (w.setCells g o us) g t (over vs o us)
  | [], o, w, vs, h, _ => by rw [over_nil]; exact h
  | u :: r, o, w, vs, h, hl => by
    rw [List.length_cons] at hl
    rw [World.setCells, ← over_cons vs o u r (by omega)]
    exact At.setCells r (o + 1) (h.set o u) (by rw [List.length_set]; omega)

/-- 'copy' for elements of whatever size: all is read before anything is written. -/
theorem run_copy_wide {P : Program} (w : World) (dT sT ty elem : TypeId) (size b o dLen dCap : Nat) (a : Addr) (sLen sCap : Nat) (cs : List Value)
    (hu : P.underlying dT = some (.slice elem)) (hs : (P.info? elem).map (·.size) = some size) (hn : cs.length = size * Nat.min sLen dLen)
    (hsrc : ∀ j v, cs[j]? = some v → w.cell? (a.add j) = some v) (hc : ∀ j, j < cs.length → (w.cell? ⟨b, o + j, none⟩).isSome = true) (hf : ∀ j, j < cs.length → w.frozen? ⟨b, o + j, none⟩ = false) (h1 : ∀ v ∈ cs, v.oneCell' = true) :
    (Builtin.copy_ #[dT, sT] ty #[.slice (some ⟨b, o, none⟩) dLen dCap, .slice (some a) sLen sCap]).run P w = .ok (goInt (Nat.min sLen dLen)) (w.setCells b o cs) := by
  have hl := run_loadCells_list (P := P) w a cs hsrc
  have hst := run_storeCells_cells (P := P) b o cs 0 w (by simpa using hc) (by simpa using hf) h1
  cases hq : P.info? elem with
  | none => simp [hq] at hs
  | some i =>
    have hi : i.size = size := by simpa [hq] using hs
    rw [hn, Nat.mul_comm] at hl
    simp [Builtin.copy_, run_underlying hu, Builtin.lenOf, Builtin.firstCells, sizeOf, typeInfo, hq, hi, hl, hst]
/-- 'clear' of a slice that has elements. -/
theorem run_clear_wide {P : Program} (w : World) (sT ty elem : TypeId) (z : Value) (b o n c : Nat) (hn : 0 < n)
    (hu : P.underlying sT = some (.slice elem)) (hs : (P.info? elem).map (·.zero) = some (some z))
    (hc : ∀ j, j < (Builtin.zeroCells z.cells n).toList.length → (w.cell? ⟨b, o + j, none⟩).isSome = true) (hf : ∀ j, j < (Builtin.zeroCells z.cells n).toList.length → w.frozen? ⟨b, o + j, none⟩ = false) (h1 : ∀ v ∈ (Builtin.zeroCells z.cells n).toList, v.oneCell' = true) :
    (Builtin.clear_ #[sT] ty #[.slice (some ⟨b, o, none⟩) n c]).run P w = .ok (.tuple #[]) (w.setCells b o (Builtin.zeroCells z.cells n).toList) := by
  have hst := run_storeCells_cells (P := P) b o (Builtin.zeroCells z.cells n).toList 0 w (by simpa using hc) (by simpa using hf) h1
  obtain ⟨m, rfl⟩ : ∃ m, n = m + 1 := ⟨n - 1, by omega⟩
  cases hq : P.info? elem with
  | none => simp [hq] at hs
  | some i =>
    have hi : i.zero = some z := by simpa [hq] using hs
    simp [Builtin.clear_, run_underlying hu, zeroValue, typeInfo, hq, hi, hst]
end Go.Proofs.Qxb6618449a
