import Derived.Test.Qxb6618439aW8
import Derived.Test.Qxb6618439aScript
import Derived.Deep.AppendLies
namespace Go.Proofs.Qxb6618439a
open Go.RowKit

/-- append of one byte onto a row of the run's own (or nil), wherever it grows to. -/
theorem wpList_push {ops : Array Oper} {rest : List Oper} {o : Oper} {a : Act} {Q : Exit → Act → World → Prop} (w : World) (hgd : o.guard = none) (s x : Operand)
    (ho : o.op = .call { callee := .builtin .append, args := #[s, x], argTypes := #[24, 24] }) (v : Value) (bs : List Int) (hs : a.eval s = v) (hown : Own w v bs) (B : Nat) (hx : a.eval x = .slice (some ⟨B, 0, none⟩) 1 1)
    (c : Int) (hc : w.cell? ⟨B, 0, none⟩ = some (.int .u8 c)) (hl : bs.length ≤ 16777216)
    (h : ∀ g cap w', Own w' (.slice (some ⟨g, 0, none⟩) (bs.length + 1) cap) (bs ++ [c]) → Touch (fun k => v.ownBlock = some k) w w' → (v.ownBlock = some g ∨ g = w.heap.size) → wpList Try.prog ops Q rest (a.put o.dst (.slice (some ⟨g, 0, none⟩) (bs.length + 1) cap)) w') :
    wpList Try.prog ops Q (o :: rest) a w := by
  obtain ⟨i0, hi, hz0, hz1, hz2⟩ := info_parts info5
  refine wpList_append_lies w hgd s x 24 ho 0 5 i0 (.int .u8 0) 1 1 Try.underlying24 hi hz0 hz1 hz2 rfl (by decide) v bs.length (bs.map (Value.int .u8)) hs hown ⟨B, 0, none⟩ 1 1 [.int .u8 c] hx rfl ?_ (ints_oneCell .u8 [c]) (by decide) (by unfold maxLen; omega) (by omega) (Nat.zero_le _) w.heap.size rfl ?_
  · intro j u hu
    match j, hu with
    | 0, hu =>
      have : Value.int .u8 c = u := by simpa using hu
      rw [← this]; exact hc
  · intro g cap w' h1 h2 h3 _
    refine h g cap w' ?_ ⟨h2.os, h2.tape, h2.output, h2.size, fun k hk hne => h2.block k hk (fun e => hne e.symm)⟩ h3
    unfold Own
    rw [List.length_append, List.map_append]
    exact h1

/-- append within the room, whatever is appended. -/
theorem wpList_fits {ops : Array Oper} {rest : List Oper} {o : Oper} {a : Act} {Q : Exit → Act → World → Prop} (w : World) (hgd : o.guard = none) (s x : Operand)
    (ho : o.op = .call { callee := .builtin .append, args := #[s, x], argTypes := #[24, 24] }) (g n cap : Nat) (bs : List Int) (hs : a.eval s = .slice (some ⟨g, 0, none⟩) n cap) (hown : Own w (.slice (some ⟨g, 0, none⟩) n cap) bs) (hn : n = bs.length)
    (ao : Option Addr) (m c : Nat) (ms : List Int) (hx : a.eval x = .slice ao m c) (hm : ms.length = m) (hnone : ao = none → m = 0 ∧ c = 0) (hrow : Row .u8 w ao ms) (hr : n + m ≤ cap)
    (h : ∀ w', Own w' (.slice (some ⟨g, 0, none⟩) (n + m) cap) (bs ++ ms) → Touch (fun k => k = g) w w' → wpList Try.prog ops Q rest (a.put o.dst (.slice (some ⟨g, 0, none⟩) (n + m) cap)) w') :
    wpList Try.prog ops Q (o :: rest) a w := by
  obtain ⟨i0, hi, hz0, hz1, hz2⟩ := info_parts info5
  subst hn
  subst hm
  refine wpList_append_fits_any w hgd s x 24 ho 0 5 i0 1 Try.underlying24 hi hz1 g bs.length cap (bs.map (Value.int .u8)) hs hown ao ms.length c (ms.map (Value.int .u8)) hx (by simp) hnone ?_ (ints_oneCell _ _) hr ?_
  · intro ad had j u hu
    rw [List.getElem?_map] at hu
    obtain ⟨d, hd, rfl⟩ := Option.map_eq_some_iff.1 hu
    obtain ⟨b, off, e, hh⟩ := hrow j d hd
    rw [had] at e
    obtain rfl := Option.some.inj e
    rw [Addr.add_lit]; exact hh
  · intro w' h1 h2
    refine h w' ?_ ⟨h2.os, h2.tape, h2.output, h2.size, fun k hk hne => h2.block k hk (fun e => hne (Option.some.inj e))⟩
    unfold Own
    rw [List.length_append, List.map_append]
    exact h1

/-- The encoder and the number's row, both the call's own, apart from each other. -/
structure Main (B E : Nat) (w : World) (s : EncSt) (oa : Option Addr) (oc : Nat) (nv : Value) (nb : List Int) (wr : World) : Prop where
  bel : Below B w wr
  blk : wr.heap[E]? = some (.cells (encCells s oa oc) 40 (0, 0))
  own : Own wr (.slice oa s.out.length oc) s.out
  ob : ∀ g, Value.ownBlock (.slice oa s.out.length oc) = some g → B ≤ g
  nown : Own wr nv nb
  nbk : ∀ g, nv.ownBlock = some g → B ≤ g
  dis : ∀ g, nv.ownBlock = some g → Value.ownBlock (.slice oa s.out.length oc) ≠ some g
  hE : B ≤ E
  cap : oc ≤ 2 * (s.out.length + s.pending) + 2

section
variable {B E : Nat} {w : World} {s : EncSt} {oa : Option Addr} {oc : Nat} {nv : Value} {nb : List Int} {wr : World}
theorem Main.enc (h : Main B E w s oa oc nv nb wr) : Enc E wr (.slice oa s.out.length oc) s oa oc wr := ⟨h.blk, h.own, Touch.refl _ _, .inl rfl⟩
/-- The number's row is not the encoder's block. -/
theorem Main.ne (h : Main B E w s oa oc nv nb wr) : ∀ g, nv.ownBlock = some g → g ≠ E := by
  intro g hg e
  subst e
  rcases h.nown.cases with ⟨rfl, _⟩ | ⟨g', cap, cur, rfl, hh, _⟩
  · simp [Value.ownBlock] at hg
  · have : g' = g := by simpa [Value.ownBlock] using hg
    subst this
    have hb := h.blk
    rw [hh] at hb; simp at hb
theorem Main.size (h : Main B E w s oa oc nv nb wr) : B ≤ wr.heap.size := Nat.le_of_lt (Nat.lt_of_le_of_lt h.hE (lt_of_block h.blk))
/-- A coded bit. -/
theorem Main.bit (h : Main B E w s oa oc nv nb wr) {t : EncSt} {oa' : Option Addr} {oc' : Nat} {w' : World} (hE : Enc E wr (.slice oa s.out.length oc) t oa' oc' w') (hc : oc' ≤ 2 * (t.out.length + t.pending) + 2) : Main B E w t oa' oc' nv nb w' := by
  refine ⟨hE.tch.below h.bel h.size ?_, hE.blk, hE.own, ?_, h.nown.kept hE.tch ?_, h.nbk, ?_, h.hE, hc⟩
  · rintro k _ (rfl | hk)
    · exact h.hE
    · exact h.ob k hk
  · intro g hg
    rcases hE.fresh with hf | hf
    · exact h.ob g (hf ▸ hg)
    · exact Nat.le_trans h.size (hf g hg)
  · rintro g hg (rfl | hk)
    · exact h.ne _ hg rfl
    · exact h.dis g hg hk
  · intro g hg hk
    rcases hE.fresh with hf | hf
    · exact h.dis g hg (hf ▸ hk)
    · have := hf g hk; have := h.nown.lt g hg; omega
/-- A world in which the number's row alone has turned. -/
theorem Main.newNum (h : Main B E w s oa oc nv nb wr) {nv' : Value} {nb' : List Int} {w' : World} (hT : Touch (fun k => nv.ownBlock = some k) wr w') (hO : Own w' nv' nb') (hb : ∀ g, nv'.ownBlock = some g → nv.ownBlock = some g ∨ wr.heap.size ≤ g) : Main B E w s oa oc nv' nb' w' := by
  refine ⟨hT.below h.bel h.size (fun k _ hk => h.nbk k hk), ?_, h.own.kept hT ?_, h.ob, hO, ?_, ?_, h.hE, h.cap⟩
  · rw [hT.block E (lt_of_block h.blk) (fun hk => h.ne E hk rfl)]; exact h.blk
  · intro g hg hk; exact h.dis g hk hg
  · intro g hg
    rcases hb g hg with h1 | h1
    · exact h.nbk g h1
    · exact Nat.le_trans h.size h1
  · intro g hg hk
    rcases hb g hg with h1 | h1
    · exact h.dis g h1 hk
    · have := h.own.lt g hk; omega
theorem Main.alloc (h : Main B E w s oa oc nv nb wr) (o : Obj) : Main B E w s oa oc nv nb (wr.alloc o) :=
  h.newNum ((Touch.refl _ _).alloc o) (h.nown.kept ((Touch.refl (fun _ => False) _).alloc o) (fun _ _ f => f)) (fun _ hg => .inl hg)
theorem Main.drewN (h : Main B E w s oa oc nv nb wr) (n : Nat) : Main B E w s oa oc nv nb (wr.drewN n) := by
  have e : (wr.drewN n).heap = wr.heap := by induction n with
    | zero => rfl
    | succ n ih => exact ih
  have hT : Touch (fun _ => False) wr (wr.drewN n) := by
    refine ⟨?_, ?_, ?_, by rw [e]; exact Nat.le_refl _, fun k _ _ => by rw [e]⟩
    · induction n with
      | zero => rfl
      | succ n ih => rfl
    · induction n with
      | zero => rfl
      | succ n ih => rfl
    · induction n with
      | zero => rfl
      | succ n ih => rfl
  exact h.newNum (hT.mono (fun _ _ f => f.elim)) (h.nown.kept hT (fun _ _ f => f)) (fun _ hg => .inl hg)
end
end Go.Proofs.Qxb6618439a
