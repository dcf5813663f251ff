/-
  'Rows.FnQueueRemoveExactSaid' PROVED. The frame is turned from the seats' shells for slices of integers; the two rows of bools are opened by the kit's 'open_bools'.
-/
import Derived.Test.Qxb6618449aRows
import Derived.Test.Qxb6618449aW6
import Derived.WalkKit
import Derived.ProofKit
import Derived.OpenShut
import Derived.ShutString
import Derived.ChangeOld
import Derived.Below
import Derived.Deep.Grids
namespace Go.Proofs.Qxb6618449a.fnQueueRemoveExact
open Go.ChangeShapes Go.WideShapes Go.ChangeAt Go.RowKit
set_option linter.unusedVariables false

theorem own : ownKnob Try.prog.godebug = none := by kernel_rfl
theorem laidOut : laidOutB Try.prog = true := by kernel_rfl

/-- What the walk is told of a slice that came in: its length fits, and its elements lie where it leads. -/
def Came (w : World) (a : Option Addr) (len : Nat) (vs : List Value) : Prop := len ≤ maxLen ∧ Lies w a len vs

theorem Came.nil (w : World) : Came w none 0 [] := ⟨Nat.zero_le _, rfl, fun i v h => by simp at h⟩
theorem Came.of {w : World} {x : Addr} {len cap : Nat} {vs : List Value} (hl : len ≤ cap) (hm : cap ≤ maxLen) (hn : vs.length = len) (hc : ∀ i v, vs[i]? = some v → w.cell? (x.add i) = some v) : Came w (some x) len vs := by
  refine ⟨Nat.le_trans hl hm, hn, fun i v hv => ?_⟩
  have h := hc i v hv
  have hi := (List.getElem?_eq_some_iff.1 hv).1
  have h0 := hc 0 _ (List.getElem?_eq_getElem (by omega))
  have hsp : x.spot = none := by simpa [Addr.add] using World.cell?_spot h0
  obtain ⟨b, off, spot⟩ := x
  subst hsp
  rw [add_plain] at h
  exact ⟨b, off, rfl, h⟩

theorem walk (a0 a1 a2 : Option Addr) (len0 cap0 len1 cap1 len2 cap2 : Nat) (P : List Int) (B L : List Bool) (a3 a4 a5 : Int) (w : World) (w0 : Came w a0 len0 (P.map (Value.int .i64))) (w1 : Came w a1 len1 (B.map Value.bool)) (w2 : Came w a2 len2 (L.map Value.bool)) :
    Calls Try.prog 3 #[.slice a0 len0 cap0, .slice a1 len1 cap1, .slice a2 len2 cap2, .int .i64 a3, .int .i64 a4, .int .i64 a5] w fun e w' => e = .returned (.bool true) ∧ Below w.heap.size w w' := by
  by_cases h : 65536 < len0 ∨ 65536 < len1 ∨ 65536 < len2
  · exact law_out _ _ _ _ _ _ _ _ _ _ _ _ _ w0.1 w1.1 w2.1 h
  · exact law_walk a0 a1 a2 len0 len1 len2 cap0 cap1 cap2 a3 a4 a5 P B L w w0.2 w1.2 w2.2 (by omega) (by omega) (by omega)

section
variable {H : Type} {enc : TypeId × Value → H} {W : World} {base : Nat} {held : Bool}
theorem came_ints {a : Option Addr} {len cap fuel : Nat} {x : DataW H × List MemPlace} (h : DataW.trod enc Try.prog W base (fun _ => true) held fuel 22 (Value.slice a len cap).cells.toList = some x) : ∃ P : List Int, Came W a len (P.map (Value.int .i64)) := by
  rcases open_ints Try.underlying22 Try.underlying2 (by kernel_rfl) h with ⟨hcs, _⟩ | ⟨x, l, c, zs, hcs, _, hl, hm, hz, _, hcell, hwz⟩
  · simp [Value.cells] at hcs
    obtain ⟨rfl, rfl, rfl⟩ := hcs
    exact ⟨[], Came.nil W⟩
  · simp [Value.cells] at hcs
    obtain ⟨rfl, rfl, rfl⟩ := hcs
    have hz' : zs.length = cap := by simpa using hz
    refine ⟨zs.take len, Came.of hl hm (by simp; omega) (fun i v hv => ?_)⟩
    rw [List.getElem?_map, List.getElem?_take] at hv
    split at hv
    · rw [hcell i (by omega), List.getD_eq_getElem?_getD, List.getElem?_eq_getElem (by omega : i < zs.length)]
      rw [List.getElem?_eq_getElem (by omega : i < zs.length)] at hv
      simpa using hv
    · simp at hv
theorem came_bools {a : Option Addr} {len cap fuel : Nat} {x : DataW H × List MemPlace} (h : DataW.trod enc Try.prog W base (fun _ => true) held fuel 23 (Value.slice a len cap).cells.toList = some x) : ∃ B : List Bool, Came W a len (B.map Value.bool) := by
  rcases Go.Deep.open_bools Try.underlying23 Try.underlying4 (by kernel_rfl) h with ⟨hcs, _⟩ | ⟨x, l, c, Z, hcs, _, hl, hm, _, hcell⟩
  · simp [Value.cells] at hcs
    obtain ⟨rfl, rfl, rfl⟩ := hcs
    exact ⟨[], Came.nil W⟩
  · simp [Value.cells] at hcs
    obtain ⟨rfl, rfl, rfl⟩ := hcs
    refine ⟨(List.range len).map Z, Came.of hl hm (by simp) (fun i v hv => ?_)⟩
    by_cases hi : i < len
    · rw [hcell i (by omega)]
      simpa [hi] using hv
    · rw [List.getElem?_eq_none (by simp; omega)] at hv
      simp at hv
end

/-! ### The row's step -/
set_option maxRecDepth 100000 in
theorem lifted (os : Os) (started : os.Started) (H : Type) (enc : TypeId × Value → H) :
    ReturnsInHanded {} Try.checked os 3 .any (Rows.fnQueueRemoveExactSpec.pre6 enc Try.prog Try.f3 Rows.fnQueueRemoveExactRow.domain false) (Rows.fnQueueRemoveExactSpec.post enc Try.prog Try.f3 false true false false) := by
  refine returnsInHanded_of_change (C := Try.checked) own started (by kernel_rfl) Try.func3
    (ChangeSpec.witness6 (enc := enc) (C := Try.checked) false ⟨#[], #[.slice none 0 0, .slice none 0 0, .slice none 0 0, .int .i64 0, .int .i64 0, .int .i64 0], []⟩ 8 (by kernel_rfl) (by kernel_rfl) (by kernel_rfl) (by kernel_rfl)) ?_
  intro W base args ds gs before hval0 hW hcnd _
  have hval : ∀ (j : Nat) t v, Try.f3.params[j]? = some t → args[j]? = some v → Value.okWide Try.prog W .any base t v := hval0
  have hW' := hW
  obtain ⟨p, q, hA0, hV, rfl, hfz, hnd⟩ := hW
  have hA : DataW.TrodAll enc Try.prog W 0 (fun _ => true) true Try.f3.params.toList args.toList ds p := hA0
  rw [Try.params3] at hA hval
  obtain ⟨v0, vs0, d0, ds0, p0, q0, hargs, rfl, rfl, h0, r0⟩ := trodAll_cons hA
  obtain ⟨v1, vs1, d1, ds1, p1, q1, rfl, rfl, rfl, h1, r1⟩ := trodAll_cons r0
  obtain ⟨v2, vs2, d2, ds2, p2, q2, rfl, rfl, rfl, h2, r2⟩ := trodAll_cons r1
  obtain ⟨v3, vs3, d3, ds3, p3, q3, rfl, rfl, rfl, h3, r3⟩ := trodAll_cons r2
  obtain ⟨v4, vs4, d4, ds4, p4, q4, rfl, rfl, rfl, h4, r4⟩ := trodAll_cons r3
  obtain ⟨v5, vs5, d5, ds5, p5, q5, rfl, rfl, rfl, h5, r5⟩ := trodAll_cons r4
  obtain ⟨rfl, rfl, rfl⟩ := trodAll_nil r5
  obtain rfl : args = #[v0, v1, v2, v3, v4, v5] := by cases args; simp_all
  obtain ⟨rfl, rfl⟩ := trodVars_none hV
  obtain ⟨a0, len0, cap0, rfl⟩ := okWide_slice Try.underlying22 (hval 0 22 v0 rfl rfl)
  obtain ⟨a1, len1, cap1, rfl⟩ := okWide_slice Try.underlying23 (hval 1 23 v1 rfl rfl)
  obtain ⟨a2, len2, cap2, rfl⟩ := okWide_slice Try.underlying23 (hval 2 23 v2 rfl rfl)
  obtain ⟨a3, rfl, rfl, rfl, w3⟩ := open_int Try.underlying3 (hval 3 3 v3 rfl rfl) h3
  obtain ⟨a4, rfl, rfl, rfl, w4⟩ := open_int Try.underlying3 (hval 4 3 v4 rfl rfl) h4
  obtain ⟨a5, rfl, rfl, rfl, w5⟩ := open_int Try.underlying3 (hval 5 3 v5 rfl rfl) h5
  have k0 := h0
  have k1 := h1
  have k2 := h2
  have lt0 : ∀ x ∈ p0, x.block < W.heap.size := by obtain ⟨m, hm⟩ := k0; exact DataW.trod_lt m _ _ _ hm
  have lt1 : ∀ x ∈ p1, x.block < W.heap.size := by obtain ⟨m, hm⟩ := k1; exact DataW.trod_lt m _ _ _ hm
  have lt2 : ∀ x ∈ p2, x.block < W.heap.size := by obtain ⟨m, hm⟩ := k2; exact DataW.trod_lt m _ _ _ hm
  obtain ⟨P, w0⟩ : ∃ P : List Int, Came W a0 len0 (P.map (Value.int .i64)) := by obtain ⟨fuel, hf⟩ := h0; exact came_ints hf
  obtain ⟨B, w1⟩ : ∃ B : List Bool, Came W a1 len1 (B.map Value.bool) := by obtain ⟨fuel, hf⟩ := h1; exact came_bools hf
  obtain ⟨L, w2⟩ : ∃ L : List Bool, Came W a2 len2 (L.map Value.bool) := by obtain ⟨fuel, hf⟩ := h2; exact came_bools hf
  clear hA0 hval0
  refine (walk a0 a1 a2 len0 cap0 len1 cap1 len2 cap2 P B L a3 a4 a5 W w0 w1 w2).mono fun e W' ⟨he, bel⟩ => ?_
  subst he
  exact ⟨_, rfl, _, _, _, [], _, [], hW', trodAll_mk1 (shut_bool Try.underlying4 _), (trodAll_cons_mk (Below.trod laidOut (by kernel_rfl) (of_decide_eq_true (by kernel_rfl)) k0 bel lt0) (trodAll_cons_mk (Below.trod laidOut (by kernel_rfl) (of_decide_eq_true (by kernel_rfl)) k1 bel lt1) (trodAll_cons_mk (Below.trod laidOut (by kernel_rfl) (of_decide_eq_true (by kernel_rfl)) k2 bel lt2) (trodAll_cons_mk (shut_int Try.underlying3 w3) (trodAll_cons_mk (shut_int Try.underlying3 w4) (trodAll_cons_mk (shut_int Try.underlying3 w5) trodAll_mk0)))))), rfl, bel.frame _, fun h => by cases h⟩

theorem over : Rows.fnQueueRemoveExactRow.holds Try.pinned (OpenSpec.ofChange Rows.fnQueueRemoveExactSpec) :=
  OpenClaim.holds_of_wide 3 Try.f3 rfl rfl rfl rfl rfl rfl rfl ⟨rfl, rfl, rfl, rfl, rfl⟩ rfl rfl rfl rfl rfl (by kernel_rfl) Try.func3 (by kernel_rfl)
    (of_decide_eq_true (by kernel_rfl)) (by unfold Func.isWrapper; first | (rw [if_pos (by decide +kernel)]; kernel_rfl) | (rw [if_neg (by decide +kernel)]; exact ⟨rfl, rfl⟩))
    (fun os started H enc _ => lifted os started H enc)

/-- The statement. -/
theorem proved : Rows.FnQueueRemoveExactSaid := over
#print axioms proved
end Go.Proofs.Qxb6618449a.fnQueueRemoveExact
