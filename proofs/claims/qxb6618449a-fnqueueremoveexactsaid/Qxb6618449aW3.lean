import Derived.Test.Qxb6618449aW2
namespace Go.Proofs.Qxb6618449a
open Go.RowKit

theorem made_one (v : Value) (n : Nat) : madeCells #[v] n = (List.replicate n v).toArray := by
  refine Array.ext (by simp [madeCells]) (fun i h1 h2 => ?_)
  simp [madeCells, Nat.mod_one]
theorem made_three (n : Nat) : madeCells #[.int .i64 0, .pointer none, .bool false] (n * 3) = (flat (List.replicate n zeroE)).toArray := by
  rw [← flat_zeros]; rfl
theorem info2 : (Try.prog.info? 2).map (fun i => (i.zero, i.size, i.bytes)) = some (some (.int .i64 0), 1, 8) := by kernel_rfl
theorem info4 : (Try.prog.info? 4).map (fun i => (i.zero, i.size, i.bytes)) = some (some (.bool false), 1, 1) := by kernel_rfl
theorem info38 : (Try.prog.info? 38).map (fun i => (i.zero.map (·.cells), i.size, i.bytes)) = some (some #[.int .i64 0, .pointer none, .bool false], 3, 24) := by kernel_rfl
theorem make2 (n : Nat) (hn : n ≤ 65536) (wx : World) : (Instr.makeSlice 22 (.int .i64 n) (.int .i64 n)).run Try.prog wx = .ok (.slice (some ⟨wx.heap.size, 0, none⟩) n n) (wx.alloc (.cells (List.replicate n (Value.int .i64 0)).toArray 2)) := by
  obtain ⟨i0, hi, hz0, hz1, hz2⟩ := info_parts info2
  rw [run_make (P := Try.prog) wx 22 2 i0 (.int .i64 0) Try.underlying22 hi hz0 .i64 .i64 n n (by omega) (by omega) (by rw [hz2]; omega) (by omega), hz1, Nat.mul_one, Int.toNat_natCast, ← made_one]
  rfl
theorem make4 (n : Nat) (hn : n ≤ 65536) (wx : World) : (Instr.makeSlice 23 (.int .i64 n) (.int .i64 n)).run Try.prog wx = .ok (.slice (some ⟨wx.heap.size, 0, none⟩) n n) (wx.alloc (.cells (List.replicate n (Value.bool false)).toArray 4)) := by
  obtain ⟨i0, hi, hz0, hz1, hz2⟩ := info_parts info4
  rw [run_make (P := Try.prog) wx 23 4 i0 (.bool false) Try.underlying23 hi hz0 .i64 .i64 n n (by omega) (by omega) (by rw [hz2]; omega) (by omega), hz1, Nat.mul_one, Int.toNat_natCast, ← made_one]
  rfl
theorem make38 (n : Nat) (hn : n ≤ 65536) (wx : World) : (Instr.makeSlice 28 (.int .i64 n) (.int .i64 n)).run Try.prog wx = .ok (.slice (some ⟨wx.heap.size, 0, none⟩) n n) (wx.alloc (.cells (flat (List.replicate n zeroE)).toArray 38)) := by
  obtain ⟨i0, hi, h0⟩ := Option.map_eq_some_iff.1 info38
  simp only [Prod.mk.injEq, Option.map_eq_some_iff] at h0
  obtain ⟨⟨z, hz0, hzc⟩, hz1, hz2⟩ := h0
  rw [run_make (P := Try.prog) wx 28 38 i0 z Try.underlying28 hi hz0 .i64 .i64 n n (by omega) (by omega) (by rw [hz2]; omega) (by omega), hz1, Int.toNat_natCast, hzc, made_three]

/-- The queue as it is built: the first i elements stand. -/
structure Part (P : List Int) (B L : List Bool) (es : List QE) (i : Nat) : Prop where
  len : es.length = i
  p : es.map QE.p = P.take i
  b : es.map (fun e => e.b.isSome) = B.take i
  l : es.map QE.l = L.take i
theorem Part.push {P : List Int} {B L : List Bool} {es : List QE} {i : Nat} (h : Part P B L es i) {p : Int} {o : Option Addr} {x : Bool} (hp : P[i]? = some p) (hb : B[i]? = some o.isSome) (hl : L[i]? = some x) : Part P B L (es ++ [{ p := p, b := o, l := x }]) (i + 1) := by
  refine ⟨by simp [h.len], ?_, ?_, ?_⟩
  · rw [List.map_append, h.p, List.take_add_one, hp]; rfl
  · rw [List.map_append, h.b, List.take_add_one, hb]; rfl
  · rw [List.map_append, h.l, List.take_add_one, hl]; rfl
theorem Que.put {w : World} {Q G : Nat} {n N head : Nat} {base : Int} {es : List QE} {i : Nat} (hes : es.length = i) (hi : i < N) (h : Que w Q G (es ++ List.replicate (N - i) zeroE) n N head base) (p : Int) (o : Option Addr) (x : Bool) :
    Que (((w.setCell ⟨G, i * 3, none⟩ (.int .i64 p)).setCell ⟨G, i * 3 + 1, none⟩ (.pointer o)).setCell ⟨G, i * 3 + 2, none⟩ (.bool x)) Q G ((es ++ [{ p := p, b := o, l := x }]) ++ List.replicate (N - (i + 1)) zeroE) n N head base := by
  have e0 : (es ++ List.replicate (N - i) zeroE)[i]? = some zeroE := by
    rw [List.getElem?_append_right (by omega), List.getElem?_replicate, if_pos (by omega)]
  have hil : i < (es ++ List.replicate (N - i) zeroE).length := by simp [hes]; omega
  have e3 : (es ++ List.replicate (N - i) zeroE).set i { p := p, b := o, l := x } = (es ++ [{ p := p, b := o, l := x }]) ++ List.replicate (N - (i + 1)) zeroE := by
    rw [List.set_append_right _ _ (by omega), hes, Nat.sub_self, show N - i = (N - (i + 1)) + 1 by omega, List.replicate_succ, List.set_cons_zero, List.append_assoc]; rfl
  refine ⟨((h.q.other h.ne _).other h.ne _).other h.ne _, ?_, h.ne, by simp [hes]; omega⟩
  have h1 := ((h.g.set (i * 3 + 0) (.int .i64 p)).set (i * 3 + 1) (.pointer o)).set (i * 3 + 2) (.bool x)
  rw [Nat.mul_comm i 3, flat_set (e' := { p := p, b := none, l := false }) e0 0 (by omega) _ rfl,
    flat_set (e := { p := p, b := none, l := false }) (e' := { p := p, b := o, l := false }) (List.getElem?_set_self hil) 1 (by omega) (.pointer o) rfl, List.set_set,
    flat_set (e := { p := p, b := o, l := false }) (e' := { p := p, b := o, l := x }) (List.getElem?_set_self hil) 2 (by omega) (.bool x) rfl, List.set_set, e3, Nat.mul_comm 3 i] at h1
  exact h1
end Go.Proofs.Qxb6618449a
