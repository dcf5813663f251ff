import Derived.Test.Qxb6618449aW1
namespace Go.Proofs.Qxb6618449a
open Go.RowKit

/-- An element of the queue: its point, its attempt's place, whether it is live. -/
structure QE where
  p : Int
  b : Option Addr
  l : Bool
def cellsE (e : QE) : List Value := [.int .i64 e.p, .pointer e.b, .bool e.l]
/-- The queue's row, cell by cell. -/
def flat (qs : List QE) : List Value := qs.flatMap cellsE
theorem flat_cons (e : QE) (qs : List QE) : flat (e :: qs) = cellsE e ++ flat qs := rfl
theorem flat_app (a b : List QE) : flat (a ++ b) = flat a ++ flat b := by simp [flat]
theorem flat_len (qs : List QE) : (flat qs).length = 3 * qs.length := by
  induction qs with
  | nil => rfl
  | cons e r ih => rw [flat_cons, List.length_append, ih, List.length_cons]; simp [cellsE]; omega
theorem flat_take (qs : List QE) (n : Nat) : (flat qs).take (3 * n) = flat (qs.take n) := by
  induction qs generalizing n with
  | nil => simp [flat]
  | cons e r ih =>
    cases n with
    | zero => simp [flat]
    | succ n =>
      rw [List.take_succ_cons, flat_cons, flat_cons, ← ih n, show 3 * (n + 1) = 3 * n + 1 + 1 + 1 by omega]
      simp [cellsE]
theorem flat_drop (qs : List QE) (n : Nat) : (flat qs).drop (3 * n) = flat (qs.drop n) := by
  induction qs generalizing n with
  | nil => simp [flat]
  | cons e r ih =>
    cases n with
    | zero => simp [flat]
    | succ n =>
      rw [List.drop_succ_cons, flat_cons, ← ih n, show 3 * (n + 1) = 3 * n + 1 + 1 + 1 by omega]
      simp [cellsE]
theorem flat_one {qs : List QE} {i : Nat} {e : QE} (h : qs[i]? = some e) (j : Nat) (hj : j < 3) : (flat qs)[3 * i + j]? = (cellsE e)[j]? := by
  rw [← List.getElem?_drop, flat_drop]
  have : qs.drop i = e :: qs.drop (i + 1) := by
    rw [List.drop_eq_getElem_cons (List.getElem?_eq_some_iff.1 h).1, (List.getElem?_eq_some_iff.1 h).2]
  rw [this, flat_cons, List.getElem?_append_left (by simpa [cellsE] using hj)]
theorem flat_p {qs : List QE} {i : Nat} {e : QE} (h : qs[i]? = some e) : (flat qs)[3 * i]? = some (.int .i64 e.p) := flat_one h 0 (by omega)
theorem flat_b {qs : List QE} {i : Nat} {e : QE} (h : qs[i]? = some e) : (flat qs)[3 * i + 1]? = some (.pointer e.b) := flat_one h 1 (by omega)
theorem flat_l {qs : List QE} {i : Nat} {e : QE} (h : qs[i]? = some e) : (flat qs)[3 * i + 2]? = some (.bool e.l) := flat_one h 2 (by omega)
theorem flat_split {qs : List QE} {i : Nat} {e : QE} (h : qs[i]? = some e) : flat qs = flat (qs.take i) ++ (cellsE e ++ flat (qs.drop (i + 1))) := by
  have : qs = qs.take i ++ e :: qs.drop (i + 1) := by
    rw [← (List.getElem?_eq_some_iff.1 h).2, List.getElem_cons_drop, List.take_append_drop]
  conv => lhs; rw [this]
  rw [flat_app, flat_cons]
theorem flat_setE {qs : List QE} {i : Nat} {e e' : QE} (h : qs[i]? = some e) : flat (qs.set i e') = flat (qs.take i) ++ (cellsE e' ++ flat (qs.drop (i + 1))) := by
  have hi := (List.getElem?_eq_some_iff.1 h).1
  have h' : (qs.set i e')[i]? = some e' := List.getElem?_set_self hi
  rw [flat_split h', List.take_set_of_le (Nat.le_refl _), List.drop_set_of_lt (by omega)]
theorem flat_set {qs : List QE} {i : Nat} {e e' : QE} (h : qs[i]? = some e) (j : Nat) (hj : j < 3) (v : Value) (hv : (cellsE e).set j v = cellsE e') : (flat qs).set (3 * i + j) v = flat (qs.set i e') := by
  have hi := (List.getElem?_eq_some_iff.1 h).1
  have hl : (flat (qs.take i)).length = 3 * i := by rw [flat_len, List.length_take, Nat.min_eq_left (by omega)]
  rw [flat_setE h, flat_split h, List.set_append_right _ _ (by omega), hl, show 3 * i + j - 3 * i = j by omega, List.set_append_left _ _ (by simpa [cellsE] using hj), hv]
theorem flat_one' (qs : List QE) : ∀ v ∈ flat qs, v.oneCell' = true := by
  intro v hv
  obtain ⟨e, _, hv⟩ := List.mem_flatMap.1 hv
  simp only [cellsE, List.mem_cons, List.not_mem_nil, or_false] at hv
  rcases hv with rfl | rfl | rfl <;> rfl

/-- An element taken out. -/
def gone (e : QE) : QE := { p := e.p, b := none, l := false }
def zeroE : QE := { p := 0, b := none, l := false }

/-- f is the first live index and m the index behind the last live one; with none live both are the length. -/
structure Span (L : List Bool) (f m : Nat) : Prop where
  fm : f ≤ m
  mn : m ≤ L.length
  before : ∀ j, j < f → L[j]? = some false
  behind : ∀ j, m ≤ j → j < L.length → L[j]? = some false
  first : f < L.length → f < m ∧ L[f]? = some true
  last : f < m → L[m - 1]? = some true

/-- Is the live span moved to the front? -/
def Moves (f m : Nat) : Prop := m / 2 < f ∧ 32 ≤ f
/-- What is left of the queue: where the span begins, its length, head and base. -/
structure Left (n f m : Nat) (base : Int) (off len head : Nat) (base' : Int) : Prop where
  none : f = m → off = 0 ∧ len = 0 ∧ head = 0 ∧ base' = wrap64 (base + n)
  moved : f < m → Moves f m → off = f ∧ len = m - f ∧ head = 0 ∧ base' = wrap64 (base + f)
  kept : f < m → ¬ Moves f m → off = 0 ∧ len = m ∧ head = f ∧ base' = base
/-- The queue in memory. -/
structure Que (w : World) (Q G : Nat) (qs : List QE) (n N : Nat) (head : Nat) (base : Int) : Prop where
  q : At w Q 30 [.slice (some ⟨G, 0, none⟩) n N, .int .i64 head, .int .i64 base]
  g : At w G 38 (flat qs)
  ne : Q ≠ G
  len : qs.length = N
section
variable {w : World} {Q G : Nat} {qs : List QE} {n N head : Nat} {base : Int}
theorem Que.c0 (h : Que w Q G qs n N head base) : w.cell? ⟨Q, 0, none⟩ = some (.slice (some ⟨G, 0, none⟩) n N) := h.q.cell rfl
theorem Que.c1 (h : Que w Q G qs n N head base) : w.cell? ⟨Q, 1, none⟩ = some (.int .i64 head) := h.q.cell rfl
theorem Que.c2 (h : Que w Q G qs n N head base) : w.cell? ⟨Q, 2, none⟩ = some (.int .i64 base) := h.q.cell rfl
theorem Que.freeQ (h : Que w Q G qs n N head base) (i : Nat) : w.frozen? ⟨Q, i, none⟩ = false := h.q.free i
theorem Que.freeG (h : Que w Q G qs n N head base) (i : Nat) : w.frozen? ⟨G, i, none⟩ = false := h.g.free i
theorem Que.p (h : Que w Q G qs n N head base) {i : Nat} {e : QE} (he : qs[i]? = some e) : w.cell? ⟨G, i * 3, none⟩ = some (.int .i64 e.p) := by rw [Nat.mul_comm]; exact h.g.cell (flat_p he)
theorem Que.b (h : Que w Q G qs n N head base) {i : Nat} {e : QE} (he : qs[i]? = some e) : w.cell? ⟨G, i * 3 + 1, none⟩ = some (.pointer e.b) := by rw [Nat.mul_comm]; exact h.g.cell (flat_b he)
theorem Que.l (h : Que w Q G qs n N head base) {i : Nat} {e : QE} (he : qs[i]? = some e) : w.cell? ⟨G, i * 3 + 2, none⟩ = some (.bool e.l) := by rw [Nat.mul_comm]; exact h.g.cell (flat_l he)
theorem Que.live (h : Que w Q G qs n N head base) {i : Nat} {x : Bool} (he : (qs.map QE.l)[i]? = some x) : w.cell? ⟨G, i * 3 + 2, none⟩ = some (.bool x) := by
  rw [List.getElem?_map] at he
  obtain ⟨e, h1, rfl⟩ := Option.map_eq_some_iff.1 he
  exact h.l h1
theorem Que.drewN (h : Que w Q G qs n N head base) (k : Nat) : Que (w.drewN k) Q G qs n N head base := ⟨h.q.drewN k, h.g.drewN k, h.ne, h.len⟩
theorem Que.gone (h : Que w Q G qs n N head base) {i : Nat} {e : QE} (he : qs[i]? = some e) : Que ((w.setCell ⟨G, i * 3 + 1, none⟩ (.pointer none)).setCell ⟨G, i * 3 + 2, none⟩ (.bool false)) Q G (qs.set i (Qxb6618449a.gone e)) n N head base := by
  refine ⟨(h.q.other h.ne _).other h.ne _, ?_, h.ne, by rw [List.length_set]; exact h.len⟩
  have h1 := (h.g.set (i * 3 + 1) (.pointer none)).set (i * 3 + 2) (.bool false)
  rw [Nat.mul_comm i 3, flat_set (e' := { p := e.p, b := none, l := e.l }) he 1 (by omega) _ rfl,
    flat_set (e := { p := e.p, b := none, l := e.l }) (e' := Qxb6618449a.gone e) (List.getElem?_set_self (List.getElem?_eq_some_iff.1 he).1) 2 (by omega) (.bool false) rfl, List.set_set, Nat.mul_comm 3 i] at h1
  exact h1
theorem Que.setHead (h : Que w Q G qs n N head base) (x : Nat) : Que (w.setCell ⟨Q, 1, none⟩ (.int .i64 x)) Q G qs n N x base := ⟨h.q.set 1 _, h.g.other h.ne.symm _, h.ne, h.len⟩
theorem Que.setPts (h : Que w Q G qs n N head base) (x : Nat) : Que (w.setCell ⟨Q, 0, none⟩ (.slice (some ⟨G, 0, none⟩) x N)) Q G qs x N head base := ⟨h.q.set 0 _, h.g.other h.ne.symm _, h.ne, h.len⟩
theorem Que.setBase (h : Que w Q G qs n N head base) (x : Int) : Que (w.setCell ⟨Q, 2, none⟩ (.int .i64 x)) Q G qs n N head x := ⟨h.q.set 2 _, h.g.other h.ne.symm _, h.ne, h.len⟩
end

theorem size38 : (Try.prog.info? 38).map (·.size) = some 3 := by kernel_rfl
theorem zero38 : (Try.prog.info? 38).map (fun i => i.zero.map (·.cells)) = some (some #[.int .i64 0, .pointer none, .bool false]) := by kernel_rfl
theorem flat_over (qs us : List QE) (i : Nat) : over (flat qs) (i * 3) (flat us) = flat (qs.take i ++ us ++ qs.drop (i + us.length)) := by
  unfold over
  rw [flat_app, flat_app, ← flat_take, ← flat_drop, flat_len, Nat.mul_comm i 3, ← Nat.mul_add]
theorem flat_zeros (n : Nat) : (Builtin.zeroCells #[.int .i64 0, .pointer none, .bool false] n).toList = flat (List.replicate n zeroE) := by
  refine List.ext_getElem? (fun i => ?_)
  by_cases hi : i < n * 3
  · have h1 : (List.replicate n zeroE)[i / 3]? = some zeroE := by rw [List.getElem?_replicate, if_pos (by omega)]
    have h2 := flat_one h1 (i % 3) (by omega)
    rw [show 3 * (i / 3) + i % 3 = i by omega] at h2
    rw [h2]
    have h3 : (Builtin.zeroCells #[Value.int .i64 0, .pointer none, .bool false] n).toList[i]? = some (#[Value.int .i64 0, .pointer none, .bool false][i % 3]!) := by
      simp [Builtin.zeroCells, hi]
    rw [h3]
    have h4 : i % 3 = 0 ∨ i % 3 = 1 ∨ i % 3 = 2 := by omega
    rcases h4 with h4 | h4 | h4 <;> rw [h4] <;> rfl
  · rw [List.getElem?_eq_none (by simp [Builtin.zeroCells]; omega), List.getElem?_eq_none (by rw [flat_len, List.length_replicate]; omega)]
section
variable {w : World} {Q G : Nat} {qs : List QE} {n N head : Nat} {base : Int}
theorem Que.isC (h : Que w Q G qs n N head base) (i : Nat) (hi : i < 3 * N) : (w.cell? ⟨G, i, none⟩).isSome = true := by
  rw [cell_of_row _ _ _ _ _ _ h.g, Array.getElem?_eq_getElem (by simp [flat_len, h.len]; omega)]; rfl
theorem Que.copy (h : Que w Q G qs n N head base) (f d c : Nat) (hf : f + d ≤ N) : (Builtin.copy_ #[28, 28] 3 #[.slice (some ⟨G, 0, none⟩) (f + d) N, .slice (some ⟨G, f * 3, none⟩) d c]).run Try.prog w = .ok (goInt d) (w.setCells G 0 (flat ((qs.drop f).take d))) := by
  have hl : ((qs.drop f).take d).length = d := by rw [List.length_take, List.length_drop, h.len]; omega
  have hmin : Nat.min d (f + d) = d := Nat.min_eq_left (by omega)
  have hr := run_copy_wide (P := Try.prog) w 28 28 3 38 3 G 0 (f + d) N ⟨G, f * 3, none⟩ d c (flat ((qs.drop f).take d)) Try.underlying28 size38 (by rw [hmin, flat_len, hl]) ?_ ?_ (fun j _ => h.g.free _) (flat_one' _)
  · rw [hr, hmin]
  · intro j v hv
    rw [Addr.add_lit]
    refine h.g.cell ?_
    rw [← flat_take, List.getElem?_take] at hv
    split at hv
    · rw [← flat_drop, List.getElem?_drop] at hv
      rw [Nat.mul_comm]; exact hv
    · simp at hv
  · intro j hj
    rw [flat_len, hl] at hj
    exact h.isC _ (by omega)
theorem Que.copied (h : Que w Q G qs n N head base) (us : List QE) (i : Nat) (hu : i + us.length ≤ N) : Que (w.setCells G (i * 3) (flat us)) Q G (qs.take i ++ us ++ qs.drop (i + us.length)) n N head base := by
  have hl := h.len
  refine ⟨h.q.kept (S := fun k => k = G) (Touch.setCells (S := fun k => k = G) (a := w) (g := G) (fun _ => rfl) (flat us) (i * 3) (Touch.refl (fun k => k = G) w)) h.ne, ?_, h.ne, by simp; omega⟩
  rw [← flat_over]
  exact At.setCells _ _ h.g (by rw [flat_len, flat_len]; omega)
theorem Que.clear (h : Que w Q G qs n N head base) (ty : TypeId) (i r c : Nat) (hr : 0 < r) (hN : i + r ≤ N) : (Builtin.clear_ #[28] ty #[.slice (some ⟨G, i * 3, none⟩) r c]).run Try.prog w = .ok (.tuple #[]) (w.setCells G (i * 3) (flat (List.replicate r zeroE))) := by
  obtain ⟨z, hz, hzc⟩ : ∃ z, (Try.prog.info? 38).map (·.zero) = some (some z) ∧ z.cells = #[.int .i64 0, .pointer none, .bool false] := by
    have h0 := zero38
    cases hq : Try.prog.info? 38 with
    | none => simp [hq] at h0
    | some j =>
      rw [hq] at h0
      simp only [Option.map_some, Option.some.injEq, Option.map_eq_some_iff] at h0
      obtain ⟨z, h1, h2⟩ := h0
      exact ⟨z, by simp [h1], h2⟩
  have hc := run_clear_wide (P := Try.prog) w 28 ty 38 z G (i * 3) r c hr Try.underlying28 hz
  rw [hzc, flat_zeros] at hc
  refine hc ?_ (fun j _ => h.g.free _) (flat_one' _)
  intro j hj
  rw [flat_len, List.length_replicate] at hj
  exact h.isC _ (by omega)
end
end Go.Proofs.Qxb6618449a
