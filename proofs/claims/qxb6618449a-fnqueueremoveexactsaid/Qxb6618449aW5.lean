import Derived.Test.Qxb6618449aW4
import Derived.Lib.LazyBuf
namespace Go.Proofs.Qxb6618449a
open Go.RowKit

/-- What a slice that came in leads to: its elements, where they lie. -/
def Lies (w : World) (a : Option Addr) (n : Nat) (vs : List Value) : Prop := vs.length = n ∧ (∀ i v, vs[i]? = some v → ∃ b o, a = some ⟨b, o, none⟩ ∧ w.cell? ⟨b, o + i, none⟩ = some v)
theorem Lies.kept {w w' : World} {a : Option Addr} {n : Nat} {vs : List Value} (h : Lies w a n vs) (hb : Below w.heap.size w w') : Lies w' a n vs :=
  ⟨h.1, fun i v hv => by
    obtain ⟨b, o, h1, h2⟩ := h.2 i v hv
    refine ⟨b, o, h1, ?_⟩
    have hlt : b < w.heap.size := by
      unfold World.cell? at h2
      cases hq : w.heap[b]? with
      | none => simp [hq] at h2
      | some x => exact lt_of_block hq
    unfold World.cell? at h2 ⊢
    rw [show w'.heap[(⟨b, o + i, none⟩ : Addr).block]? = w.heap[b]? from hb.block b hlt]
    exact h2⟩
/-- The copy that the law takes first. -/
def Copied (w : World) (t : TypeId) (n : Nat) (vs : List Value) (x : Value) (w' : World) : Prop :=
  ∃ a c, x = .slice a n c ∧ (0 < n → ∃ g, a = some ⟨g, 0, none⟩ ∧ c = n ∧ At w' g t vs) ∧ Below w.heap.size w w'

set_option maxRecDepth 100000 in
set_option maxHeartbeats 400000 in
theorem law_out (a0 a1 a2 : Option Addr) (n0 n1 n2 c0 c1 c2 : Nat) (x y z : Int) (w : World) (h0 : n0 ≤ maxLen) (h1 : n1 ≤ maxLen) (h2 : n2 ≤ maxLen) (h : 65536 < n0 ∨ 65536 < n1 ∨ 65536 < n2) :
    Calls Try.prog 3 #[.slice a0 n0 c0, .slice a1 n1 c1, .slice a2 n2 c2, .int .i64 x, .int .i64 y, .int .i64 z] w fun e w' => e = .returned (.bool true) ∧ Below w.heap.size w w' := by
  unfold maxLen at *
  by_cases h3 : 65536 < n0
  · go_enter Try.func3, Try.ntmps3
    go_wp2
    all_goals (go_ret; exact ⟨rfl, Below.refl _ _⟩)
  by_cases h4 : 65536 < n1
  · go_enter Try.func3, Try.ntmps3
    go_wp2
    all_goals (go_ret; exact ⟨rfl, Below.refl _ _⟩)
  have h5 : 65536 < n2 := by omega
  go_enter Try.func3, Try.ntmps3
  go_wp2
  all_goals (go_ret; exact ⟨rfl, Below.refl _ _⟩)

theorem copy_in (w : World) (dT elem : TypeId) (z : Value) (vs : List Value) (n : Nat) (x : Addr) (c : Nat) (hu : Try.prog.underlying dT = some (.slice elem)) (hs : (Try.prog.info? elem).map (·.size) = some 1) (hL : Lies w (some x) n vs) (h1 : ∀ v ∈ vs, v.oneCell' = true) :
    (Builtin.copy_ #[dT, dT] 3 #[.slice (some ⟨w.heap.size, 0, none⟩) n n, .slice (some x) n c]).run Try.prog (w.alloc (.cells (Array.replicate n z) elem)) = .ok (goInt n) ((w.alloc (.cells (Array.replicate n z) elem)).setCells w.heap.size 0 vs) ∧
    At ((w.alloc (.cells (Array.replicate n z) elem)).setCells w.heap.size 0 vs) w.heap.size elem vs ∧ Below w.heap.size w ((w.alloc (.cells (Array.replicate n z) elem)).setCells w.heap.size 0 vs) := by
  have hmin : Nat.min n n = n := Nat.min_self n
  have a1 : At (w.alloc (.cells (Array.replicate n z) elem)) w.heap.size elem (List.replicate n z) := by
    rw [At, heap_alloc_new]; simp
  have hlen := hL.1
  refine ⟨?_, ?_, ?_⟩
  · have hr := run_copy_wide (P := Try.prog) (w.alloc (.cells (Array.replicate n z) elem)) dT dT 3 elem 1 w.heap.size 0 n n x n c vs hu hs (by rw [hmin, hlen, Nat.one_mul]) ?_ ?_ (fun j _ => a1.free _) h1
    · rw [hr, hmin]
    · intro j v hv
      obtain ⟨b, o, hx, hc⟩ := hL.2 j v hv
      obtain rfl : x = ⟨b, o, none⟩ := by simpa using hx
      have hlt : b < w.heap.size := by
        unfold World.cell? at hc
        cases hq : w.heap[b]? with
        | none => simp [hq] at hc
        | some y => exact lt_of_block hq
      rw [Addr.add_lit, World.cell?_alloc_past _ _ _ hlt]
      exact hc
    · intro j hj
      rw [a1.cell (v := z) (by rw [List.getElem?_replicate, if_pos (by omega)])]; rfl
  · have h := At.setCells vs 0 a1 (by rw [List.length_replicate]; omega)
    rwa [show over (List.replicate n z) 0 vs = vs by simp [over, hlen]] at h
  · exact (Touch.setCells (S := fun _ => False) (a := w) (g := w.heap.size) (fun h => absurd h (by omega)) vs 0 ((Touch.refl _ w).alloc _)).self_below (fun _ f => f.elim)
theorem bools_one (B : List Bool) : ∀ v ∈ B.map Value.bool, v.oneCell' = true := by
  intro v hv
  obtain ⟨b, _, rfl⟩ := List.mem_map.1 hv
  rfl
theorem size2 : (Try.prog.info? 2).map (·.size) = some 1 := by kernel_rfl
theorem size4 : (Try.prog.info? 4).map (·.size) = some 1 := by kernel_rfl
theorem zzBytes_in (a0 a1 a2 : Option Addr) (n0 n1 n2 c0 c1 c2 : Nat) (x y z : Int) (w : World) (h0 : n0 ≤ 65536) (h1 : n1 ≤ 65536) (h2 : n2 ≤ 65536) :
    Calls Try.prog 4 #[.slice a0 n0 c0, .slice a1 n1 c1, .slice a2 n2 c2, .int .i64 x, .int .i64 y, .int .i64 z] w fun e w' => e = .returned (.bool true) ∧ w' = w := by
  go_enter Try.func4, Try.ntmps4
  go_wp2
  go_ret
  exact ⟨rfl, rfl⟩

/-- What the law's own scan has seen of the live marks before i: f, m as in Span; x and y are the scan's first and last. -/
def Seen (M : List Bool) (i : Nat) (x y : Int) : Prop :=
  ∃ f m : Nat, f ≤ m ∧ m ≤ i ∧ (∀ j, j < f → M[j]? = some false) ∧ (∀ j, m ≤ j → j < i → M[j]? = some false) ∧ (f < i → f < m ∧ M[f]? = some true) ∧ (f < m → M[m - 1]? = some true) ∧ ((f = m ∧ x = -1 ∧ y = -1) ∨ (f < m ∧ x = f ∧ y = (m : Int) - 1))
theorem Seen.start (M : List Bool) : Seen M 0 (-1) (-1) := ⟨0, 0, Nat.le_refl _, Nat.le_refl _, fun j h => absurd h (by omega), fun j _ h => absurd h (by omega), fun h => absurd h (by omega), fun h => absurd h (by omega), .inl ⟨rfl, rfl, rfl⟩⟩
theorem Seen.skip {M : List Bool} {i : Nat} {x y : Int} (h : Seen M i x y) (hi : M[i]? = some false) : Seen M (i + 1) x y := by
  obtain ⟨f, m, h1, h2, h3, h4, h5, h6, h7⟩ := h
  by_cases hf : f < i
  · refine ⟨f, m, h1, by omega, h3, fun j hj hji => ?_, fun _ => h5 hf, h6, h7⟩
    by_cases hji' : j < i
    · exact h4 j hj hji'
    · obtain rfl : j = i := by omega
      exact hi
  · obtain ⟨hfm, hx, hy⟩ : f = m ∧ x = -1 ∧ y = -1 := by
      rcases h7 with h7 | h7
      · exact h7
      · omega
    obtain rfl : f = i := by omega
    refine ⟨f + 1, f + 1, Nat.le_refl _, Nat.le_refl _, fun j hj => ?_, fun j hj hji => absurd hji (by omega), fun hf => absurd hf (by omega), fun hf => absurd hf (by omega), .inl ⟨rfl, hx, hy⟩⟩
    by_cases hji' : j < f
    · exact h3 j hji'
    · obtain rfl : j = f := by omega
      exact hi
theorem Seen.none {M : List Bool} {i : Nat} {x y : Int} (h : Seen M i x y) (hx : x < 0) (hi : M[i]? = some true) : Seen M (i + 1) i i := by
  obtain ⟨f, m, h1, h2, h3, h4, h5, h6, h7⟩ := h
  obtain ⟨hfm, _, _⟩ : f = m ∧ x = -1 ∧ y = -1 := by
    rcases h7 with h7 | h7
    · exact h7
    · omega
  obtain rfl : f = i := by
    by_cases hf : f < i
    · have := (h5 hf).1; omega
    · omega
  exact ⟨f, f + 1, by omega, Nat.le_refl _, h3, fun j hj hji => absurd hji (by omega), fun _ => ⟨by omega, hi⟩, fun _ => by rw [Nat.add_sub_cancel]; exact hi, .inr ⟨by omega, rfl, by omega⟩⟩
theorem Seen.some {M : List Bool} {i : Nat} {x y : Int} (h : Seen M i x y) (hx : 0 ≤ x) (hi : M[i]? = some true) : Seen M (i + 1) x i := by
  obtain ⟨f, m, h1, h2, h3, h4, h5, h6, h7⟩ := h
  obtain ⟨hfm, hx, _⟩ : f < m ∧ x = f ∧ y = (m : Int) - 1 := by
    rcases h7 with h7 | h7
    · omega
    · exact h7
  exact ⟨f, i + 1, by omega, Nat.le_refl _, h3, fun j hj hji => absurd hji (by omega), fun _ => ⟨by omega, (h5 (by omega)).2⟩, fun _ => by rw [Nat.add_sub_cancel]; exact hi, .inr ⟨by omega, hx, by omega⟩⟩
theorem Seen.span {M : List Bool} {x y : Int} (h : Seen M M.length x y) : ∃ f m, Span M f m ∧ ((f = m ∧ x = -1 ∧ y = -1) ∨ (f < m ∧ x = f ∧ y = (m : Int) - 1)) := by
  obtain ⟨f, m, h1, h2, h3, h4, h5, h6, h7⟩ := h
  exact ⟨f, m, ⟨h1, h2, h3, h4, h5, h6⟩, h7⟩
theorem Seen.small {M : List Bool} {i : Nat} {x y : Int} (h : Seen M i x y) : (x = -1 ∧ y = -1) ∨ (0 ≤ x ∧ x < i ∧ 0 ≤ y ∧ y < i) := by
  obtain ⟨f, m, h1, h2, h3, h4, h5, h6, h7⟩ := h
  omega
theorem Left.unique {n f m off len head off' len' head' : Nat} {base b1 b2 : Int} (h : Left n f m base off len head b1) (h' : Left n f m base off' len' head' b2) (hfm : f ≤ m) : off' = off ∧ len' = len ∧ head' = head ∧ b2 = b1 := by
  by_cases h1 : f = m
  · have h2 := h.none h1
    have h3 := h'.none h1
    omega
  · by_cases h4 : Moves f m
    · have h2 := h.moved (by omega) h4
      have h3 := h'.moved (by omega) h4
      omega
    · have h2 := h.kept (by omega) h4
      have h3 := h'.kept (by omega) h4
      omega
end Go.Proofs.Qxb6618449a
