import Derived.Test.Qxb6618439aW6
namespace Go.Proofs.Qxb6618439a
open Go.RowKit

def eqB (a b : List Int) : Bool := decide (a = b)
theorem eqB_len {a b : List Int} (h : a.length ≠ b.length) : eqB a b = false := by
  unfold eqB; exact decide_eq_false (fun e => h (by rw [e]))
theorem eqB_diff {a b : List Int} {k : Nat} {x y : Int} (ha : a[k]? = some x) (hb : b[k]? = some y) (h : x ≠ y) : eqB a b = false := by
  unfold eqB; refine decide_eq_false (fun e => h ?_)
  rw [e, hb] at ha; exact (Option.some.inj ha).symm
theorem take_step {a b : List Int} {k : Nat} {x : Int} (ha : a[k]? = some x) (hb : b[k]? = some x) (h : a.take k = b.take k) : a.take (k + 1) = b.take (k + 1) := by
  obtain ⟨h1, e1⟩ := List.getElem?_eq_some_iff.1 ha
  obtain ⟨h2, e2⟩ := List.getElem?_eq_some_iff.1 hb
  rw [List.take_succ_eq_append_getElem h1, List.take_succ_eq_append_getElem h2, h, e1, e2]
theorem eqB_same {a b : List Int} (hl : a.length = b.length) (h : a.take a.length = b.take a.length) : eqB a b = true := by
  unfold eqB; refine decide_eq_true ?_
  rw [List.take_of_length_le (Nat.le_refl _), hl, List.take_of_length_le (Nat.le_refl _)] at h
  exact h

set_option maxRecDepth 100000 in
set_option maxHeartbeats 400000 in
theorem eq_any (va vb : Value) (a b : List Int) (w : World) (hA : Hid (Own w va a)) (hB : Hid (Own w vb b)) (hl : a.length ≤ 16777216) (hl2 : b.length ≤ 16777216) :
    Calls Try.prog 12 #[va, vb] w fun e w' => e = .returned (.bool (eqB a b)) ∧ ∃ n, w' = w.drewN n := by
  obtain ⟨oa, ca, rfl⟩ := hA.out.form
  obtain ⟨ob, cb, rfl⟩ := hB.out.form
  by_cases hlen : a.length = b.length
  · have hlen' : ((a.length : Int) != (b.length : Int)) = false := by simp [hlen]
    have HL := hide hlen
    clear hlen
    go_enter Try.func12, Try.ntmps12
    go_wp2
    go_loopw [5] (fun i wr => ∃ k n : Nat, i = .int .i64 k ∧ k ≤ a.length ∧ Hid (a.take k = b.take k) ∧ wr = w.drewN n) (fun i _ => a.length - (intOf i).toNat)
    case atStart => exact ⟨0, 0, rfl, Nat.zero_le _, rfl, rfl⟩
    case round =>
      obtain ⟨k, n, rfl, hk, htk, rfl⟩ := hrel
      by_cases hlt : k < a.length
      · obtain ⟨x, hx⟩ : ∃ x, a[k]? = some x := ⟨a[k], List.getElem?_eq_getElem hlt⟩
        obtain ⟨y, hy⟩ : ∃ y, b[k]? = some y := ⟨b[k]'(by rw [← HL.out]; exact hlt), List.getElem?_eq_getElem _⟩
        rcases hA.out.cases with ⟨_, rfl⟩ | ⟨g1, c1, _, e1, _⟩
        · simp at hlt
        rcases hB.out.cases with ⟨_, rfl⟩ | ⟨g2, c2, _, e2, _⟩
        · simp at hy
        simp only [Value.slice.injEq, true_and] at e1 e2
        obtain ⟨rfl, rfl⟩ := e1
        obtain ⟨rfl, rfl⟩ := e2
        have h1 := hA.out.cell hx
        have h2 := hB.out.cell hy
        have hlt2 : (k : Int) < (a.length : Int) := by omega
        have hlt3 : (k : Int) < (b.length : Int) := by have := HL.out; omega
        have HX := hide hx
        have HY := hide hy
        clear hx hy
        go_wp2_with fail
        go_quiet (fail)
        go_wp2_with fail
        · have hne : (x != y) = true := by assumption
          go_ret
          exact ⟨ret_bool (eqB_diff HX.out HY.out (by simpa using hne)).symm, n + nq, by simp⟩
        · have heq : (x != y) = false := by assumption
          have hxy : x = y := by simpa using heq
          go_roundw
          case rel => exact ⟨k + 1, _, by go_num, by omega, take_step HX.out (by rw [hxy]; exact HY.out) htk.out, rfl⟩
          case measure => simp [intOf]; omega
      · go_wp2
        go_ret
        exact ⟨ret_bool (by obtain rfl : k = a.length := by omega
                            exact (eqB_same HL.out htk.out).symm), n, rfl⟩
  · have hlen' : ((a.length : Int) != (b.length : Int)) = true := by simp; omega
    have HE := hide (eqB_len hlen)
    clear hlen
    go_enter Try.func12, Try.ntmps12
    go_wp2
    go_ret
    exact ⟨ret_bool HE.out.symm, 0, rfl⟩
/-- The bytes l lie where the slice's address points. -/
def Row (k : IntKind) (w : World) (ao : Option Addr) (l : List Int) : Prop := ∀ (i : Nat) (c : Int), l[i]? = some c → ∃ b off, ao = some ⟨b, off, none⟩ ∧ w.cell? ⟨b, off + i, none⟩ = some (.int k c)
theorem Row.addr {k : IntKind} {w : World} {ao : Option Addr} {l : List Int} (h : Row k w ao l) (hl : 0 < l.length) : ∃ b off, ao = some ⟨b, off, none⟩ := by
  obtain ⟨b, off, e, _⟩ := h 0 l[0] (List.getElem?_eq_getElem hl)
  exact ⟨b, off, e⟩
theorem Row.cell {k : IntKind} {w : World} {b off : Nat} {l : List Int} (h : Row k w (some ⟨b, off, none⟩) l) {i : Nat} {c : Int} (hc : l[i]? = some c) : w.cell? ⟨b, off + i, none⟩ = some (.int k c) := by
  obtain ⟨b', off', e, hh⟩ := h i c hc
  simp only [Option.some.injEq, Addr.mk.injEq, and_true] at e
  rw [e.1, e.2]; exact hh
theorem cell_below {w w' : World} (hb : Below w.heap.size w w') {a : Addr} {v : Value} (hc : w.cell? a = some v) : w'.cell? a = some v := (hb.cell (World.block_lt_of_cell? w a hc)).trans hc
theorem Row.later {k : IntKind} {w w' : World} {ao : Option Addr} {l : List Int} (h : Row k w ao l) (hb : Below w.heap.size w w') : Row k w' ao l := fun i c hc => by
  obtain ⟨b, off, e, hh⟩ := h i c hc
  exact ⟨b, off, e, cell_below hb hh⟩
theorem Own.row {w : World} {oa : Option Addr} {n cap : Nat} {bs : List Int} (h : Own w (.slice oa n cap) bs) : Row .u8 w oa bs := fun i c hc => by
  rcases h.cases with ⟨_, rfl⟩ | ⟨g, c', _, e, _⟩
  · simp at hc
  · simp only [Value.slice.injEq] at e
    obtain ⟨rfl, rfl, rfl⟩ := e
    exact ⟨g, 0, rfl, by rw [Nat.zero_add]; exact h.cell hc⟩

theorem clone_at (bs : List Int) (k : Nat) (h : k < bs.length) : (bs.take k ++ List.replicate (bs.length - k) (0 : Int))[k]? = some 0 := by
  have e : (bs.take k).length = k := by rw [List.length_take]; omega
  rw [List.getElem?_append_right (by omega), e, Nat.sub_self, List.getElem?_replicate, if_pos (by omega)]
theorem clone_step (bs : List Int) (k : Nat) {c : Int} (h : bs[k]? = some c) : (bs.take k ++ List.replicate (bs.length - k) (0 : Int)).set k c = bs.take (k + 1) ++ List.replicate (bs.length - (k + 1)) 0 := by
  obtain ⟨hk, rfl⟩ := List.getElem?_eq_some_iff.1 h
  have e : (bs.take k).length = k := by rw [List.length_take]; omega
  have e2 : bs.length - k = (bs.length - (k + 1)) + 1 := by omega
  rw [List.take_succ_eq_append_getElem hk, e2, List.replicate_succ, List.set_append_right _ _ (by omega), e, Nat.sub_self, List.set_cons_zero, List.append_assoc]
  rfl

/-- What a clone is: the same bytes in memory of its own. -/
def Cloned (w : World) (bs : List Int) (v' : Value) (w' : World) : Prop := Own w' v' bs ∧ capOf v' = bs.length ∧ Below w.heap.size w w' ∧ ∀ g, v'.ownBlock = some g → w.heap.size ≤ g

set_option maxRecDepth 100000 in
set_option maxHeartbeats 400000 in
theorem clone_nil (w : World) : Calls Try.prog 6 #[.slice none 0 0] w fun e w' => ∃ v', e = .returned v' ∧ Cloned w [] v' w' := by
  have hq := fun wx => Lib.run_eql_slice_nil (P := Try.prog) wx 24
  go_enter Try.func6, Try.ntmps6
  go_wp2
  go_ret
  exact ⟨_, rfl, Own.nil _, rfl, Below.refl _ _, fun g hg => by simp [Value.ownBlock] at hg⟩

theorem made_own (w : World) (n : Nat) (hm : n ≤ maxLen) : Own (w.alloc (.cells (madeCells #[Value.int IntKind.u8 0] n) 5)) (.slice (some ⟨w.heap.size, 0, none⟩) n n) (List.replicate n 0) := by
  have h := Own.mk (w := w.alloc (.cells (madeCells #[Value.int IntKind.u8 0] n) 5)) (cap := n) (bs := List.replicate n 0) (heap_alloc_new w _) (by simp) hm (made_size n) (by
    rw [List.length_replicate, List.take_of_length_le (by rw [Array.length_toList, made_size]; exact Nat.le_refl _), List.map_replicate]
    apply List.ext_getElem
    · rw [Array.length_toList, made_size, List.length_replicate]
    · intro i h1 h2
      simp [madeCells, Nat.mod_one])
  rw [List.length_replicate] at h
  exact h

set_option maxRecDepth 100000 in
set_option maxHeartbeats 400000 in
theorem clone_some (x : Addr) (cap : Nat) (bs : List Int) (w : World) (hR : Hid (Row .u8 w (some x) bs)) (hl : bs.length ≤ 16777216) :
    Calls Try.prog 6 #[.slice (some x) bs.length cap] w fun e w' => ∃ v', e = .returned v' ∧ Cloned w bs v' w' := by
  obtain ⟨i0, hi, hz0, hz1, hz2⟩ := info_parts info5
  have hmk := fun wx => run_make (P := Try.prog) wx 24 5 i0 (.int .u8 0) Try.underlying24 hi hz0 .i64 .i64 bs.length bs.length (by omega) (by omega) (by rw [hz2]; omega) (by omega)
  rw [hz1, Nat.mul_one, Int.toNat_natCast] at hmk
  clear hi hz0 hz1 hz2
  have HO := hide (made_own w bs.length (by unfold maxLen; omega))
  have HB := hide ((Below.refl w.heap.size w).alloc (Nat.le_refl _) (.cells (madeCells #[Value.int IntKind.u8 0] bs.length) 5))
  have hq := fun wx => Lib.run_eql_slice_nil (P := Try.prog) wx 24
  go_enter Try.func6, Try.ntmps6
  go_wp2_with fail
  clear hq
  go_loopw [4] (fun i wr => ∃ k : Nat, i = .int .i64 k ∧ k ≤ bs.length ∧ Hid (Own wr (.slice (some ⟨w.heap.size, 0, none⟩) bs.length bs.length) (bs.take k ++ List.replicate (bs.length - k) 0)) ∧ Hid (Below w.heap.size w wr)) (fun i _ => bs.length - (intOf i).toNat)
  case atStart => exact ⟨0, rfl, Nat.zero_le _, by simpa [Hid] using HO.out, HB⟩
  case round =>
    clear HO HB
    obtain ⟨k, rfl, hk, hO, hB⟩ := hrel
    by_cases hlt : k < bs.length
    · obtain ⟨c, hx⟩ : ∃ c, bs[k]? = some c := ⟨bs[k], List.getElem?_eq_getElem hlt⟩
      obtain ⟨b, off, ex⟩ := hR.out.addr (by omega)
      obtain rfl := Option.some.inj ex
      have hcell := (hR.out.later hB.out).cell hx
      have hlen : (bs.take k ++ List.replicate (bs.length - k) (0 : Int)).length = bs.length := by simp; omega
      have hold := hO.out.cell (i := k) (c := 0) (clone_at bs k hlt)
      have hfz := hO.out.free k
      have HX := hide hx
      clear hx ex
      go_wp2_with fail
      go_roundw
      case rel => exact ⟨k + 1, by go_num, by omega, by rw [Hid, ← clone_step bs k HX.out]; exact hO.out.set k c, hB.out.setCell (Nat.le_refl _) _⟩
      case measure => simp [intOf]; omega
    · obtain rfl : k = bs.length := by omega
      rw [Nat.sub_self, List.replicate_zero, List.append_nil, List.take_of_length_le (Nat.le_refl _)] at hO
      go_wp2_with fail
      go_ret
      exact ⟨_, rfl, hO.out, rfl, hB.out, fun g hg => by
        have : w.heap.size = g := by simpa [Value.ownBlock] using hg
        omega⟩
end Go.Proofs.Qxb6618439a
