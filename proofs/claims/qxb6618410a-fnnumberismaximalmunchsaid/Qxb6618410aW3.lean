import Derived.Test.Qxb6618410aW2
namespace Go.Proofs.Qxb6618410a
open Go.RowKit

theorem cell_below {w w' : World} (hb : Below w.heap.size w w') {a : Addr} {v : Value} (hc : w.cell? a = some v) : w'.cell? a = some v := (hb.cell (World.block_lt_of_cell? w a hc)).trans hc
theorem Row.later {w w' : World} {ao : Option Addr} {l : List Int} (h : Row w ao l) (hb : Below w.heap.size w w') : Row w' ao l := fun i c hc => by
  obtain ⟨b, off, e, hh⟩ := h i c hc
  exact ⟨b, off, e, cell_below hb hh⟩
theorem isNum_at (n : Nat) (ao : Option Addr) (cap : Nat) (l : List Int) (w : World) (hn : n = l.length) (hr : Hid (Row w ao l)) (hl : n ≤ 1048576) (hc : n ≤ cap) :
    Calls Try.prog 7 #[.slice ao n cap] w fun e w' => e = .returned (.bool (ok 0 l)) ∧ w' = w := by
  subst hn; rw [← isNum_eq]; exact isNum_any ao cap l w hr hl hc
theorem info5 : (Try.prog.info? 5).map (fun i => (i.zero, i.size, i.bytes)) = some (some (.int .u8 0), 1, 1) := by kernel_rfl

theorem made_at (n : Nat) (h : 0 < n) : (madeCells (Value.int IntKind.u8 0).cells n).toList[0]? = some (.int .u8 0) := by
  unfold madeCells
  rw [Array.getElem?_toList, Array.getElem?_map, Array.getElem?_range]
  simp [h, Value.cells]
/-- The copy so far. -/
def Copied (xs : List Value) (l : List Int) (k : Nat) : Prop := ∀ (j : Nat) (c : Int), j < k → l[j]? = some c → xs[j]? = some (.int .u8 c)
theorem Copied.step {xs : List Value} {l : List Int} {k : Nat} {c : Int} (h : Copied xs l k) (hx : l[k]? = some c) (hk : k < xs.length) : Copied (xs.set k (.int .u8 c)) l (k + 1) := fun j d hj hd => by
  by_cases e : j = k
  · subst e
    rw [hx] at hd
    have : c = d := by simpa using hd
    subst this
    rw [List.getElem?_set_self hk]
  · rw [List.getElem?_set_ne (fun h => e h.symm)]
    exact h j d (by omega) hd
theorem Copied.row {w : World} {B n : Nat} {xs : List Value} {l : List Int} (h : Copied xs l n) (hl : l.length = n) (hlen : n < xs.length)
    (hown : w.ownsRow B 5 1 (.slice (some ⟨B, 0, none⟩) (n + 1) (n + 1)) (n + 1) (xs.set n (.int .u8 48))) : Row w (some ⟨B, 0, none⟩) (l ++ [48]) := fun i c hc => by
  refine ⟨B, 0, rfl, ?_⟩
  have hi : i < (l ++ [(48 : Int)]).length := (List.getElem?_eq_some_iff.1 hc).1
  have hi' : i < n + 1 := by simpa [hl] using hi
  rw [Nat.zero_add, hown.cellAt i (by omega)]
  by_cases e : i = n
  · subst e
    rw [List.getElem?_set_self hlen]
    rw [List.getElem?_append_right (by omega), hl] at hc
    have : (48 : Int) = c := by simpa using hc
    rw [this]
  · rw [List.getElem?_set_ne (fun h => e h.symm)]
    rw [List.getElem?_append_left (by omega)] at hc
    exact h i c (by omega) hc

set_option maxRecDepth 100000 in
set_option maxHeartbeats 400000 in
theorem prefix_any (ao : Option Addr) (cap : Nat) (l : List Int) (w : World) (hr : Hid (Row w ao l)) (hl : l.length ≤ 65536) (hc : l.length ≤ cap) :
    Calls Try.prog 6 #[.slice ao l.length cap] w fun e w' => e = .returned (.bool (alive 0 l)) ∧ Below w.heap.size w w' := by
  have HA : Hid ((ok 0 l || ok 0 (l ++ [48])) = alive 0 l) := alive_eq l 0 (by omega)
  obtain ⟨i0, hi, hz0, hz1, hz2⟩ := info_parts info5
  rcases hA : ok 0 l with _ | _
  · rw [hA] at HA
    have hA' : Hid (ok 0 l = false) := hA
    clear hA
    go_enter Try.func6, Try.ntmps6
    go_wp2_with fail
    refine (isNum_at _ ao cap l w rfl hr (by omega) hc).mono ?_
    rintro e w' ⟨rfl, rfl⟩
    rw [hA'.out]
    go_wp2_with (first | (at_make; refine wpList_make_full _ rfl _ _ 22 rfl w'.heap.size 5 i0 (.int .u8 0) 1 Try.underlying22 hi hz0 hz1 _ _ _ _ (l.length + 1) rfl rfl (by omega) (by omega) (by rw [hz2]; omega) (by unfold maxLen; omega) (Nat.le_refl _) ?_; intro w1 hown hgrow))
    have hb1 : Below w'.heap.size w' w1 := (Below.refl _ _).grown hgrow (Nat.le_refl _) (fun k h => by simp at h)
    have hB1 : w'.heap.size < w1.heap.size := by
      have h0 := hown.cellAt 0 (by omega)
      exact World.block_lt_of_cell? (u := .int .u8 0) w1 ⟨w'.heap.size, 0, none⟩ (by rw [h0, made_at]; omega)
    clear hgrow hi hz0 hz1 hz2
    go_loopw [4] (fun i wr => ∃ k : Nat, k ≤ l.length ∧ i = .int .i64 k ∧ ∃ xs, Hid (wr.ownsRow w'.heap.size 5 1 (.slice (some ⟨w'.heap.size, 0, none⟩) (l.length + 1) (l.length + 1)) (l.length + 1) xs) ∧ Hid (Copied xs l k) ∧ Hid (Below w'.heap.size w' wr)) (fun i _ => l.length - (intOf i).toNat)
    case atStart => exact ⟨0, Nat.zero_le _, rfl, _, hown, fun j c hj _ => absurd hj (Nat.not_lt_zero _), hb1⟩
    case round =>
      clear hown hb1
      obtain ⟨k, hk, rfl, xs, hown, hcop, hb⟩ := hrel
      have HL : Hid (xs.length = l.length + 1) := by have := hown.out.1; rw [Nat.mul_one] at this; exact this
      by_cases hlt : k < l.length
      · obtain ⟨c, hx⟩ := head_of hlt
        obtain ⟨b, off, rfl⟩ := hr.out.addr (by omega)
        have hcell := (hr.out.later hb.out).cell hx
        have hst : wr.cell? ⟨w'.heap.size, k, none⟩ = some (xs[k]'(by rw [HL.out]; omega)) := by rw [hown.out.cellAt k (by omega)]; exact List.getElem?_eq_getElem _
        have hfz := hown.out.frozenAt k
        generalize xs[k]'(by rw [HL.out]; omega) = old at hst
        have HX : Hid (l[k]? = some c) := hx
        clear hx
        go_wp2
        go_roundw
        case rel => exact ⟨k + 1, by omega, by go_num, _, (hown.out.stored k (.int .u8 c)).1, hcop.out.step HX.out (by rw [HL.out]; omega), hb.out.setCell (Nat.le_refl _) _⟩
        case measure => simp [intOf]; omega
      · obtain rfl : k = l.length := by omega
        have hst : wr.cell? ⟨w'.heap.size, l.length, none⟩ = some (xs[l.length]'(by rw [HL.out]; omega)) := by rw [hown.out.cellAt l.length (by omega)]; exact List.getElem?_eq_getElem _
        have hfz := hown.out.frozenAt l.length
        generalize xs[l.length]'(by rw [HL.out]; omega) = old at hst
        have hrow := hcop.out.row rfl (by rw [HL.out]; omega) (hown.out.stored l.length (.int .u8 48)).1
        have hb2 := hb.out.setCell (p := ⟨w'.heap.size, l.length, none⟩) (Nat.le_refl _) (.int .u8 48)
        have HR : Hid (Row (wr.setCell ⟨w'.heap.size, l.length, none⟩ (.int .u8 48)) (some ⟨w'.heap.size, 0, none⟩) (l ++ [48])) := hrow
        have HB : Hid (Below w'.heap.size w' (wr.setCell ⟨w'.heap.size, l.length, none⟩ (.int .u8 48))) := hb2
        clear hrow hb2
        go_wp2_with fail
        refine (isNum_at _ _ _ (l ++ [48]) _ (by simp) HR (by omega) (by omega)).mono ?_
        rintro e w2 ⟨rfl, rfl⟩
        go_wp2_with fail
        go_ret
        exact ⟨ret_bool (by rw [← HA.out]; simp), HB.out⟩
  · rw [hA] at HA
    have hA' : Hid (ok 0 l = true) := hA
    clear hA
    go_enter Try.func6, Try.ntmps6
    go_wp2_with fail
    refine (isNum_at _ ao cap l w rfl hr (by omega) hc).mono ?_
    rintro e w' ⟨rfl, rfl⟩
    rw [hA'.out]
    go_wp2_with fail
    go_ret
    exact ⟨ret_bool HA.out, Below.refl _ _⟩
end Go.Proofs.Qxb6618410a
