/- Plain mathematics for the hex laws: no Go in sight. -/
import Derived.RowKit
import Derived.Laws.BitsAllLaws
import Derived.Laws.BitsLemmas
namespace Go.Proofs.Qxb6618390a
open Go.RowKit

/-- Is the byte c (as a number) a hexadecimal digit of either case? -/
def hexB (c : Int) : Bool := (decide (48 ≤ c) && decide (c ≤ 57)) || (decide (97 ≤ c) && decide (c ≤ 102)) || (decide (65 ≤ c) && decide (c ≤ 70))
/-- Its value; 0 where it is none. -/
def dv (c : Int) : Int := if 48 ≤ c ∧ c ≤ 57 then c - 48 else if 97 ≤ c ∧ c ≤ 102 then c - 87 else if 65 ≤ c ∧ c ≤ 70 then c - 55 else 0
/-- The table's k-th byte. -/
def tabAt (k : Nat) : Int := (([48, 49, 50, 51, 52, 53, 54, 55, 56, 57, 97, 98, 99, 100, 101, 102, 65, 66, 67, 68, 69, 70] : List Int)).getD k 0

theorem dv_bd (c : Int) : 0 ≤ dv c ∧ dv c < 16 := by unfold dv; split <;> (try split) <;> (try split) <;> omega

theorem tab_low (k : Nat) (h : k < 16) : hexB (tabAt k) = true ∧ dv (tabAt k) = k := by
  have : ∀ k, k < 16 → hexB (tabAt k) = true ∧ dv (tabAt k) = k := by decide
  exact this k h
theorem tab_high (k : Nat) (h : 16 ≤ k) (h2 : k < 22) : hexB (tabAt k) = true ∧ dv (tabAt k) = (k : Int) - 6 := by
  have : ∀ k, k < 22 → 16 ≤ k → hexB (tabAt k) = true ∧ dv (tabAt k) = (k : Int) - 6 := by decide
  exact this k h2 h
theorem tab_none (c : Int) (h : ∀ j, j < 22 → tabAt j ≠ c) : hexB c = false ∧ dv c = 0 := by
  have h0 := h 0 (by omega); have h1 := h 1 (by omega); have h2 := h 2 (by omega); have h3 := h 3 (by omega); have h4 := h 4 (by omega)
  have h5 := h 5 (by omega); have h6 := h 6 (by omega); have h7 := h 7 (by omega); have h8 := h 8 (by omega); have h9 := h 9 (by omega)
  have h10 := h 10 (by omega); have h11 := h 11 (by omega); have h12 := h 12 (by omega); have h13 := h 13 (by omega); have h14 := h 14 (by omega)
  have h15 := h 15 (by omega); have h16 := h 16 (by omega); have h17 := h 17 (by omega); have h18 := h 18 (by omega); have h19 := h 19 (by omega)
  have h20 := h 20 (by omega); have h21 := h 21 (by omega)
  simp [tabAt] at h0 h1 h2 h3 h4 h5 h6 h7 h8 h9 h10 h11 h12 h13 h14 h15 h16 h17 h18 h19 h20 h21
  have a1 : ¬ (48 ≤ c ∧ c ≤ 57) := by omega
  have a2 : ¬ (97 ≤ c ∧ c ≤ 102) := by omega
  have a3 : ¬ (65 ≤ c ∧ c ≤ 70) := by omega
  constructor
  · simp only [hexB, Bool.or_eq_false_iff, Bool.and_eq_false_iff, decide_eq_false_iff_not]; omega
  · simp [dv, a1, a2, a3]

end Go.Proofs.Qxb6618390a
