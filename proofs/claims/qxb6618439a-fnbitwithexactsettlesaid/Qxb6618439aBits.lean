/- Plain mathematics: how a coded bit moves the encoder's fields. No Go in sight. -/
import Derived.Test.Qxb6618439aPlain
namespace Go.Proofs.Qxb6618439a
open Go.RowKit

/-- (256 ^ g as a numeral, for the two rounds that there may be.) -/
def p256 : Nat → Int
  | 0 => 1
  | g + 1 => 256 * p256 g
/-- Within what the coder's own use allows. -/
structure Sane (s : EncSt) : Prop where
  l0 : 0 ≤ s.low
  l1 : s.low < 8589934592
  r0 : 0 < s.rng
  r1 : s.rng < 4294967296

theorem shift_total (s : EncSt) : (shiftSt s).out.length + (shiftSt s).pending ≤ s.out.length + s.pending + 1 ∧ (shiftSt s).pending ≤ s.pending + 1 := by
  unfold shiftSt
  split
  · simp only [settled, List.length_append, List.length_replicate]
    have : (if s.started = true then [(s.cache + s.low / 4294967296) % 256] else []).length ≤ 1 := by split <;> simp
    omega
  · simp only; omega
theorem lift_sane {s : EncSt} (h : Sane s) (hr : s.rng < 16777216) : Sane (lift1 s) ∧ (lift1 s).rng = s.rng * 256 := by
  obtain ⟨h1, h2, h3, h4⟩ := h
  have hl := shift_low { s with rng := s.rng * 256 }
  have hg := shift_rng { s with rng := s.rng * 256 }
  have hl' : (lift1 s).low = s.low % 16777216 * 256 := hl
  have hg' : (lift1 s).rng = s.rng * 256 := hg
  exact ⟨⟨by omega, by omega, by omega, by omega⟩, hg'⟩
theorem lifts_succ {g : Nat} {s : EncSt} (h : s.rng < 16777216) : lifts (g + 1) s = lifts g (lift1 s) := by simp [lifts, h]
theorem lifts_done {g : Nat} {s : EncSt} (h : ¬ s.rng < 16777216) : lifts g s = s := by
  cases g <;> simp [lifts, h]
/-- The cut of the range. -/
theorem cut_bd (r p : Int) (h0 : 16777216 ≤ r) (h1 : r < 4294967296) (hp : 1 ≤ p) (hp2 : p < 4096) : 4096 ≤ r / 4096 * p ∧ r / 4096 * p + 4096 ≤ r ∧ r / 4096 * p < 4294967296 ∧ 0 ≤ r / 4096 ∧ r / 4096 < 1048576 := by
  have a1 : 4096 ≤ r / 4096 := by omega
  have a2 : r / 4096 * 1 ≤ r / 4096 * p := Int.mul_le_mul_of_nonneg_left hp (by omega)
  have a3 : r / 4096 * p ≤ r / 4096 * 4095 := Int.mul_le_mul_of_nonneg_left (by omega) (by omega)
  omega
theorem narrow_sane {s : EncSt} {p bit : Int} (l0 : 0 ≤ s.low) (l1 : s.low + s.rng ≤ 8589934592) (r0 : 16777216 ≤ s.rng) (r1 : s.rng < 4294967296) (hp : 1 ≤ p) (hp2 : p < 4096) :
    Sane (narrow s p bit) ∧ 4096 ≤ (narrow s p bit).rng := by
  have hc := cut_bd s.rng p r0 r1 hp hp2
  unfold narrow
  split
  · exact ⟨⟨l0, by show s.low < _; omega, by show 0 < s.rng / 4096 * p; omega, by show s.rng / 4096 * p < _; omega⟩, by show _ ≤ s.rng / 4096 * p; omega⟩
  · exact ⟨⟨by show 0 ≤ s.low + _; omega, by show s.low + _ < _; omega, by show 0 < s.rng - _; omega, by show s.rng - _ < _; omega⟩, by show _ ≤ s.rng - _; omega⟩
theorem narrow_zero (s : EncSt) (p : Int) : narrow s p 0 = { s with rng := s.rng / 4096 * p } := by simp [narrow]
theorem narrow_one (s : EncSt) (p : Int) {bit : Int} (h : ¬ bit = 0) : narrow s p bit = { s with low := s.low + s.rng / 4096 * p, rng := s.rng - s.rng / 4096 * p } := by simp [narrow, h]
theorem narrow_out (s : EncSt) (p bit : Int) : (narrow s p bit).out = s.out ∧ (narrow s p bit).pending = s.pending ∧ (narrow s p bit).cache = s.cache ∧ (narrow s p bit).started = s.started := by
  unfold narrow; split <;> exact ⟨rfl, rfl, rfl, rfl⟩

end Go.Proofs.Qxb6618439a
