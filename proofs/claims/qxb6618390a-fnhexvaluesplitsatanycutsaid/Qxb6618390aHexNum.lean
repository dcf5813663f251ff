/- Plain mathematics: a row of hexadecimal digits as a number; 32-bit rows of bits. No Go in sight. -/
import Derived.Test.Qxb6618390aHexPlain
namespace Go.Proofs.Qxb6618390a
open Go.RowKit

/-- Every byte is a digit. -/
def hexAll (l : List UInt8) : Bool := l.all fun b => hexB (b.toNat : Int)
/-- The number that the digits write. -/
def num (l : List UInt8) : Int := l.foldl (fun a b => 16 * a + dv (b.toNat : Int)) 0

theorem take_snoc (s : ByteArray) (k : Nat) (h : k < s.size) : s.data.toList.take (k + 1) = s.data.toList.take k ++ [s[k]] := by
  rw [List.take_succ_eq_append_getElem (by simpa using h)]; rfl
theorem hexAll_snoc (l : List UInt8) (c : UInt8) : hexAll (l ++ [c]) = (hexAll l && hexB (c.toNat : Int)) := by simp [hexAll]
theorem hexAll_append (l m : List UInt8) : hexAll (l ++ m) = (hexAll l && hexAll m) := by simp [hexAll]
theorem num_snoc (l : List UInt8) (c : UInt8) : num (l ++ [c]) = 16 * num l + dv (c.toNat : Int) := by simp [num]
theorem hexAll_false (s : ByteArray) (k : Nat) (h : k < s.size) (hb : hexB ((s[k]).toNat : Int) = false) : hexAll s.data.toList = false := by
  unfold hexAll
  rw [List.all_eq_false]
  exact ⟨s[k], by rw [show s[k] = s.data.toList[k]'(by simpa using h) from rfl]; exact List.getElem_mem _, by simp [hb]⟩

/-- What the bits of an i32 join: the low part fills what the high part leaves free. -/
theorem i32_or_join (j : Nat) (x y : Int) (hx : x % 2 ^ j = 0) (hj : j ≤ 32) (hy0 : 0 ≤ y) (hy : y < 2 ^ j) : bits .or .i32 x y = wrap32 (x + y) := by
  have e : (BitVec.ofInt 32 x ||| BitVec.ofInt 32 y) = BitVec.ofInt 32 (x + y) := by
    rw [BitVec.ofInt_add]
    symm
    apply BitVec.add_eq_or_of_and_eq_zero
    apply BitVec.eq_of_getLsbD_eq
    intro i hi
    simp only [BitVec.getLsbD_and, BitVec.getLsbD_zero, Bool.and_eq_false_iff]
    by_cases h : i < j
    · left
      have : (BitVec.ofInt 32 x).toNat % 2 ^ j = 0 := by
        rw [BitVec.toNat_ofInt]
        have h1 : ((x % (2 ^ 32 : Nat)).toNat : Int) = x % (2 ^ 32 : Nat) := Int.toNat_of_nonneg (Int.emod_nonneg _ (by decide))
        have h2 : (((x % (2 ^ 32 : Nat)).toNat % 2 ^ j : Nat) : Int) = 0 := by
          rw [Int.natCast_emod, h1]
          have : ((2 ^ j : Nat) : Int) ∣ ((2 ^ 32 : Nat) : Int) := by exact_mod_cast Nat.pow_dvd_pow 2 hj
          rw [Int.emod_emod_of_dvd _ this]
          simpa using hx
        exact_mod_cast h2
      rw [BitVec.getLsbD]
      have h3 := Nat.testBit_mod_two_pow (BitVec.ofInt 32 x).toNat j i
      rw [this] at h3
      simp [h] at h3
      exact h3
    · right
      rw [BitVec.getLsbD, BitVec.toNat_ofInt]
      apply Nat.testBit_lt_two_pow
      have e32 : ((2 ^ 32 : Nat) : Int) = 4294967296 := by decide
      rw [e32]
      have h5 : (2 : Int) ^ j ≤ 2 ^ i := by exact_mod_cast Nat.pow_le_pow_right (by decide) (by omega)
      have h6 : (((y % 4294967296).toNat : Nat) : Int) < ((2 ^ i : Nat) : Int) := by
        rw [Int.toNat_of_nonneg (by omega), Int.natCast_pow]
        generalize hp : (2 : Int) ^ j = pj at hy h5
        have h7 : ((2 : Nat) : Int) ^ i = 2 ^ i := rfl
        rw [h7]
        generalize (2 : Int) ^ i = q at h5
        omega
      exact Int.ofNat_lt.1 h6
  show IntKind.i32.wrap ((BitVec.ofInt 32 x ||| BitVec.ofInt 32 y).toNat : Int) = _
  rw [e, BitVec.toNat_ofInt, IntKind.wrap_i32]
  unfold wrap32
  rw [Int.toNat_of_nonneg (Int.emod_nonneg _ (by decide))]
  have : ((2 ^ 32 : Nat) : Int) = 4294967296 := by decide
  rw [this]
  omega

theorem wrap32_bd (n : Int) : -2147483648 ≤ wrap32 n ∧ wrap32 n ≤ 2147483647 := by unfold wrap32; omega
/-- One digit more. -/
theorem step_or (A d : Int) (h0 : 0 ≤ d) (h1 : d < 16) : bits .or .i32 (wrap32 (wrap32 A * 16)) d = wrap32 (16 * A + d) := by
  rw [i32_or_join 4 _ d (by unfold wrap32; omega) (by omega) h0 h1]
  unfold wrap32; omega
/-- What hexValue answers. -/
def hexV (l : List UInt8) : Int := if hexAll l = true then wrap32 (num l) else 0
theorem hexV_yes {l : List UInt8} (h : hexAll l = true) : hexV l = wrap32 (num l) := by simp [hexV, h]
theorem hexV_no {l : List UInt8} (h : hexAll l = false) : hexV l = 0 := by simp [hexV, h]
theorem hexB_no (c : Int) (a : c < 48 ∨ 57 < c) (b : c < 97 ∨ 102 < c) (d : c < 65 ∨ 70 < c) : hexB c = false := by
  simp only [hexB, Bool.or_eq_false_iff, Bool.and_eq_false_iff, decide_eq_false_iff_not]; omega
theorem step_low (c A : Int) (a : 48 ≤ c) (b : c ≤ 57) : hexB c = true ∧ bits .or .i32 (wrap32 (wrap32 A * 16)) (c - 48) = wrap32 (16 * A + dv c) := by
  have e : dv c = c - 48 := by simp [dv, a, b]
  exact ⟨by simp [hexB, a, b], by rw [e]; exact step_or A _ (by omega) (by omega)⟩
theorem step_a (c A : Int) (a : 97 ≤ c) (b : c ≤ 102) : hexB c = true ∧ bits .or .i32 (wrap32 (wrap32 A * 16)) (c - 97 + 10) = wrap32 (16 * A + dv c) := by
  have e : dv c = c - 97 + 10 := by unfold dv; rw [if_neg (by omega), if_pos ⟨a, b⟩]; omega
  exact ⟨by simp [hexB, a, b], by rw [e]; exact step_or A _ (by omega) (by omega)⟩
theorem step_A (c A : Int) (a : 65 ≤ c) (b : c ≤ 70) : hexB c = true ∧ bits .or .i32 (wrap32 (wrap32 A * 16)) (c - 65 + 10) = wrap32 (16 * A + dv c) := by
  have e : dv c = c - 65 + 10 := by unfold dv; rw [if_neg (by omega), if_neg (by omega), if_pos ⟨a, b⟩]; omega
  exact ⟨by simp [hexB, a, b], by rw [e]; exact step_or A _ (by omega) (by omega)⟩
/-- The relation's two limbs at the next byte. -/
theorem rel_next (s : ByteArray) (k : Nat) (h : k < s.size) (v : Int) (hall : hexAll (s.data.toList.take k) = true)
    (hst : hexB (s[k].toNat : Int) = true ∧ v = wrap32 (16 * num (s.data.toList.take k) + dv (s[k].toNat : Int))) :
    hexAll (s.data.toList.take (k + 1)) = true ∧ v = wrap32 (num (s.data.toList.take (k + 1))) := by
  rw [take_snoc s k h, hexAll_snoc, num_snoc, hall, hst.1]
  exact ⟨rfl, hst.2⟩

end Go.Proofs.Qxb6618390a
