/- Plain mathematics for the second law: a cut of a row of digits. No Go in sight. -/
import Derived.Test.Qxb6618390aLast8
namespace Go.Proofs.Qxb6618390a
open Go.RowKit

theorem num_bd (l : List UInt8) : 0 ≤ num l ∧ num l < 16 ^ l.length := by
  induction l with
  | nil => simp [num]
  | cons c l ih =>
    have hd := dv_bd (c.toNat : Int)
    rw [num_cons, List.length_cons, Int.pow_succ]
    have hp : (0 : Int) < 16 ^ l.length := Int.pow_pos (by decide)
    generalize (16 : Int) ^ l.length = p at ih hp
    generalize dv (c.toNat : Int) = d at hd
    obtain ⟨h0, h1⟩ := hd
    have a1 : 0 ≤ d * p := Int.mul_nonneg h0 (by omega)
    have a2 : d * p ≤ 15 * p := Int.mul_le_mul_of_nonneg_right (by omega) (by omega)
    omega

theorem pow_shift (m : Nat) : (2 : Int) ^ (4 * m) = 16 ^ m := by
  rw [Int.pow_mul]; rfl

/-- The value of a + b out of a's and b's. -/
theorem cut_value (a b : List UInt8) (c : Nat) (hc : c = min (4 * b.length) 32) :
    bits .or .i32 (wrap32 (wrap32 (num a) * 2 ^ c)) (wrap32 (num b)) = wrap32 (num (a ++ b)) := by
  rw [num_append]
  have hb := num_bd b
  by_cases h : b.length < 8
  · have hc' : c = 4 * b.length := by omega
    rw [hc', pow_shift]
    have hp28 : (16 : Int) ^ b.length ≤ 16 ^ 7 := by
      have : (16 : Nat) ^ b.length ≤ 16 ^ 7 := Nat.pow_le_pow_right (by decide) (by omega)
      exact_mod_cast this
    have e7 : (16 : Int) ^ 7 = 268435456 := by decide
    rw [e7] at hp28
    have hwb : wrap32 (num b) = num b := by
      generalize (16 : Int) ^ b.length = p at hb hp28
      unfold wrap32; omega
    rw [hwb]
    have hdvd : wrap32 (wrap32 (num a) * 16 ^ b.length) % 2 ^ (4 * b.length) = 0 := by
      rw [pow_shift]
      obtain ⟨q, hq⟩ : ∃ q, (4294967296 : Int) = 16 ^ b.length * q := by
        refine ⟨16 ^ (8 - b.length), ?_⟩
        rw [← Int.pow_add, show b.length + (8 - b.length) = 8 from by omega]; rfl
      have hd2 : (16 : Int) ^ b.length ∣ 4294967296 := ⟨q, hq⟩
      have e1 : wrap32 (wrap32 (num a) * 16 ^ b.length) = wrap32 (num a) * 16 ^ b.length - 4294967296 * ((wrap32 (num a) * 16 ^ b.length + 2147483648) / 4294967296) := by
        unfold wrap32
        generalize (16 : Int) ^ b.length = p
        generalize ((num a + 2147483648) % 4294967296 - 2147483648) * p = z
        omega
      rw [e1]
      apply Int.emod_eq_zero_of_dvd
      exact Int.dvd_sub (Int.dvd_mul_left _ _) (Int.dvd_trans hd2 (Int.dvd_mul_right _ _))
    rw [i32_or_join (4 * b.length) _ _ hdvd (by omega) hb.1 (by rw [pow_shift]; exact hb.2)]
    have e2 : wrap32 (num a) * 16 ^ b.length = num a * 16 ^ b.length - 4294967296 * ((num a + 2147483648) / 4294967296 * 16 ^ b.length) := by
      have : wrap32 (num a) = num a - 4294967296 * ((num a + 2147483648) / 4294967296) := by unfold wrap32; omega
      rw [this, Int.sub_mul, Int.mul_assoc]
    rw [e2]
    generalize num a * 16 ^ b.length = x
    generalize (num a + 2147483648) / 4294967296 * 16 ^ b.length = y
    unfold wrap32
    omega
  · have hc' : c = 32 := by omega
    rw [hc']
    have e0 : wrap32 (wrap32 (num a) * 2 ^ 32) = 0 := by
      have : (2 : Int) ^ 32 = 4294967296 := by decide
      rw [this]; unfold wrap32; omega
    have e8 : (16 : Int) ^ b.length = 16 ^ (b.length - 8) * 4294967296 := by
      have : b.length = (b.length - 8) + 8 := by omega
      calc (16 : Int) ^ b.length = 16 ^ ((b.length - 8) + 8) := by rw [← this]
        _ = _ := by rw [Int.pow_add]; rfl
    rw [e0, e8, ← Int.mul_assoc]
    have e3 : bits .or .i32 0 (wrap32 (num b)) = wrap32 (num b) := by
      show IntKind.i32.wrap ((BitVec.ofInt 32 0 ||| BitVec.ofInt 32 (wrap32 (num b))).toNat : Int) = _
      rw [show BitVec.ofInt 32 0 = 0#32 from rfl, BitVec.zero_or, BitVec.toNat_ofInt, IntKind.wrap_i32, Int.toNat_of_nonneg (Int.emod_nonneg _ (by decide))]
      have : ((2 ^ 32 : Nat) : Int) = 4294967296 := by decide
      rw [this]; unfold wrap32; omega
    rw [e3]
    unfold wrap32; omega

/-- The lowest four bits of an i32. -/
theorem i32_and15 (x : Int) : bits .and .i32 x 15 = x % 16 := by
  show IntKind.i32.wrap ((BitVec.ofInt 32 x &&& BitVec.ofInt 32 15).toNat : Int) = _
  rw [BitVec.toNat_and, show (BitVec.ofInt 32 15).toNat = 2 ^ 4 - 1 from rfl, Nat.and_two_pow_sub_one_eq_mod, BitVec.toNat_ofInt, IntKind.wrap_i32, Int.natCast_emod, Int.toNat_of_nonneg (Int.emod_nonneg _ (by decide))]
  have : ((2 ^ 32 : Nat) : Int) = 4294967296 := by decide
  rw [this]
  have : ((2 ^ 4 : Nat) : Int) = 16 := by decide
  rw [this]
  omega

/-- The last digit is what the lowest four bits say. -/
theorem last_digit (l : List UInt8) (s : ByteArray) (h : 0 < s.size) (hi : s.size - 1 < s.size) : wrap32 (num (l ++ s.data.toList)) % 16 = dv (s[s.size - 1].toNat : Int) := by
  have hl : s.data.toList.length = s.size := by simp
  have e : s.data.toList = s.data.toList.take (s.size - 1) ++ [s[s.size - 1]] := by
    have := take_snoc s (s.size - 1) hi
    rw [show s.size - 1 + 1 = s.size from by omega, List.take_of_length_le (by omega)] at this
    exact this
  rw [e, ← List.append_assoc, num_snoc]
  have hd := dv_bd (s[s.size - 1].toNat : Int)
  generalize num (l ++ s.data.toList.take (s.size - 1)) = A
  generalize dv (s[s.size - 1].toNat : Int) = d at hd
  unfold wrap32
  omega

end Go.Proofs.Qxb6618390a
