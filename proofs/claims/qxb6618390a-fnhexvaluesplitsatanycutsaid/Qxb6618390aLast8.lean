/- Plain mathematics for the first law: the last eight digits, read from the right. No Go in sight. -/
import Derived.Test.Qxb6618390aHexNum
namespace Go.Proofs.Qxb6618390a
open Go.RowKit

theorem num_from (l : List UInt8) : ∀ a : Int, l.foldl (fun a b => 16 * a + dv (b.toNat : Int)) a = a * 16 ^ l.length + num l := by
  induction l with
  | nil => intro a; simp [num]
  | cons c l ih =>
    intro a
    have e : num (c :: l) = dv (c.toNat : Int) * 16 ^ l.length + num l := by
      show l.foldl _ (16 * 0 + dv (c.toNat : Int)) = _
      rw [ih]; simp
    rw [List.foldl_cons, ih, e, List.length_cons, Int.pow_succ]
    have : (16 * a + dv (c.toNat : Int)) * 16 ^ l.length = a * (16 ^ l.length * 16) + dv (c.toNat : Int) * 16 ^ l.length := by
      rw [Int.add_mul, Int.mul_comm 16 a, Int.mul_assoc, Int.mul_comm 16]
    rw [this]; omega
theorem num_cons (c : UInt8) (l : List UInt8) : num (c :: l) = dv (c.toNat : Int) * 16 ^ l.length + num l := by
  show l.foldl _ (16 * 0 + dv (c.toNat : Int)) = _
  rw [num_from]; simp
theorem num_append (a b : List UInt8) : num (a ++ b) = num a * 16 ^ b.length + num b := by
  show (a ++ b).foldl _ 0 = _
  rw [List.foldl_append, num_from]; rfl

/-- The sum over the last k digits, as a uint32 holds it. -/
def uAt (l : List UInt8) (k : Nat) : Int := num (l.drop (l.length - k)) % 4294967296
/-- The power of 16, as a uint32 holds it. -/
def pAt (k : Nat) : Int := 16 ^ k % 4294967296
theorem uAt_bd (l : List UInt8) (k : Nat) : 0 ≤ uAt l k ∧ uAt l k < 4294967296 := by unfold uAt; omega
theorem pAt_bd (k : Nat) : 0 ≤ pAt k ∧ pAt k < 4294967296 := by unfold pAt; omega
theorem uAt_zero (l : List UInt8) : uAt l 0 = 0 := by simp [uAt, num]
theorem pAt_zero : pAt 0 = 1 := rfl
theorem pAt_succ (k : Nat) : pAt k * 16 % 4294967296 = pAt (k + 1) := by
  unfold pAt; rw [Int.pow_succ]; omega
theorem uAt_succ (s : ByteArray) (k : Nat) (h : k < s.size) (hi : s.size - 1 - k < s.size) :
    (uAt s.data.toList k + dv (s[s.size - 1 - k].toNat : Int) * pAt k % 4294967296) % 4294967296 = uAt s.data.toList (k + 1) := by
  have hl : s.data.toList.length = s.size := by simp
  have e : s.data.toList.drop (s.data.toList.length - (k + 1)) = s[s.size - 1 - k] :: s.data.toList.drop (s.data.toList.length - k) := by
    rw [List.drop_eq_getElem_cons (by omega)]
    have h1 : s.data.toList.length - (k + 1) = s.size - 1 - k := by omega
    have h2 : s.data.toList.length - (k + 1) + 1 = s.data.toList.length - k := by omega
    rw [h2]
    congr 1
    simp only [h1]
    rfl
  unfold uAt pAt
  rw [e, num_cons, List.length_drop]
  have h3 : s.data.toList.length - (s.data.toList.length - k) = k := by omega
  rw [h3]
  generalize num (s.data.toList.drop (s.data.toList.length - k)) = U
  generalize dv (s[s.size - 1 - k].toNat : Int) = d
  generalize (16 : Int) ^ k = p
  rw [Int.add_emod, Int.emod_emod, Int.emod_emod, Int.mul_emod, Int.emod_emod, ← Int.mul_emod, ← Int.add_emod, Int.add_comm]
/-- What the loop ends with is the whole number, 32 bits of it. -/
theorem uAt_end (l : List UInt8) (k : Nat) (h : k = l.length ∨ (8 ≤ k ∧ k ≤ l.length)) : uAt l k = num l % 4294967296 := by
  rcases h with h | ⟨h8, h⟩
  · subst h; simp [uAt]
  · unfold uAt
    have e : num l = num (l.take (l.length - k)) * 16 ^ k + num (l.drop (l.length - k)) := by
      have h1 : l = l.take (l.length - k) ++ l.drop (l.length - k) := (List.take_append_drop _ _).symm
      have h2 : (l.drop (l.length - k)).length = k := by rw [List.length_drop]; omega
      calc num l = num (l.take (l.length - k) ++ l.drop (l.length - k)) := by rw [← h1]
        _ = _ := by rw [num_append, h2]
    obtain ⟨j, rfl⟩ : ∃ j, k = j + 8 := ⟨k - 8, by omega⟩
    have e8 : (16 : Int) ^ (j + 8) = 16 ^ j * 4294967296 := by rw [Int.pow_add]; rfl
    rw [e, e8, ← Int.mul_assoc]
    omega

end Go.Proofs.Qxb6618390a
