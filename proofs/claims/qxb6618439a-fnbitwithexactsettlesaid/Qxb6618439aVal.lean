/- Plain mathematics: rows of bytes as big-endian numbers. No Go in sight. -/
import Derived.RowKit
namespace Go.Proofs.Qxb6618439a
open Go.RowKit

/-- The number that the bytes write, the first the highest. -/
def val : List Int → Int
  | [] => 0
  | b :: t => b * 256 ^ t.length + val t
def Bytes (l : List Int) : Prop := ∀ b ∈ l, 0 ≤ b ∧ b < 256

theorem pow_pos' (n : Nat) : (0 : Int) < 256 ^ n := Int.pow_pos (by decide)
theorem val_append (a b : List Int) : val (a ++ b) = val a * 256 ^ b.length + val b := by
  induction a with
  | nil => simp [val]
  | cons c t ih =>
    rw [List.cons_append, val, val, ih, List.length_append, Int.pow_add, Int.add_mul, ← Int.mul_assoc]
    omega
theorem val_bd : ∀ {l : List Int}, Bytes l → 0 ≤ val l ∧ val l < 256 ^ l.length
  | [], _ => by simp [val]
  | b :: t, h => by
    obtain ⟨h1, h2⟩ := val_bd (l := t) (fun x hx => h x (by simp [hx]))
    obtain ⟨b1, b2⟩ := h b (by simp)
    rw [val, List.length_cons, Int.pow_succ]
    have hp := pow_pos' t.length
    have a1 : 0 ≤ b * 256 ^ t.length := Int.mul_nonneg b1 (by omega)
    have a2 : b * 256 ^ t.length ≤ 255 * 256 ^ t.length := Int.mul_le_mul_of_nonneg_right (by omega) (by omega)
    omega
/-- Bytes of one length and one number are the same. -/
theorem val_inj : ∀ {a b : List Int}, Bytes a → Bytes b → a.length = b.length → val a = val b → a = b
  | [], [], _, _, _, _ => rfl
  | [], _ :: _, _, _, h, _ => by simp at h
  | _ :: _, [], _, _, h, _ => by simp at h
  | x :: s, y :: t, ha, hb, hl, hv => by
    have hl' : s.length = t.length := by simpa using hl
    have as : Bytes s := fun z hz => ha z (by simp [hz])
    have bt : Bytes t := fun z hz => hb z (by simp [hz])
    obtain ⟨s1, s2⟩ := val_bd as
    obtain ⟨t1, t2⟩ := val_bd bt
    rw [val, val, hl'] at hv
    rw [hl'] at s2
    have hp := pow_pos' t.length
    have hxy : x = y := by
      rcases Int.lt_trichotomy x y with h | h | h
      · have : (x + 1) * 256 ^ t.length ≤ y * 256 ^ t.length := Int.mul_le_mul_of_nonneg_right (by omega) (by omega)
        rw [Int.add_mul] at this; omega
      · exact h
      · have : (y + 1) * 256 ^ t.length ≤ x * 256 ^ t.length := Int.mul_le_mul_of_nonneg_right (by omega) (by omega)
        rw [Int.add_mul] at this; omega
    subst hxy
    rw [val_inj as bt hl' (by omega)]
theorem split_at {l : List Int} {i : Nat} {c : Int} (h : l[i]? = some c) : l = l.take i ++ c :: l.drop (i + 1) := by
  obtain ⟨hi, rfl⟩ := List.getElem?_eq_some_iff.1 h
  rw [← List.drop_eq_getElem_cons hi, List.take_append_drop]
theorem val_set {l : List Int} {i : Nat} {c : Int} (h : l[i]? = some c) (x : Int) : val (l.set i x) = val l + (x - c) * 256 ^ (l.length - 1 - i) := by
  have hi := (List.getElem?_eq_some_iff.1 h).1
  have e1 : val l = val (l.take i ++ c :: l.drop (i + 1)) := by rw [← split_at h]
  rw [List.set_eq_take_append_cons_drop, if_pos hi, e1, val_append, val_append, val, val, List.length_cons, List.length_cons, List.length_drop, show l.length - (i + 1) = l.length - 1 - i from by omega, Int.sub_mul]
  omega
theorem bytes_set {l : List Int} (h : Bytes l) (i : Nat) {x : Int} (h0 : 0 ≤ x) (h1 : x < 256) : Bytes (l.set i x) := by
  intro b hb
  rcases List.mem_or_eq_of_mem_set hb with h' | rfl
  · exact h b h'
  · exact ⟨h0, h1⟩
theorem bytes_append {a b : List Int} (ha : Bytes a) (hb : Bytes b) : Bytes (a ++ b) := fun x hx => by
  rcases List.mem_append.1 hx with h | h
  · exact ha x h
  · exact hb x h
theorem bytes_rep {n : Nat} {c : Int} (h0 : 0 ≤ c) (h1 : c < 256) : Bytes (List.replicate n c) := fun x hx => by
  rw [(List.mem_replicate.1 hx).2]; exact ⟨h0, h1⟩
theorem val_rep0 : ∀ n : Nat, val (List.replicate n (0 : Int)) = 0
  | 0 => rfl
  | n + 1 => by rw [List.replicate_succ, val, val_rep0 n]; simp
theorem val_rep255 : ∀ n : Nat, val (List.replicate n (255 : Int)) = 256 ^ n - 1
  | 0 => rfl
  | n + 1 => by
    rw [List.replicate_succ, val, val_rep255 n, List.length_replicate, Int.pow_succ]; omega

/-- One step of the addition keeps the sum. -/
theorem add_step {l : List Int} {k : Nat} {c d : Int} (hd : l[k]? = some d) (S : Int) (h : val l + c * 256 ^ (l.length - (k + 1)) = S) :
    val (l.set k ((d + c % 256) % 256)) + (c / 256 + (d + c % 256) / 256) * 256 ^ (l.length - k) = S := by
  have hk := (List.getElem?_eq_some_iff.1 hd).1
  rw [val_set hd, ← h, show l.length - 1 - k = l.length - (k + 1) from by omega, show l.length - k = (l.length - (k + 1)) + 1 from by omega, Int.pow_succ]
  generalize (256 : Int) ^ (l.length - (k + 1)) = q
  have e : (d + c % 256) % 256 - d + (c / 256 + (d + c % 256) / 256) * 256 = c := by omega
  have e2 : (c / 256 + (d + c % 256) / 256) * (q * 256) = (c / 256 + (d + c % 256) / 256) * 256 * q := by rw [Int.mul_comm q, Int.mul_assoc]
  rw [e2, Int.add_assoc, ← Int.add_mul, e]
/-- Where the addition ends. -/
theorem add_end {l : List Int} {k : Nat} {c S : Int} (hl : Bytes l) (hk : k ≤ l.length) (h : val l + c * 256 ^ (l.length - k) = S) (he : k = 0 ∨ c = 0) : val l = S % 256 ^ l.length := by
  obtain ⟨b0, b1⟩ := val_bd hl
  rcases he with rfl | rfl
  · rw [← h, Nat.sub_zero, Int.add_mul_emod_self_right, Int.emod_eq_of_lt b0 b1]
  · rw [← h, Int.zero_mul, Int.add_zero, Int.emod_eq_of_lt b0 b1]

end Go.Proofs.Qxb6618439a
