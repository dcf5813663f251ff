import Derived.Test.Qxb6618390aProg
import Derived.Test.Qxb6618390aHexPlain
import Derived.WalkKit
import Derived.WalkSpells
import Derived.WalkLawsBesides
namespace Go.Proofs.Qxb6618390a
open Go.RowKit

/-- The table as the program's text has it. -/
theorem tab_ix (k : Nat) (h : k < ByteArray.size { data := #[48, 49, 50, 51, 52, 53, 54, 55, 56, 57, 97, 98, 99, 100, 101, 102, 65, 66, 67, 68, 69, 70] }) :
    ((({ data := #[48, 49, 50, 51, 52, 53, 54, 55, 56, 57, 97, 98, 99, 100, 101, 102, 65, 66, 67, 68, 69, 70] } : ByteArray)[k]'h).toNat : Int) = tabAt k := by
  have h2 : k < 22 := h
  have : ∀ (k : Nat) (h : k < 22), ((({ data := #[48, 49, 50, 51, 52, 53, 54, 55, 56, 57, 97, 98, 99, 100, 101, 102, 65, 66, 67, 68, 69, 70] } : ByteArray)[k]'h).toNat : Int) = tabAt k := by decide
  exact this k h2

/-- Two results: the equations of numbers apart. -/
theorem ret_ib {k : IntKind} {a b : Int} {p q : Bool} (h : a = b) (g : p = q) : Ending.returned (.tuple #[.int k a, .bool p]) = .returned (.tuple #[.int k b, .bool q]) := by rw [h, g]

set_option maxHeartbeats 400000 in
theorem hexDigit_any (c : Int) (w : World) :
    Calls Try.prog 8 #[.int .u8 c] w fun e w' => e = .returned (.tuple #[.int .i32 (dv c), .bool (hexB c)]) ∧ w' = w := by
  go_enter Try.func8, Try.ntmps8
  go_wp2
  go_loop [4] (fun i => ∃ k : Nat, k ≤ 22 ∧ i = .int .i64 k ∧ Hid (∀ j, j < k → tabAt j ≠ c)) (fun i => 22 - (intOf i).toNat)
  case atStart => exact ⟨0, Nat.zero_le _, rfl, fun j hj => absurd hj (Nat.not_lt_zero _)⟩
  case round =>
    obtain ⟨k, hk, rfl, hne⟩ := hrel
    by_cases hlt : k < 22
    · have ht : ∀ b : Bool, (((({ data := #[48, 49, 50, 51, 52, 53, 54, 55, 56, 57, 97, 98, 99, 100, 101, 102, 65, 66, 67, 68, 69, 70] } : ByteArray)[k]'hlt).toNat : Int) == c) = b → (tabAt k == c) = b := fun b h => by rw [← h, ← tab_ix k hlt]
      have HT := ht
      clear ht
      go_wp2
      · have e : (tabAt k == c) = true := HT true (by assumption)
        have e2 : tabAt k = c := by simpa using e
        have h16 : k < 16 := by omega
        have t := tab_low k h16
        rw [e2] at t
        go_ret2
        exact ⟨ret_ib t.2.symm t.1.symm, rfl⟩
      · have e : (tabAt k == c) = true := HT true (by assumption)
        have e2 : tabAt k = c := by simpa using e
        have h16 : 16 ≤ k := by omega
        have t := tab_high k h16 hlt
        rw [e2] at t
        go_ret2
        exact ⟨ret_ib t.2.symm t.1.symm, rfl⟩
      · have e : (tabAt k == c) = false := HT false (by assumption)
        have e2 : tabAt k ≠ c := by simpa using e
        go_round
        case rel => exact ⟨k + 1, by omega, by go_num, fun j hj => by
          rcases Nat.lt_succ_iff_lt_or_eq.1 hj with h | h
          · exact hne j h
          · rw [h]; exact e2⟩
        case measure => simp [intOf]; omega
    · go_wp2
      have hk22 : k = 22 := by omega
      have t := tab_none c (by rw [← hk22]; exact hne)
      go_ret2
      exact ⟨ret_ib t.2.symm t.1.symm, rfl⟩
end Go.Proofs.Qxb6618390a
