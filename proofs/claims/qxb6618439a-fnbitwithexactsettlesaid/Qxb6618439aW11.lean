import Derived.Test.Qxb6618439aW9
import Derived.Test.Qxb6618439aSettle
namespace Go.Proofs.Qxb6618439a
open Go.RowKit

/-- zzClone, of whatever slice of bytes. -/
theorem clone_any (ao : Option Addr) (n cap : Nat) (bs : List Int) (w : World) (hn : n = bs.length) (hnone : ao = none → n = 0 ∧ cap = 0) (hR : Row .u8 w ao bs) (hl : bs.length ≤ 16777216) :
    Calls Try.prog 6 #[.slice ao n cap] w fun e w' => ∃ oa oc, e = .returned (.slice oa bs.length oc) ∧ Cloned w bs (.slice oa bs.length oc) w' := by
  subst hn
  rcases ao with _ | x
  · obtain ⟨h1, h2⟩ := hnone rfl
    have hb : bs = [] := List.eq_nil_of_length_eq_zero h1
    subst hb
    subst h2
    refine (clone_nil w).mono ?_
    rintro e w' ⟨v', rfl, hc⟩
    obtain ⟨oa, oc, rfl⟩ := hc.1.form
    exact ⟨oa, oc, rfl, hc⟩
  · refine (clone_some x cap bs w hR hl).mono ?_
    rintro e w' ⟨v', rfl, hc⟩
    obtain ⟨oa, oc, rfl⟩ := hc.1.form
    exact ⟨oa, oc, rfl, hc⟩

set_option maxRecDepth 100000 in
set_option maxHeartbeats 400000 in
theorem lift_any (r : Int) (w : World) (h0 : 4096 ≤ r) : Calls Try.prog 10 #[.int .u32 r] w fun e w' => e = .returned (.int .i64 (kOf r : Nat)) ∧ w' = w := by
  rcases (show 16777216 ≤ r ∨ (¬ 16777216 ≤ r ∧ 65536 ≤ r) ∨ (¬ 16777216 ≤ r ∧ ¬ 65536 ≤ r) by omega) with h | ⟨h, h2⟩ | ⟨h, h2⟩
  · rw [kOf_0 h]
    go_enter Try.func10, Try.ntmps10
    go_wp2
    go_ret
    exact ⟨rfl, rfl⟩
  · rw [kOf_1 (by omega) h2]
    go_enter Try.func10, Try.ntmps10
    go_wp2
    go_ret
    exact ⟨rfl, rfl⟩
  · rw [kOf_2 (by omega)]
    have h3 : 256 ≤ r := by omega
    go_enter Try.func10, Try.ntmps10
    go_wp2
    go_ret
    exact ⟨rfl, rfl⟩

set_option maxRecDepth 100000 in
set_option maxHeartbeats 400000 in
theorem settle_out (a0 a1 a2 a3 : Int) (a4 : Bool) (a5 : Option Addr) (n c : Nat) (a6 a7 : Int) (w : World) (hm : n ≤ maxLen) (b0 : 0 ≤ a0 ∧ a0 ≤ 18446744073709551615) (b1 : 0 ≤ a1 ∧ a1 ≤ 4294967295) (b6 : 0 ≤ a6 ∧ a6 ≤ 4294967295)
    (h : 1048576 < n ∨ a3 < 0 ∨ 65536 < a3 ∨ a1 < 16777216 ∨ a6 = 0 ∨ 4096 ≤ a6 ∨ 8589934592 ≤ a0 ∨ 8589934592 ≤ a0 + a1) :
    Calls Try.prog 3 #[.int .u64 a0, .int .u32 a1, .int .u8 a2, .int .i64 a3, .bool a4, .slice a5 n c, .int .u32 a6, .int .u32 a7] w fun e w' => e = .returned (.bool true) ∧ Below w.heap.size w w' := by
  unfold maxLen at hm
  by_cases h1 : 1048576 < n
  · go_enter Try.func3, Try.ntmps3
    go_wp2
    all_goals (go_ret; exact ⟨rfl, Below.refl _ _⟩)
  by_cases h2 : a3 < 0
  · go_enter Try.func3, Try.ntmps3
    go_wp2
    all_goals (go_ret; exact ⟨rfl, Below.refl _ _⟩)
  by_cases h3 : 65536 < a3
  · go_enter Try.func3, Try.ntmps3
    go_wp2
    all_goals (go_ret; exact ⟨rfl, Below.refl _ _⟩)
  by_cases h4 : a1 < 16777216
  · go_enter Try.func3, Try.ntmps3
    go_wp2
    all_goals (go_ret; exact ⟨rfl, Below.refl _ _⟩)
  by_cases h5 : a6 = 0
  · subst h5
    go_enter Try.func3, Try.ntmps3
    go_wp2
    all_goals (go_ret; exact ⟨rfl, Below.refl _ _⟩)
  have h5' : (a6 == 0) = false := by simpa using h5
  by_cases h6 : 4096 ≤ a6
  · go_enter Try.func3, Try.ntmps3
    go_wp2
    all_goals (go_ret; exact ⟨rfl, Below.refl _ _⟩)
  by_cases h7 : 8589934592 ≤ a0
  · go_enter Try.func3, Try.ntmps3
    go_wp2
    all_goals (go_ret; exact ⟨rfl, Below.refl _ _⟩)
  · have h8 : 8589934592 ≤ a0 + a1 := by omega
    go_enter Try.func3, Try.ntmps3
    go_wp2
    all_goals (go_ret; exact ⟨rfl, Below.refl _ _⟩)
end Go.Proofs.Qxb6618439a
