import Derived.Test.Qxb6618390aW2
import Derived.Test.Qxb6618390aLast8
namespace Go.Proofs.Qxb6618390a
open Go.RowKit

set_option maxHeartbeats 400000 in
theorem zzHex_any (s : ByteArray) (w : World) (hs : s.size ≤ 131072) :
    Calls Try.prog 6 #[.string s] w fun e w' => e = .returned (.tuple #[.int .i32 (hexV s.data.toList), .bool (hexAll s.data.toList)]) ∧ Below w.heap.size w w' := by
  go_enter Try.func6, Try.ntmps6
  go_wp2_with (go_at_call 10; refine (hexValue_any _ _ (by omega)).mono ?_; rintro e w' ⟨rfl, hb⟩)
  go_ret2
  exact ⟨rfl, hb⟩

set_option maxHeartbeats 400000 in
theorem law1_short (s : ByteArray) (w : World) (hm : s.size ≤ maxLen) (h : 65536 < s.size) :
    Calls Try.prog 3 #[.string s] w fun e w' => e = .returned (.bool true) ∧ Below w.heap.size w w' := by
  unfold maxLen at hm
  go_enter Try.func3, Try.ntmps3
  go_wp2
  all_goals (go_ret; exact ⟨rfl, Below.refl _ _⟩)

set_option maxHeartbeats 400000 in
theorem law1_no (s : ByteArray) (w : World) (h : s.size ≤ 65536) (hno : hexAll s.data.toList = false) :
    Calls Try.prog 3 #[.string s] w fun e w' => e = .returned (.bool true) ∧ Below w.heap.size w w' := by
  have hv := hexV_no hno
  go_enter Try.func3, Try.ntmps3
  go_wp2_with (first | (go_at_call 6; refine (zzHex_any _ _ (by omega)).mono ?_; rintro e w' ⟨rfl, hb⟩) | (go_at_call 7; refine (allHex_any _ _ (by omega)).mono ?_; rintro e w' ⟨rfl, rfl⟩) | (go_at_call 5; go_in))
  go_ret
  exact ⟨rfl, by assumption⟩

set_option maxHeartbeats 400000 in
theorem law1_yes (s : ByteArray) (w : World) (h : s.size ≤ 65536) (hyes : hexAll s.data.toList = true) :
    Calls Try.prog 3 #[.string s] w fun e w' => e = .returned (.bool true) ∧ Below w.heap.size w w' := by
  have hv := hexV_yes hyes
  go_enter Try.func3, Try.ntmps3
  go_wp2_with (first | (go_at_call 6; refine (zzHex_any _ _ (by omega)).mono ?_; rintro e w' ⟨rfl, hb⟩) | (go_at_call 7; refine (allHex_any _ _ (by omega)).mono ?_; rintro e w' ⟨rfl, rfl⟩) | (go_at_call 5; go_in))
  go_loop [6, 7, 8] (fun u p i => ∃ k : Nat, k ≤ 8 ∧ k ≤ s.size ∧ i = .int .i64 k ∧ u = .int .u32 (uAt s.data.toList k) ∧ p = .int .u32 (pAt k)) (fun _ _ i => 8 - (intOf i).toNat)
  case atStart => exact ⟨0, by omega, by omega, rfl, by rw [uAt_zero], by rw [pAt_zero]⟩
  case round =>
    obtain ⟨k, hk8, hkn, rfl, rfl, rfl⟩ := hrel
    by_cases hlt : k < 8 ∧ k < s.size
    · obtain ⟨h1, h2⟩ := hlt
      have hi : s.size - 1 - k < s.size := by omega
      have hub := uAt_bd s.data.toList k
      have hpb := pAt_bd k
      have hdb := dv_bd (s[s.size - 1 - k].toNat : Int)
      go_wp2_with (go_at_call 8; refine (hexDigit_any _ _).mono ?_; rintro e w' ⟨rfl, rfl⟩)
      have hu := uAt_succ s k h2 hi
      have hp := pAt_succ k
      go_round
      case rel => exact ⟨k + 1, by omega, by omega, by go_num, by rw [hu], by rw [hp]⟩
      case measure => simp [intOf]; omega
    · have hend : uAt s.data.toList k = num s.data.toList % 4294967296 := uAt_end _ k (by simp; omega)
      have hq : (wrap32 (num s.data.toList) == wrap32 (uAt s.data.toList k)) = true := by
        rw [hend, beq_iff_eq]; unfold wrap32; omega
      have HQ : Hid ((wrap32 (num s.data.toList) == wrap32 (uAt s.data.toList k)) = true) := hq
      clear hq hend
      go_wp2
      all_goals
        go_ret
        exact ⟨ret_bool HQ.out, by assumption⟩

theorem law1_any (s : ByteArray) (w : World) (hm : s.size ≤ maxLen) :
    Calls Try.prog 3 #[.string s] w fun e w' => e = .returned (.bool true) ∧ Below w.heap.size w w' := by
  by_cases h : 65536 < s.size
  · exact law1_short s w hm h
  · rcases hb : hexAll s.data.toList with _ | _
    · exact law1_no s w (by omega) hb
    · exact law1_yes s w (by omega) hb
end Go.Proofs.Qxb6618390a
