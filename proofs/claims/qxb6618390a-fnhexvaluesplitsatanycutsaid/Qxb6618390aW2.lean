import Derived.Test.Qxb6618390aW1
import Derived.Test.Qxb6618390aHexNum
namespace Go.Proofs.Qxb6618390a
open Go.RowKit

theorem ret_bool {p q : Bool} (h : p = q) : Ending.returned (.bool p) = .returned (.bool q) := by rw [h]

set_option maxHeartbeats 400000 in
theorem allHex_any (s : ByteArray) (w : World) (hs : s.size ≤ 131072) :
    Calls Try.prog 7 #[.string s] w fun e w' => e = .returned (.bool (hexAll s.data.toList)) ∧ w' = w := by
  go_enter Try.func7, Try.ntmps7
  go_wp2
  go_loop [3] (fun i => ∃ k : Nat, k ≤ s.size ∧ i = .int .i64 k ∧ Hid (hexAll (s.data.toList.take k) = true)) (fun i => s.size - (intOf i).toNat)
  case atStart => exact ⟨0, Nat.zero_le _, rfl, rfl⟩
  case round =>
    obtain ⟨k, hk, rfl, hall⟩ := hrel
    by_cases hlt : k < s.size
    · go_wp2_with (go_at_call 8; refine (hexDigit_any _ _).mono ?_; rintro e w' ⟨rfl, rfl⟩)
      · have hb : (!hexB ((s[k]).toNat : Int)) = true := by assumption
        go_ret
        exact ⟨ret_bool (hexAll_false s k hlt (by simpa using hb)).symm, rfl⟩
      · have hb : (!hexB ((s[k]).toNat : Int)) = false := by assumption
        go_round
        case rel => exact ⟨k + 1, by omega, by go_num, by rw [Hid, take_snoc s k hlt, hexAll_snoc, hall.out, Bool.true_and]; simpa using hb⟩
        case measure => simp [intOf]; omega
    · go_wp2
      go_ret
      exact ⟨ret_bool (by rw [List.take_of_length_le (by simp; omega)] at hall; exact hall.out.symm), rfl⟩

/-- The world behind '[]byte(s)'. -/
theorem bytes_cell (w : World) (s : ByteArray) (cap : Nat) (j : Nat) (hj : j < s.size) :
    (w.alloc (.cells (bytesRow s cap) 5 ((bytesRow s cap).size, (bytesRow s cap).size + 1))).drew.cell? ⟨w.heap.size, j, none⟩ = some (.int .u8 (s[j].toNat : Int)) := by
  show (w.alloc _).cell? _ = _
  rw [World.cell?_alloc_mark, bytesRow_at s _ j hj]; rfl

set_option maxHeartbeats 400000 in
theorem hexValue_any (s : ByteArray) (w : World) (hs : s.size ≤ 131072) :
    Calls Try.prog 10 #[.string s] w fun e w' => e = .returned (.tuple #[.int .i32 (hexV s.data.toList), .bool (hexAll s.data.toList)]) ∧ Below w.heap.size w w' := by
  have hcv := run_bytes_of_string (P := Try.prog) w 9 29 5 s Try.underlying9 Try.underlying29 Try.underlying5
  generalize grownCap w s.size 0 5 = cap at hcv
  have hc := bytes_cell w s cap
  go_enter Try.func10, Try.ntmps10
  go_wp2
  go_loop [4, 10] (fun v i => ∃ k : Nat, k ≤ s.size ∧ i = .int .i64 k ∧ v = .int .i32 (wrap32 (num (s.data.toList.take k))) ∧ Hid (hexAll (s.data.toList.take k) = true)) (fun _ i => s.size - (intOf i).toNat)
  case atStart => exact ⟨0, Nat.zero_le _, rfl, by simp [num, wrap32], rfl⟩
  case round =>
    obtain ⟨k, hk, rfl, rfl, hall⟩ := hrel
    by_cases hlt : k < s.size
    · have hck := hc k hlt
      clear hc
      go_wp2
      all_goals first
        | (have h1 : (48 : Int) ≤ (s[k].toNat : Int) := by assumption
           have h2 : (s[k].toNat : Int) ≤ 57 := by assumption
           have R := rel_next s k hlt _ hall.out (step_low _ (num (s.data.toList.take k)) h1 h2)
           go_round
           case rel => exact ⟨k + 1, by omega, by go_num, by rw [R.2], R.1⟩
           case measure => simp [intOf]; omega)
        | (have h1 : (97 : Int) ≤ (s[k].toNat : Int) := by assumption
           have h2 : (s[k].toNat : Int) ≤ 102 := by assumption
           have R := rel_next s k hlt _ hall.out (step_a _ (num (s.data.toList.take k)) h1 h2)
           go_round
           case rel => exact ⟨k + 1, by omega, by go_num, by rw [R.2], R.1⟩
           case measure => simp [intOf]; omega)
        | (have h1 : (65 : Int) ≤ (s[k].toNat : Int) := by assumption
           have h2 : (s[k].toNat : Int) ≤ 70 := by assumption
           have R := rel_next s k hlt _ hall.out (step_A _ (num (s.data.toList.take k)) h1 h2)
           go_round
           case rel => exact ⟨k + 1, by omega, by go_num, by rw [R.2], R.1⟩
           case measure => simp [intOf]; omega)
        | (have hb := hexB_no (s[k].toNat : Int) (by omega) (by omega) (by omega)
           have hno := hexAll_false s k hlt hb
           go_ret2
           exact ⟨ret_ib (hexV_no hno).symm hno.symm, ((Below.refl _ w).alloc (Nat.le_refl _) _).drew⟩)
    · clear hc
      rw [List.take_of_length_le (by simp; omega)] at hall
      have et : s.data.toList.take k = s.data.toList := List.take_of_length_le (by simp; omega)
      have ET : Hid (s.data.toList.take k = s.data.toList) := et
      clear et
      go_wp2
      go_ret2
      exact ⟨ret_ib (by rw [ET.out, hexV_yes hall.out]) hall.out.symm, ((Below.refl _ w).alloc (Nat.le_refl _) _).drew⟩

end Go.Proofs.Qxb6618390a
