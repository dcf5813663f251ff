import Derived.Test.Qxb6618410aProg
import Derived.Test.Qxb6618410aLex
import Derived.WalkKit
import Derived.WalkSpells
import Derived.WalkLawsBesides
import Derived.Deep.DeepCutAuto
namespace Go.Proofs.Qxb6618410a
open Go.RowKit

theorem ret_bool {p q : Bool} (h : p = q) : Ending.returned (.bool p) = .returned (.bool q) := by rw [h]

/-- The bytes l lie where the slice's address points. -/
def Row (w : World) (ao : Option Addr) (l : List Int) : Prop := ∀ (i : Nat) (c : Int), l[i]? = some c → ∃ b off, ao = some ⟨b, off, none⟩ ∧ w.cell? ⟨b, off + i, none⟩ = some (.int .u8 c)

theorem Row.addr {w : World} {ao : Option Addr} {l : List Int} (h : Row w ao l) (hl : 0 < l.length) : ∃ b off, ao = some ⟨b, off, none⟩ := by
  obtain ⟨c, hc⟩ := head_of hl
  obtain ⟨b, off, e, _⟩ := h 0 c hc
  exact ⟨b, off, e⟩
theorem Row.cell {w : World} {b off : Nat} {l : List Int} (h : Row w (some ⟨b, off, none⟩) l) {i : Nat} {c : Int} (hc : l[i]? = some c) : w.cell? ⟨b, off + i, none⟩ = some (.int .u8 c) := by
  obtain ⟨b', off', e, hh⟩ := h i c hc
  simp only [Option.some.injEq, Addr.mk.injEq, and_true] at e
  rw [e.1, e.2]; exact hh
theorem Row.take {w : World} {ao : Option Addr} {l : List Int} (h : Row w ao l) (k : Nat) : Row w ao (l.take k) := fun i c hc => by
  rw [List.getElem?_take] at hc
  split at hc
  · exact h i c hc
  · simp at hc
theorem Row.nil (w : World) (ao : Option Addr) : Row w ao [] := fun i c hc => by simp at hc
/-- A slice cut at its head: the address, as the model writes it. -/
theorem Row.drop {w : World} {b off : Nat} {l : List Int} (h : Row w (some ⟨b, off, none⟩) l) (k : Nat) : Row w (some ⟨b, off + k, none⟩) (l.drop k) := fun i c hc => by
  rw [List.getElem?_drop] at hc
  exact ⟨b, off + k, rfl, by rw [Nat.add_assoc]; exact h.cell hc⟩

def all1 (l : List Int) : Bool := l.all isDig
theorem allDig_nil {l : List Int} (h : l.length = 0) : allDig l = false := by
  have : l = [] := List.eq_nil_of_length_eq_zero h
  subst this; rfl
theorem allDig_of {l : List Int} (h : 0 < l.length) : allDig l = all1 l := by
  cases l with
  | nil => simp at h
  | cons c t => simp [allDig, all1]
theorem all1_bad {l : List Int} {k : Nat} {c : Int} (hc : l[k]? = some c) (hd : isDig c = false) : all1 l = false := by
  unfold all1
  rw [List.all_eq_false]
  obtain ⟨hk, rfl⟩ := List.getElem?_eq_some_iff.1 hc
  exact ⟨_, List.getElem_mem hk, by simp [hd]⟩
theorem all1_step {l : List Int} {k : Nat} {c : Int} (hc : l[k]? = some c) (h : all1 (l.take k) = true) (hd : isDig c = true) : all1 (l.take (k + 1)) = true := by
  obtain ⟨hk, rfl⟩ := List.getElem?_eq_some_iff.1 hc
  rw [List.take_succ_eq_append_getElem hk]
  unfold all1 at h ⊢
  rw [List.all_append, h]
  simp [hd]
theorem isDig_of {c : Int} (a : 48 ≤ c) (b : c ≤ 57) : isDig c = true := by simp [isDig, a, b]
theorem isDig_low {c : Int} (a : c < 48) : isDig c = false := by simp [isDig]; omega
theorem isDig_high {c : Int} (a : 57 < c) : isDig c = false := by simp [isDig]; omega

set_option maxHeartbeats 400000 in
theorem allDig_any (ao : Option Addr) (cap : Nat) (l : List Int) (w : World) (hr : Hid (Row w ao l)) (hl : l.length ≤ 1048576) :
    Calls Try.prog 9 #[.slice ao l.length cap] w fun e w' => e = .returned (.bool (allDig l)) ∧ w' = w := by
  by_cases h0 : l.length = 0
  · have HA : Hid (allDig l = false) := allDig_nil h0
    have h0' : ((l.length : Int) == 0) = true := by simp [h0]
    go_enter Try.func9, Try.ntmps9
    go_wp2
    go_ret
    exact ⟨ret_bool HA.out.symm, rfl⟩
  · have HA : Hid (allDig l = all1 l) := allDig_of (by omega)
    obtain ⟨b, off, rfl⟩ := hr.out.addr (by omega)
    have h0' : ((l.length : Int) == 0) = false := by rw [beq_eq_false_iff_ne]; omega
    go_enter Try.func9, Try.ntmps9
    go_wp2
    go_loop [3] (fun i => ∃ k : Nat, k ≤ l.length ∧ i = .int .i64 k ∧ Hid (all1 (l.take k) = true)) (fun i => l.length - (intOf i).toNat)
    case atStart => exact ⟨0, Nat.zero_le _, rfl, rfl⟩
    case round =>
      obtain ⟨k, hk, rfl, hall⟩ := hrel
      by_cases hlt : k < l.length
      · obtain ⟨c, hc⟩ := head_of hlt
        have hcell := hr.out.cell hc
        have HC : Hid (l[k]? = some c) := hc
        clear hc
        go_wp2
        · have hd : isDig c = false := isDig_high (by omega)
          go_ret
          exact ⟨ret_bool (by rw [HA.out, all1_bad HC.out hd]), rfl⟩
        · have hd : isDig c = true := isDig_of (by omega) (by omega)
          go_round
          case rel => exact ⟨k + 1, by omega, by go_num, all1_step HC.out hall.out hd⟩
          case measure => simp [intOf]; omega
        · have hd : isDig c = false := isDig_low (by omega)
          go_ret
          exact ⟨ret_bool (by rw [HA.out, all1_bad HC.out hd]), rfl⟩
      · go_wp2
        go_ret
        exact ⟨ret_bool (by rw [List.take_of_length_le (by omega)] at hall; rw [HA.out, hall.out]), rfl⟩
end Go.Proofs.Qxb6618410a
