import Derived.Test.Qxb6618410aW3
import Derived.Deep.LoopGhost
namespace Go.Proofs.Qxb6618410a
open Go.RowKit

/-- What holds while the lexer works: its two variables' blocks (the text; the place), all older memory as it was. -/
structure NInv (Bd Bi : Nat) (w0 : World) (sv : Value) (p : Nat) (w : World) : Prop where
  bel : Below w0.heap.size w0 w
  cd : w.cell? ⟨Bd, 0, none⟩ = some sv
  ci : w.cell? ⟨Bi, 0, none⟩ = some (.int .i64 p)
  fi : w.frozen? ⟨Bi, 0, none⟩ = false
  hd : w0.heap.size ≤ Bd
  hi : w0.heap.size ≤ Bi
  ne : Bd ≠ Bi

theorem NInv.set {Bd Bi : Nat} {w0 : World} {sv : Value} {p : Nat} {w : World} (h : NInv Bd Bi w0 sv p w) (q : Nat) : NInv Bd Bi w0 sv q (w.setCell ⟨Bi, 0, none⟩ (.int .i64 q)) where
  bel := h.bel.setCell h.hi _
  cd := by rw [World.cell?_setCell_other _ _ _ _ (by intro e; exact h.ne (congrArg Addr.block e).symm)]; exact h.cd
  ci := World.cell?_setCell_same _ _ _ h.ci
  fi := by rw [World.frozen?_setCell]; exact h.fi
  hd := h.hd
  hi := h.hi
  ne := h.ne

theorem dec_lt (p j : Nat) : decide ((p : Int) < (p : Int) + (j : Int)) = decide (0 < j) := decide_eq_decide.2 (by omega)

set_option maxRecDepth 100000 in
set_option maxHeartbeats 400000 in
theorem digits_any (Bd Bi : Nat) (w0 : World) (ao : Option Addr) (cap : Nat) (l : List Int) (hr : Hid (Row w0 ao l)) (hl : l.length ≤ 65536) (p : Nat) (hp : p ≤ 9223372036854775807) (w : World)
    (hN : Hid (NInv Bd Bi w0 (.slice ao l.length cap) p w)) :
    Calls Try.prog 8 #[.pointer (some ⟨Bi, 0, none⟩), .pointer (some ⟨Bd, 0, none⟩)] w fun e w' => e = .returned (.bool (decide (0 < dg (l.drop p)))) ∧ NInv Bd Bi w0 (.slice ao l.length cap) (p + dg (l.drop p)) w' := by
  have ci := hN.out.ci
  go_enter Try.func8, Try.ntmps8
  go_wp2
  clear ci
  go_loopg [22] (l.length - p) (fun g _ wr => ∃ j : Nat, Hid (NInv Bd Bi w0 (.slice ao l.length cap) (p + j) wr) ∧ Hid (dg (l.drop p) = j + dg (l.drop (p + j))) ∧ g = l.length - (p + j) ∧ (j = 0 ∨ p + j ≤ l.length))
  case atStart => exact ⟨0, hN, by simp [Hid], by simp, .inl rfl⟩
  case round =>
    clear hN
    obtain ⟨j, hN, hdg, rfl, hj⟩ := hrel
    have ci := hN.out.ci
    have cd := hN.out.cd
    have fi := hN.out.fi
    by_cases hlt : p + j < l.length
    · obtain ⟨c, hx⟩ := head_of hlt
      obtain ⟨b, off, rfl⟩ := hr.out.addr (by omega)
      have hcell := (hr.out.later hN.out.bel).cell hx
      have HX : Hid (l[p + j]? = some c) := hx
      clear hx
      go_wp2
      · have hd : isDig c = true := isDig_of (by omega) (by omega)
        have hs := hN.out.set (p + (j + 1))
        rw [show ((p + (j + 1) : Nat) : Int) = (p : Int) + j + 1 from by omega] at hs
        go_roundg (l.length - (p + (j + 1)))
        case measure => omega
        case rel => exact ⟨j + 1, hs, by rw [Hid, hdg.out, dg_at_yes HX.out hd, ← Nat.add_assoc p j 1]; omega, rfl, .inr (by omega)⟩
      · have h0 := dg_at_no HX.out (isDig_high (show 57 < c by omega))
        have he : dg (l.drop p) = j := by rw [hdg.out, h0]; rfl
        go_ret
        exact ⟨ret_bool (by rw [he]; exact dec_lt p j), by rw [he]; exact hN.out⟩
      · have h0 := dg_at_no HX.out (isDig_low (show c < 48 by omega))
        have he : dg (l.drop p) = j := by rw [hdg.out, h0]; rfl
        go_ret
        exact ⟨ret_bool (by rw [he]; exact dec_lt p j), by rw [he]; exact hN.out⟩
    · have h0 := dg_end (show l.length ≤ p + j by omega)
      have he : dg (l.drop p) = j := by rw [hdg.out, h0]; rfl
      have HE : Hid (dg (l.drop p) = j) := he
      clear h0 he
      by_cases hj0 : j = 0
      · subst hj0
        simp only [Nat.add_zero] at ci hlt
        go_wp2
        go_ret
        exact ⟨ret_bool (by rw [HE.out]; rfl), by rw [HE.out]; exact hN.out⟩
      · go_wp2
        go_ret
        exact ⟨ret_bool (by rw [HE.out]; exact dec_lt p j), by rw [HE.out]; exact hN.out⟩
end Go.Proofs.Qxb6618410a
