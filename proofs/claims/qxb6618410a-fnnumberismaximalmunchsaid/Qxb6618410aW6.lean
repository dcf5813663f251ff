import Derived.Test.Qxb6618410aW5
namespace Go.Proofs.Qxb6618410a
open Go.RowKit

set_option maxRecDepth 100000 in
set_option maxHeartbeats 400000 in
theorem number_beyond (R : Nat) (w : World) (ao : Option Addr) (cap : Nat) (l : List Int) (at0 : Nat) (hat : ¬ at0 < l.length) (hm : at0 ≤ 9223372036854775807) (hl : l.length ≤ 65536)
    (c0 : w.cell? ⟨R, 0, none⟩ = some (.slice ao l.length cap)) (c1 : w.cell? ⟨R, 1, none⟩ = some (.int .i64 at0)) (hr : Hid (Row w ao l)) :
    Calls Try.prog 5 #[.pointer (some ⟨R, 0, none⟩)] w fun e w' => e = .returned (.bool false) ∧ Left R w at0 none w' := by
  have hR : R < w.heap.size := World.block_lt_of_cell? w ⟨R, 0, none⟩ c0
  go_enter Try.func5, Try.ntmps5
  go_upto_region 1 with fail
  go_cut [3, 4] (fun d i wx => ∃ Bd Bi, d = .pointer (some ⟨Bd, 0, none⟩) ∧ i = .pointer (some ⟨Bi, 0, none⟩) ∧ Hid (NInv Bd Bi w (.slice ao l.length cap) at0 wx))
  case first =>
    go_region
    · go_wp2_with fail
      go_meet
      case rel => exact ⟨_, _, rfl, rfl, NInv.start1 w _ _⟩
    · go_wp2_with fail
      go_meet
      case rel => exact ⟨_, _, rfl, rfl, NInv.start2 w _ _⟩
  case rest =>
    obtain ⟨Bd, Bi, rfl, rfl, hN⟩ := hcut
    have C0 : Hid (w.cell? ⟨R, 1, none⟩ = some (.int .i64 at0)) := c1
    clear c0 c1
    have HD := hide (digits_any Bd Bi w ao cap l hr hl at0 hm wc hN)
    rw [dg_end (show l.length ≤ at0 by omega), show decide (0 < 0) = false from rfl] at HD
    have ci := hN.out.ci
    have cd := hN.out.cd
    go_wp2_with fail
    refine (unhide HD).mono ?_
    rintro e w' ⟨rfl, hN'⟩
    go_wp2_with fail
    go_ret
    exact ⟨rfl, left_none hN' hR C0.out rfl⟩
end Go.Proofs.Qxb6618410a
