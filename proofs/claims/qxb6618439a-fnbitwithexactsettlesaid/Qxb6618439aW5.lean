import Derived.Test.Qxb6618439aW4
import Derived.Test.Qxb6618439aBits
namespace Go.Proofs.Qxb6618439a
open Go.RowKit

/-- What holds at the loop's head. -/
def LInv (E : Nat) (w0 : World) (v0 : Value) (t : EncSt) (P T : Nat) (g : Nat) (wr : World) : Prop :=
  ∃ s oa oc, Enc E w0 v0 s oa oc wr ∧ oc ≤ 2 * (s.out.length + s.pending) + 2 ∧ lifts g s = t ∧ Sane s ∧ 16777216 ≤ s.rng * p256 g ∧ s.pending + g ≤ P ∧ s.out.length + s.pending + g ≤ T

set_option maxRecDepth 100000 in
set_option maxHeartbeats 400000 in
theorem bit_any (E : Nat) (w0 : World) (v0 : Value) (s : EncSt) (oa : Option Addr) (oc : Nat) (w : World) (p bit : Int) (hE : Hid (Enc E w0 v0 s oa oc w)) (hc : oc ≤ 2 * (s.out.length + s.pending) + 2)
    (l0 : 0 ≤ s.low) (l1 : s.low + s.rng ≤ 8589934592) (r0 : 16777216 ≤ s.rng) (r1 : s.rng < 4294967296) (hp : 1 ≤ p) (hp2 : p < 4096) (hpe : s.pending ≤ 1048570) (hto : s.out.length + s.pending ≤ 4194300) :
    Calls Try.prog 8 #[.pointer (some ⟨E, 0, none⟩), .int .u32 p, .int .u32 bit] w fun e w' => e = .returned (.int .u32 bit) ∧ ∃ oa' oc', Enc E w0 v0 (bitSt s p bit) oa' oc' w' ∧ oc' ≤ 2 * ((bitSt s p bit).out.length + (bitSt s p bit).pending) + 2 := by
  have hq := cut_bd s.rng p r0 r1 hp hp2
  have HN : Hid (Sane (narrow s p bit) ∧ 4096 ≤ (narrow s p bit).rng) := narrow_sane l0 l1 r0 r1 hp hp2
  have c0 := hE.out.c0
  have c1 := hE.out.c1
  have f0 := hE.out.fz 0
  have f1 := hE.out.fz 1
  go_enter Try.func8, Try.ntmps8
  go_upto_if 16 with fail
  go_cut [18] (fun _ wx => LInv E w0 v0 (bitSt s p bit) (s.pending + 2) (s.out.length + s.pending + 2) 2 wx)
  case first =>
    by_cases hb : bit = 0
    · subst hb
      have HX : Hid (LInv E w0 v0 (bitSt s p 0) (s.pending + 2) (s.out.length + s.pending + 2) 2 (w.setCell ⟨E, 1, none⟩ (.int .u32 (s.rng / 4096 * p)))) := by
        have h1 := HN.out
        refine ⟨narrow s p 0, oa, oc, ?_, ?_, rfl, h1.1, ?_, ?_, ?_⟩
        · rw [narrow_zero]; exact hE.out.setRng _
        · rw [narrow_zero]; exact hc
        · have : p256 2 = 65536 := rfl
          rw [this]; omega
        · rw [narrow_zero]; exact Nat.le_refl _
        · rw [narrow_zero]; exact Nat.le_refl _
      go_wp2_with fail
      go_meet
      case rel => exact HX.out
    · have hb' : (bit == 0) = false := by simpa using hb
      have HX : Hid (LInv E w0 v0 (bitSt s p bit) (s.pending + 2) (s.out.length + s.pending + 2) 2 ((w.setCell ⟨E, 0, none⟩ (.int .u64 (s.low + s.rng / 4096 * p))).setCell ⟨E, 1, none⟩ (.int .u32 (s.rng - s.rng / 4096 * p)))) := by
        have h1 := HN.out
        refine ⟨narrow s p bit, oa, oc, ?_, ?_, rfl, h1.1, ?_, ?_, ?_⟩
        · rw [narrow_one s p hb]; exact (hE.out.setLow _).setRng _
        · rw [narrow_one s p hb]; exact hc
        · have : p256 2 = 65536 := rfl
          rw [this]; omega
        · rw [narrow_one s p hb]; exact Nat.le_refl _
        · rw [narrow_one s p hb]; exact Nat.le_refl _
      clear hb
      go_wp2_with fail
      go_meet
      case rel => exact HX.out
  case rest =>
    clear hE c0 c1 f0 f1 HN
    go_wp2_with fail
    go_loopg [41] 2 (fun g _ wr => g ≤ 2 ∧ Hid (LInv E w0 v0 (bitSt s p bit) (s.pending + 2) (s.out.length + s.pending + 2) g wr))
    case atStart => exact ⟨Nat.le_refl _, hcut⟩
    case round =>
      clear hcut
      obtain ⟨hg2, hL⟩ := hrel
      obtain ⟨t, oa1, oc1, hE, hc1, hlift, hsane, hrg, hp1, ht1⟩ := hL.out
      have HE := hide hE
      have HS := hide hsane
      have HL := hide hlift
      clear hL hE hlift
      have c1 := HE.out.c1
      have f1 := HE.out.fz 1
      have hs1 := hsane.l0
      have hs2 := hsane.l1
      have hs3 := hsane.r0
      have hs4 := hsane.r1
      clear hsane
      by_cases hr : t.rng < 16777216
      · rcases gk with _ | g
        · exact absurd hrg (by show ¬ 16777216 ≤ t.rng * 1; omega)
        · have HC := hide (shift_any E w0 v0 { t with rng := t.rng * 256 } oa1 oc1 _ (HE.out.setRng (t.rng * 256)) hs1 hs2 (by show t.pending ≤ _; omega) (by show t.out.length ≤ _; omega) hc1)
          have HX : Hid (Sane (lift1 t) ∧ 16777216 ≤ (lift1 t).rng * p256 g ∧ (lift1 t).pending + g ≤ s.pending + 2 ∧ (lift1 t).out.length + (lift1 t).pending + g ≤ s.out.length + s.pending + 2 ∧ lifts g (lift1 t) = bitSt s p bit) := by
            have h1 := lift_sane HS.out hr
            have h2 := shift_total { t with rng := t.rng * 256 }
            have h3 : (lift1 t).out.length + (lift1 t).pending ≤ t.out.length + t.pending + 1 := h2.1
            have h4 : (lift1 t).pending ≤ t.pending + 1 := h2.2
            refine ⟨h1.1, ?_, by omega, by omega, by rw [← HL.out, lifts_succ hr]⟩
            rw [h1.2, Int.mul_assoc]; exact hrg
          clear hrg
          go_wp2_with fail
          refine (unhide HC).mono ?_
          rintro e w' ⟨rfl, oa2, oc2, hE2, hc2⟩
          go_wp2_with fail
          go_roundg g
          case measure => omega
          case rel => exact ⟨by omega, lift1 t, oa2, oc2, hE2, hc2, HX.out.2.2.2.2, HX.out.1, HX.out.2.1, HX.out.2.2.1, HX.out.2.2.2.1⟩
      · have HQ : Hid (t = bitSt s p bit) := (lifts_done hr).symm.trans HL.out
        go_wp2_with fail
        go_ret
        refine ⟨rfl, ?_⟩
        rw [← HQ.out]
        exact ⟨oa1, oc1, HE.out, hc1⟩
end Go.Proofs.Qxb6618439a
