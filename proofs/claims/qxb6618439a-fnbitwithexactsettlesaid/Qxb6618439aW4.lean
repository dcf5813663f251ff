import Derived.Test.Qxb6618439aW3
import Derived.BigRegion
import Derived.Deep.RegionLaw
import Derived.Deep.RegionWith
namespace Go.Proofs.Qxb6618439a
open Go.RowKit

theorem wraps_u64 (n : Int) (h₀ : 0 ≤ n) (h₁ : n < 2 ^ 64) : IntKind.u64.wrap n = n := by
  have e : IntKind.u64.wrap n = n % 18446744073709551616 := by simp [IntKind.wrap, IntKind.bits, IntKind.signed]
  rw [e]; omega
theorem mask24 (x : Int) (h0 : 0 ≤ x) (h1 : x < 18446744073709551616) : bits .and .u64 x 16777215 = x % 16777216 := bits_mask .u64 64 (by decide) wraps_u64 24 (by decide) x h0 h1
theorem mask8 (x : Int) (h0 : 0 ≤ x) (h1 : x < 18446744073709551616) : bits .and .u64 x 255 = x % 256 := bits_mask .u64 64 (by decide) wraps_u64 8 (by decide) x h0 h1
theorem settles_no {x : Int} (h1 : 4278190080 ≤ x) (h2 : x < 4294967296) : settles x = false := by
  simp only [settles, Bool.or_eq_false_iff, decide_eq_false_iff_not]; omega
theorem settles_cases {x : Int} (h0 : 0 ≤ x) (h : settles x = false) : 4278190080 ≤ x ∧ x < 4294967296 := by
  simp only [settles, Bool.or_eq_false_iff, decide_eq_false_iff_not] at h; omega

set_option maxRecDepth 100000 in
set_option maxHeartbeats 400000 in
theorem shift_pend (E : Nat) (w0 : World) (v0 : Value) (s : EncSt) (oa : Option Addr) (oc : Nat) (w : World) (hE : Hid (Enc E w0 v0 s oa oc w)) (h1 : 4278190080 ≤ s.low) (h2 : s.low < 4294967296) (hp : s.pending ≤ 16777216) :
    Calls Try.prog 14 #[.pointer (some ⟨E, 0, none⟩)] w fun e w' => e = .returned (.tuple #[]) ∧ Enc E w0 v0 (shiftSt s) oa oc w' := by
  have c0 := hE.out.c0
  have c3 := hE.out.c3
  have f0 := hE.out.fz 0
  have f3 := hE.out.fz 3
  have hm := mask24 s.low (by omega) (by omega)
  have HR : Hid (Enc E w0 v0 (shiftSt s) oa oc ((w.setCell ⟨E, 3, none⟩ (.int .i64 ((s.pending : Int) + 1))).setCell ⟨E, 0, none⟩ (.int .u64 (s.low % 16777216 * 256)))) := by
    rw [Hid, shift_no (settles_no h1 h2)]
    exact (hE.out.setPending (s.pending + 1)).setLow _
  go_enter Try.func14, Try.ntmps14
  go_wp2_with fail
  go_end0
  exact ⟨rfl, HR.out⟩

theorem Own.form {w : World} {v : Value} {bs : List Int} (h : Own w v bs) : ∃ oa oc, v = .slice oa bs.length oc := by
  rcases h.cases with ⟨rfl, rfl⟩ | ⟨g, cap, _, rfl, _⟩
  · exact ⟨none, 0, rfl⟩
  · exact ⟨_, _, rfl⟩
/-- Grow, as a settling calls it. -/
theorem grow_at (s : EncSt) (oa : Option Addr) (oc : Nat) (w : World) (hO : Own w (.slice oa s.out.length oc) s.out) (hp : s.pending ≤ 1048576) (ho : s.out.length ≤ 4194304) (hc : oc ≤ 2 * (s.out.length + s.pending) + 2) :
    Calls Try.prog 15 #[.slice oa s.out.length oc, .int .i64 (IntKind.i64.wrap (1 + (s.pending : Int)))] w fun e w' => ∃ oa' oc', e = .returned (.slice oa' s.out.length oc') ∧ Grew w (.slice oa s.out.length oc) s.out (1 + s.pending) (.slice oa' s.out.length oc') w' := by
  have h := grow_any (.slice oa s.out.length oc) s.out (1 + s.pending) w hO (by omega) (by omega) (by omega) (by show oc ≤ _; omega)
  rw [show ((1 + s.pending : Nat) : Int) = IntKind.i64.wrap (1 + (s.pending : Int)) from by rw [IntKind.wrap_i64]; omega] at h
  refine h.mono ?_
  rintro e w' ⟨v', rfl, hg⟩
  obtain ⟨oa', oc', rfl⟩ := hg.1.form
  exact ⟨oa', oc', rfl, hg⟩

theorem grew_at {E : Nat} {w0 : World} {v0 : Value} {s : EncSt} {oa : Option Addr} {oc : Nat} {w w' : World} (h : Enc E w0 v0 s oa oc w) (ht : Touch (fun _ => False) w w') : w'.cell? ⟨E, 5, none⟩ = some (.slice oa s.out.length oc) ∧ w'.frozen? ⟨E, 5, none⟩ = false := by
  have hb : w'.heap[E]? = some (.cells (encCells s oa oc) 40 (0, 0)) := by rw [ht.block E h.lt (fun f => f)]; exact h.blk
  exact ⟨by rw [cell_of_row _ _ _ _ _ _ hb]; rfl, frozen_of_row _ _ _ _ _ hb⟩

theorem shift_grows (s : EncSt) (h : settles s.low = true) : s.out.length + s.pending ≤ (shiftSt s).out.length := by
  rw [shift_yes h]
  simp only [settled, List.length_append, List.length_replicate]
  omega

/-- Between the growing and the end of a settling: carry is known; the row has room for what is still to come. -/
def Mid (E : Nat) (w0 : World) (v0 : Value) (s : EncSt) (k C : Nat) (w : World) : Prop := ∃ g oc, Enc E w0 v0 s (some ⟨g, 0, none⟩) oc w ∧ s.out.length + k ≤ oc ∧ oc ≤ C

theorem mid_grown {E : Nat} {w0 : World} {v0 : Value} {s : EncSt} {oa oa' : Option Addr} {oc oc' : Nat} {w w' : World} (h : Enc E w0 v0 s oa oc w) (hg : Grew w.drew (.slice oa s.out.length oc) s.out (1 + s.pending) (.slice oa' s.out.length oc') w')
    (hc : oc ≤ 2 * (s.out.length + s.pending) + 2) : Mid E w0 v0 s (1 + s.pending) (2 * (s.out.length + s.pending) + 2) (w'.setCell ⟨E, 5, none⟩ (.slice oa' s.out.length oc')) := by
  obtain ⟨h1, h2, h3, h4, h5⟩ := hg
  have hn := h.drew.newOut h4 h1 h5
  have r1 : s.out.length + (1 + s.pending) ≤ oc' := h2
  have r2 : oc' ≤ max oc (2 * (s.out.length + (1 + s.pending))) := h3
  rcases h1.cases with ⟨e, _⟩ | ⟨g, cap, cur, e, _⟩
  · simp only [Value.slice.injEq] at e
    obtain ⟨_, _, e3⟩ := e
    omega
  · simp only [Value.slice.injEq, true_and] at e
    obtain ⟨rfl, rfl⟩ := e
    exact ⟨g, oc', hn, r1, by omega⟩
/-- What a settling writes first. -/
def head1 (s : EncSt) : List Int := if s.started then [(s.cache + s.low / 4294967296) % 256] else []
theorem mid_skip {E : Nat} {w0 : World} {v0 : Value} {s : EncSt} {g oc C : Nat} {w : World} (h : Enc E w0 v0 s (some ⟨g, 0, none⟩) oc w) (hs : s.started = false) (hr : s.out.length + (1 + s.pending) ≤ oc) (hc : oc ≤ C) :
    Mid E w0 v0 { s with out := s.out ++ head1 s } s.pending C w := by
  have e : head1 s = [] := by simp [head1, hs]
  rw [e, List.append_nil]
  exact ⟨g, oc, h, by show s.out.length + s.pending ≤ oc; omega, hc⟩
theorem mid_push {E : Nat} {w0 : World} {v0 : Value} {s : EncSt} {g oc : Nat} {w : World} (h : Enc E w0 v0 s (some ⟨g, 0, none⟩) oc w) (hr : s.out.length < oc) (c : Int) (o : Obj) :
    Enc E w0 v0 { s with out := s.out ++ [c] } (some ⟨g, 0, none⟩) oc (((w.setCell ⟨g, s.out.length, none⟩ (.int .u8 c)).setCell ⟨E, 5, none⟩ (.slice (some ⟨g, 0, none⟩) (s.out.length + 1) oc)).alloc o) :=
  (h.push hr c).alloc o
theorem mid_head {E : Nat} {w0 : World} {v0 : Value} {s : EncSt} {g oc C : Nat} {w : World} (h : Enc E w0 v0 s (some ⟨g, 0, none⟩) oc w) (hs : s.started = true) (hr : s.out.length + (1 + s.pending) ≤ oc) (hc : oc ≤ C) (o : Obj) :
    Mid E w0 v0 { s with out := s.out ++ head1 s } s.pending C ((((w.setCell ⟨g, s.out.length, none⟩ (.int .u8 ((s.cache + s.low / 4294967296) % 256))).setCell ⟨E, 5, none⟩ (.slice (some ⟨g, 0, none⟩) (s.out.length + 1) oc)).alloc o).drew) := by
  have e : head1 s = [(s.cache + s.low / 4294967296) % 256] := by simp [head1, hs]
  rw [e]
  exact ⟨g, oc, (mid_push h (by omega) _ o).drew, by show (s.out ++ [_]).length + s.pending ≤ oc; rw [List.length_append]; show s.out.length + 1 + s.pending ≤ oc; omega, hc⟩
/-- The state while the pending bytes are written, j of them still to come. -/
def midSt (s : EncSt) (j : Nat) : EncSt := { s with out := s.out ++ head1 s ++ List.replicate (s.pending - j) ((255 + s.low / 4294967296) % 256), pending := j }
theorem midSt_start (s : EncSt) : midSt s s.pending = { s with out := s.out ++ head1 s } := by simp [midSt]
theorem midSt_step (s : EncSt) (j : Nat) (h : j < s.pending) : midSt s j = { midSt s (j + 1) with out := (midSt s (j + 1)).out ++ [(255 + s.low / 4294967296) % 256], pending := j } := by
  have e : s.pending - j = (s.pending - (j + 1)) + 1 := by omega
  simp only [midSt]
  rw [e, List.replicate_succ', List.append_assoc, List.append_assoc, List.append_assoc]
theorem midSt_end (s : EncSt) (h : settles s.low = true) : shiftSt s = { midSt s 0 with cache := s.low / 16777216 % 256, started := true, low := s.low % 16777216 * 256 } := by
  rw [shift_yes h]
  simp [midSt, settled, head1]
theorem spare_at {E : Nat} {w0 : World} {v0 : Value} {s : EncSt} {g oc : Nat} {w : World} (h : Enc E w0 v0 s (some ⟨g, 0, none⟩) oc w) (hr : s.out.length < oc) : ∃ u, w.cell? ⟨g, s.out.length, none⟩ = some u := by
  rcases h.own.cases with ⟨h1, _⟩ | ⟨g', cap', cur, h1, hg, h4, h5, h6, h7⟩
  · simp at h1
  · simp only [Value.slice.injEq, Option.some.injEq, Addr.mk.injEq, and_true, true_and] at h1
    obtain ⟨rfl, rfl⟩ := h1
    exact ⟨cur[s.out.length]'(by omega), by rw [cell_of_row _ _ _ _ _ _ hg]; exact Array.getElem?_eq_getElem _⟩

set_option maxRecDepth 100000 in
set_option maxHeartbeats 400000 in
theorem shift_settle (E : Nat) (w0 : World) (v0 : Value) (s : EncSt) (oa : Option Addr) (oc : Nat) (w : World) (hE : Hid (Enc E w0 v0 s oa oc w)) (h0 : 0 ≤ s.low) (h33 : s.low < 8589934592) (hs : Hid (settles s.low = true))
    (hp : s.pending ≤ 1048576) (ho : s.out.length ≤ 4194304) (hc : oc ≤ 2 * (s.out.length + s.pending) + 2) :
    Calls Try.prog 14 #[.pointer (some ⟨E, 0, none⟩)] w fun e w' => e = .returned (.tuple #[]) ∧ ∃ oa' oc', Enc E w0 v0 (shiftSt s) oa' oc' w' ∧ oc' ≤ 2 * ((shiftSt s).out.length + (shiftSt s).pending) + 2 := by
  have c0 := hE.out.c0
  have c3 := hE.out.c3
  have c5 := hE.out.c5
  have f5 := hE.out.fz 5
  have HG := hide (grow_at s oa oc w.drew hE.out.drew.own (by omega) (by omega) (by omega))
  go_enter Try.func14, Try.ntmps14
  go_upto_region 0 with fail
  go_cut [15] (fun t wx => t = .bool true ∧ w = wx)
  case first =>
    rcases (show s.low % 4294967296 < 4278190080 ∨ (¬ s.low % 4294967296 < 4278190080 ∧ 4294967296 ≤ s.low) from by have := hs.out; simp [settles] at this; omega) with hlt | ⟨hge, hge2⟩
    · go_wp2_with fail
      go_meet
      case rel => exact ⟨rfl, rfl⟩
    · go_wp2_with fail
      go_meet
      case rel => exact ⟨rfl, rfl⟩
  case rest =>
    obtain ⟨rfl, rfl⟩ := hcut
    go_upto_region 2 with fail
    go_cut [32] (fun _ wx => Mid E w0 v0 s (1 + s.pending) (2 * (s.out.length + s.pending) + 2) wx)
    case first =>
      go_region_with (go_at_call 15; refine (unhide HG).mono ?_; rintro e w' ⟨oa', oc', rfl, hg⟩; have hx := grew_at hE.out.drew hg.2.2.2.1; have hx5 := hx.1; have hf5 := hx.2; have HX := hide hg; clear hx hg)
      all_goals
        go_wp2_with fail
        go_meet
        case rel => exact mid_grown hE.out HX.out hc
    case rest =>
      clear HG c0 c3 c5 f5 hE
      obtain ⟨g, oc1, hE, hroom, hcap⟩ := hcut
      have HE := hide hE
      clear hE
      have c2 := HE.out.c2
      have c4 := HE.out.c4
      have c5 := HE.out.c5
      have f5 := HE.out.fz 5
      go_upto_if 38 with fail
      go_cut [51] (fun _ wx => Mid E w0 v0 { s with out := s.out ++ head1 s } s.pending (2 * (s.out.length + s.pending) + 2) wx)
      case first =>
        rcases hst : s.started with _ | _
        · go_wp2_with fail
          go_meet
          case rel => exact mid_skip HE.out hst hroom hcap
        · obtain ⟨u, hsp⟩ := spare_at HE.out (by omega)
          have hfz := HE.out.own.free s.out.length
          have hgl : g < wc.heap.size := HE.out.own.lt g rfl
          have hEl := HE.out.lt
          have hne : ¬ E = g := fun e => HE.out.ne g rfl e.symm
          have hr1 : s.out.length + 1 ≤ oc1 := by omega
          go_upto_region 4 with fail
          go_region
          all_goals
            go_wp2_with fail
            go_meet
            case rel => exact mid_head HE.out hst hroom hcap _
      case rest =>
        clear HE c2 c4 c5 f5 hroom hcap
        rw [← midSt_start] at hcut
        go_wp2_with fail
        go_loopg [74] s.pending (fun j _ wr => j ≤ s.pending ∧ Hid (Mid E w0 v0 (midSt s j) j (2 * (s.out.length + s.pending) + 2) wr))
        case atStart => exact ⟨Nat.le_refl _, hcut⟩
        case round =>
          clear hcut
          obtain ⟨hj, hM⟩ := hrel
          obtain ⟨g, oc1, hE, hroom, hcap⟩ := hM.out
          have HE := hide hE
          clear hE hM
          have f3 := HE.out.fz 3
          rcases gk with _ | j
          · have c3 : wr.cell? ⟨E, 3, none⟩ = some (.int .i64 0) := HE.out.c3
            have c0 : wr.cell? ⟨E, 0, none⟩ = some (.int .u64 s.low) := HE.out.c0
            have c2 := HE.out.c2
            have c4 := HE.out.c4
            have f0 := HE.out.fz 0
            have f2 := HE.out.fz 2
            have f4 := HE.out.fz 4
            have hm := mask24 s.low (by omega) (by omega)
            go_wp2_with fail
            go_end0
            refine ⟨rfl, some ⟨g, 0, none⟩, oc1, ?_, ?_⟩
            · rw [midSt_end s hs.out]; exact ((HE.out.setCache _).setStarted true).setLow _
            · have := shift_grows s hs.out; omega
          · have c3 : wr.cell? ⟨E, 3, none⟩ = some (.int .i64 ((j : Int) + 1)) := HE.out.c3
            have c5 := HE.out.c5
            have f5 := HE.out.fz 5
            obtain ⟨u, hsp⟩ := spare_at HE.out (by omega)
            have hfz := HE.out.own.free (midSt s (j + 1)).out.length
            have hgl : g < wr.heap.size := HE.out.own.lt g rfl
            have hEl := HE.out.lt
            have hne : ¬ E = g := fun e => HE.out.ne g rfl e.symm
            have hr1 : (midSt s (j + 1)).out.length + 1 ≤ oc1 := by omega
            have HX : Hid (Mid E w0 v0 (midSt s j) j (2 * (s.out.length + s.pending) + 2) ((((wr.setCell ⟨g, (midSt s (j + 1)).out.length, none⟩ (.int .u8 ((255 + s.low / 4294967296) % 256))).setCell ⟨E, 5, none⟩ (.slice (some ⟨g, 0, none⟩) ((midSt s (j + 1)).out.length + 1) oc1)).setCell ⟨E, 3, none⟩ (.int .i64 (j : Int))).alloc (.cells #[.int .u8 ((255 + s.low / 4294967296) % 256)] 5))) := by
              rw [Hid, midSt_step s j (by omega)]
              exact ⟨g, oc1, ((HE.out.push (by omega) _).setPending j).alloc _, by show ((midSt s (j + 1)).out ++ [_]).length + j ≤ oc1; rw [List.length_append]; show (midSt s (j + 1)).out.length + 1 + j ≤ oc1; omega, hcap⟩
            go_wp2_with fail
            go_roundg j
            case measure => omega
            case rel => exact ⟨by omega, HX⟩
/-- shiftLow, whatever the state. -/
theorem shift_any (E : Nat) (w0 : World) (v0 : Value) (s : EncSt) (oa : Option Addr) (oc : Nat) (w : World) (hE : Enc E w0 v0 s oa oc w) (h0 : 0 ≤ s.low) (h33 : s.low < 8589934592)
    (hp : s.pending ≤ 1048576) (ho : s.out.length ≤ 4194304) (hc : oc ≤ 2 * (s.out.length + s.pending) + 2) :
    Calls Try.prog 14 #[.pointer (some ⟨E, 0, none⟩)] w fun e w' => e = .returned (.tuple #[]) ∧ ∃ oa' oc', Enc E w0 v0 (shiftSt s) oa' oc' w' ∧ oc' ≤ 2 * ((shiftSt s).out.length + (shiftSt s).pending) + 2 := by
  rcases hs : settles s.low with _ | _
  · obtain ⟨h1, h2⟩ := settles_cases h0 hs
    refine (shift_pend E w0 v0 s oa oc w hE h1 h2 (by omega)).mono ?_
    rintro e w' ⟨rfl, h⟩
    exact ⟨rfl, oa, oc, h, by rw [shift_no hs]; show oc ≤ 2 * (s.out.length + (s.pending + 1)) + 2; omega⟩
  · exact shift_settle E w0 v0 s oa oc w hE h0 h33 hs hp ho hc
end Go.Proofs.Qxb6618439a
