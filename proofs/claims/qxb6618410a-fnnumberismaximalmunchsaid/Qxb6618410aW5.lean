import Derived.Test.Qxb6618410aW4
import Derived.BigRegion
namespace Go.Proofs.Qxb6618410a
open Go.RowKit

theorem NInv.start1 (w : World) (sv : Value) (p : Nat) : NInv w.heap.size (w.heap.size + 1) w sv p ((w.alloc (.cells #[sv] 22)).alloc (.cells #[.int .i64 p] 3)).drew where
  bel := (((Below.refl _ w).alloc (Nat.le_refl _) _).alloc (by simp) _).drew
  cd := by
    show ((w.alloc _).alloc _).cell? _ = _
    rw [World.cell?_alloc_past _ _ _ (by simp)]
    exact cell_of_one (heap_alloc_new w _)
  ci := by
    show ((w.alloc _).alloc _).cell? _ = _
    have h := heap_alloc_new (w.alloc (.cells #[sv] 22)) (.cells #[.int .i64 p] 3)
    rw [World.size_alloc] at h
    exact cell_of_one h
  fi := by
    show ((w.alloc _).alloc _).frozen? _ = _
    have h := heap_alloc_new (w.alloc (.cells #[sv] 22)) (.cells #[.int .i64 p] 3)
    rw [World.size_alloc] at h
    exact free_of_one h
  hd := Nat.le_refl _
  hi := by omega
  ne := by omega
theorem NInv.start2 (w : World) (sv : Value) (p : Nat) : NInv (w.heap.size + 1) w.heap.size w sv p ((w.alloc (.cells #[.int .i64 p] 3)).alloc (.cells #[sv] 22)).drew where
  bel := (((Below.refl _ w).alloc (Nat.le_refl _) _).alloc (by simp) _).drew
  cd := by
    show ((w.alloc _).alloc _).cell? _ = _
    have h := heap_alloc_new (w.alloc (.cells #[.int .i64 p] 3)) (.cells #[sv] 22)
    rw [World.size_alloc] at h
    exact cell_of_one h
  ci := by
    show ((w.alloc _).alloc _).cell? _ = _
    rw [World.cell?_alloc_past _ _ _ (by simp)]
    exact cell_of_one (heap_alloc_new w _)
  fi := by
    show ((w.alloc _).alloc _).frozen? _ = _
    have h : ((w.alloc (.cells #[.int .i64 p] 3)).alloc (.cells #[sv] 22)).heap[w.heap.size]? = some (.cells #[.int .i64 p] 3) := by
      rw [Below.heap_alloc _ _ _ (by simp)]; exact heap_alloc_new w _
    exact free_of_one h
  hd := by omega
  hi := Nat.le_refl _
  ne := by omega

theorem hide {p : Prop} (h : p) : Hid p := h
theorem unhide {p : Prop} (h : Hid p) : p := h
/-- Is the byte at place p this one? -/
def hdB (l : List Int) (p : Nat) (c : Int) : Bool := l[p]? == some c
theorem hdB_at {l : List Int} {p : Nat} {d : Int} (c : Int) (h : l[p]? = some d) : hdB l p c = (d == c) := by unfold hdB; rw [h]; rfl
theorem hdB_end {l : List Int} {p : Nat} (c : Int) (h : ¬ p < l.length) : hdB l p c = false := by
  unfold hdB; rw [List.getElem?_eq_none (by omega)]; rfl
theorem hdB_yes {l : List Int} {p : Nat} {c : Int} (h : hdB l p c = true) : l[p]? = some c ∧ p < l.length := by
  have e : l[p]? = some c := by simpa [hdB] using h
  exact ⟨e, (List.getElem?_eq_some_iff.1 e).1⟩
theorem hdB_no {l : List Int} {p : Nat} {c : Int} (h : hdB l p c = false) : l[p]? ≠ some c := by simpa [hdB] using h

theorem no_e {l : List Int} {p : Nat} (h : (hdB l p 101 || hdB l p 69) = false) : ∀ c, l[p]? = some c → isE c = false := fun c hc => by
  rw [hdB_at 101 hc, hdB_at 69 hc] at h; exact h
theorem is_e {l : List Int} {p : Nat} (h : (hdB l p 101 || hdB l p 69) = true) : ∃ c, l[p]? = some c ∧ isE c = true ∧ p < l.length := by
  rcases Bool.or_eq_true_iff.1 h with h | h
  · exact ⟨101, (hdB_yes h).1, rfl, (hdB_yes h).2⟩
  · exact ⟨69, (hdB_yes h).1, rfl, (hdB_yes h).2⟩
theorem no_sg {l : List Int} {p : Nat} (h : (hdB l p 43 || hdB l p 45) = false) : ∀ c, l[p]? = some c → isSg c = false := fun c hc => by
  rw [hdB_at 43 hc, hdB_at 45 hc] at h; exact h
theorem is_sg {l : List Int} {p : Nat} (h : (hdB l p 43 || hdB l p 45) = true) : ∃ c, l[p]? = some c ∧ isSg c = true ∧ p < l.length := by
  rcases Bool.or_eq_true_iff.1 h with h | h
  · exact ⟨43, (hdB_yes h).1, rfl, (hdB_yes h).2⟩
  · exact ⟨45, (hdB_yes h).1, rfl, (hdB_yes h).2⟩
/-- What the call leaves of the reader: its place. -/
def Left (R : Nat) (w : World) (at0 : Nat) (r : Option Nat) (w' : World) : Prop :=
  (∀ o, w'.cell? ⟨R, o, none⟩ = if o = 1 then some (.int .i64 (r.getD at0 : Nat)) else w.cell? ⟨R, o, none⟩) ∧ Below R w w'
theorem left_none {Bd Bi R : Nat} {w wx : World} {sv : Value} {p at0 : Nat} {r : Option Nat} (hN : NInv Bd Bi w sv p wx) (hR : R < w.heap.size) (c1 : w.cell? ⟨R, 1, none⟩ = some (.int .i64 at0)) (hr : r = none) : Left R w at0 r wx := by
  subst hr
  refine ⟨fun o => ?_, hN.bel.mono (Nat.le_of_lt hR)⟩
  rw [hN.bel.cell (p := ⟨R, o, none⟩) hR]
  split
  · rename_i h; subst h; exact c1
  · rfl
theorem left_some {Bd Bi R : Nat} {w wx : World} {sv : Value} {p at0 : Nat} {r : Option Nat} (hN : NInv Bd Bi w sv p wx) (hR : R < w.heap.size) (c1 : w.cell? ⟨R, 1, none⟩ = some (.int .i64 at0)) (hr : r = some p) : Left R w at0 r (wx.setCell ⟨R, 1, none⟩ (.int .i64 p)) := by
  subst hr
  have h1 : wx.cell? ⟨R, 1, none⟩ = some (.int .i64 at0) := (hN.bel.cell (p := ⟨R, 1, none⟩) hR).trans c1
  refine ⟨fun o => ?_, (hN.bel.mono (Nat.le_of_lt hR)).setCell (Nat.le_refl _) _⟩
  split
  · rename_i h; subst h; exact World.cell?_setCell_same _ _ _ h1
  · rename_i h
    rw [World.cell?_setCell_other _ _ _ _ (by intro e; exact h (congrArg Addr.off e).symm), hN.bel.cell (p := ⟨R, o, none⟩) hR]

set_option maxRecDepth 100000 in
set_option maxHeartbeats 1000000 in
theorem number_any (R : Nat) (w : World) (ao : Option Addr) (cap : Nat) (l : List Int) (at0 : Nat) (hat : at0 ≤ l.length) (hl : l.length ≤ 65536)
    (c0 : w.cell? ⟨R, 0, none⟩ = some (.slice ao l.length cap)) (c1 : w.cell? ⟨R, 1, none⟩ = some (.int .i64 at0)) (f1 : w.frozen? ⟨R, 1, none⟩ = false) (hr : Hid (Row w ao l)) (RES : Option Nat) (HR : Hid (resAt (out 0) l at0 = RES)) :
    Calls Try.prog 5 #[.pointer (some ⟨R, 0, none⟩)] w fun e w' => e = .returned (.bool RES.isSome) ∧ Left R w at0 RES w' := by
  have hR : R < w.heap.size := World.block_lt_of_cell? w ⟨R, 0, none⟩ c0
  go_enter Try.func5, Try.ntmps5
  go_upto_region 1 with fail
  go_cut [3, 4] (fun d i wx => ∃ Bd Bi, d = .pointer (some ⟨Bd, 0, none⟩) ∧ i = .pointer (some ⟨Bi, 0, none⟩) ∧ Hid (NInv Bd Bi w (.slice ao l.length cap) at0 wx))
  case first =>
    go_region
    · go_wp2_with fail
      go_meet
      case rel => exact ⟨_, _, rfl, rfl, NInv.start1 w _ _⟩
    · go_wp2_with fail
      go_meet
      case rel => exact ⟨_, _, rfl, rfl, NInv.start2 w _ _⟩
  case rest =>
    obtain ⟨Bd, Bi, rfl, rfl, hN⟩ := hcut
    have C0 : Hid (w.cell? ⟨R, 1, none⟩ = some (.int .i64 at0)) := c1
    have F1 : Hid (w.frozen? ⟨R, 1, none⟩ = false) := f1
    clear c0 c1 f1
    go_upto_region 3 with fail
    go_cut [25] (fun t wx => t = .bool (hdB l at0 45) ∧ wx = wc)
    case first =>
      have ci := hN.out.ci
      have cd := hN.out.cd
      by_cases hlt : at0 < l.length
      · obtain ⟨c, hx⟩ := head_of hlt
        obtain ⟨b, off, rfl⟩ := hr.out.addr (by omega)
        have hcell := (hr.out.later hN.out.bel).cell hx
        have HX : Hid (hdB l at0 45 = (c == 45)) := hdB_at 45 hx
        clear hx
        go_wp2_with fail
        go_meet
        case rel => exact ⟨by rw [HX.out], rfl⟩
      · have HX : Hid (hdB l at0 45 = false) := hdB_end 45 hlt
        go_wp2_with fail
        go_meet
        case rel => exact ⟨by rw [HX.out], rfl⟩
    case rest =>
      obtain ⟨rfl, rfl⟩ := hcut
      go_upto_if 25 with fail
      go_cut [26] (fun _ wx => ∃ p : Nat, Hid (NInv Bd Bi w (.slice ao l.length cap) p wx) ∧ Hid (resAt (out 1) l p = RES) ∧ p ≤ l.length)
      case first =>
        have ci := hN.out.ci
        have fi := hN.out.fi
        rcases hm : hdB l at0 45 with _ | _
        · go_wp2_with fail
          go_meet
          case rel => exact ⟨at0, hN, (r0_else (hdB_no hm)).symm.trans HR.out, hat⟩
        · have h2 := (hdB_yes hm).2
          have hs := hN.out.set (at0 + 1)
          have HS : Hid (NInv Bd Bi w (.slice ao l.length cap) (at0 + 1) (wc.setCell ⟨Bi, 0, none⟩ (.int .i64 ((at0 + 1 : Nat) : Int)))) := hs
          clear hs
          go_wp2_with fail
          go_meet
          case rel => exact ⟨at0 + 1, HS, (r0_minus (hdB_yes hm).1).symm.trans HR.out, h2⟩
      case rest =>
        clear hN HR
        obtain ⟨p, hN, HR, hp⟩ := hcut
        go_upto_block 0 with fail
        go_cut [28, 42] (fun _ _ wx => ∃ p : Nat, Hid (NInv Bd Bi w (.slice ao l.length cap) p wx) ∧ Hid (resAt o23 l p = RES) ∧ p ≤ l.length)
        case first =>
          have ci := hN.out.ci
          have cd := hN.out.cd
          have fi := hN.out.fi
          have HD := digits_any Bd Bi w ao cap l hr hl p (by omega) wc hN
          have hdl : dg (l.drop p) ≤ l.length - p := by have := dg_le (l.drop p); rw [List.length_drop] at this; exact this
          have HDL : Hid (dg (l.drop p) ≤ l.length - p) := hdl
          clear hdl
          rcases hm : hdB l p 48 with _ | _
          · have h48 := hdB_no hm
            have H48 : Hid (l[p]? ≠ some 48) := h48
            clear h48
            have HD' := hide HD
            clear HD
            by_cases hz : 0 < dg (l.drop p)
            · have HZ : Hid (0 < dg (l.drop p)) := hz
              have hzd : decide (0 < dg (l.drop p)) = true := decide_eq_true hz
              rw [hzd] at HD'
              clear hzd hz
              by_cases hlt : p < l.length
              · obtain ⟨c, hx⟩ := head_of hlt
                obtain ⟨b, off, rfl⟩ := hr.out.addr (by omega)
                have hcell := (hr.out.later hN.out.bel).cell hx
                have hc48 : (c == 48) = false := by rw [← hdB_at 48 hx]; exact hm
                clear hx hm
                go_wp2_with fail
                refine (unhide HD').mono ?_
                rintro e w' ⟨rfl, hN'⟩
                go_wp2_with fail
                go_meet
                case rel => exact ⟨_, hN', (r1_digs H48.out HZ.out).symm.trans HR.out, by have := HDL.out; omega⟩
              · exact absurd HZ.out (by rw [dg_end (by omega)]; omega)
            · have HZ : Hid (dg (l.drop p) = 0) := by rw [Hid]; omega
              have hzd : decide (0 < dg (l.drop p)) = false := decide_eq_false hz
              rw [hzd] at HD'
              clear hzd hz
              have HN0 : Hid (RES = none) := HR.out.symm.trans (r1_none H48.out HZ.out)
              by_cases hlt : p < l.length
              · obtain ⟨c, hx⟩ := head_of hlt
                obtain ⟨b, off, rfl⟩ := hr.out.addr (by omega)
                have hcell := (hr.out.later hN.out.bel).cell hx
                have hc48 : (c == 48) = false := by rw [← hdB_at 48 hx]; exact hm
                clear hx hm
                go_wp2_with fail
                refine (unhide HD').mono ?_
                rintro e w' ⟨rfl, hN'⟩
                go_wp2_with fail
                go_ret
                exact ⟨ret_bool (by rw [HN0.out]; rfl), left_none hN' hR C0.out HN0.out⟩
              · clear hm
                go_wp2_with fail
                refine (unhide HD').mono ?_
                rintro e w' ⟨rfl, hN'⟩
                go_wp2_with fail
                go_ret
                exact ⟨ret_bool (by rw [HN0.out]; rfl), left_none hN' hR C0.out HN0.out⟩
          · clear HD
            obtain ⟨hx, hlt⟩ := hdB_yes hm
            obtain ⟨b, off, rfl⟩ := hr.out.addr (by omega)
            have hcell := (hr.out.later hN.out.bel).cell hx
            have HX : Hid (l[p]? = some 48) := hx
            have HS : Hid (NInv Bd Bi w (.slice (some ⟨b, off, none⟩) l.length cap) (p + 1) (wc.setCell ⟨Bi, 0, none⟩ (.int .i64 ((p + 1 : Nat) : Int)))) := hN.out.set (p + 1)
            clear hx hm
            go_wp2_with fail
            go_meet
            case rel => exact ⟨p + 1, HS, (r1_zero HX.out).symm.trans HR.out, hlt⟩
        case rest =>
          clear hN HR hp
          obtain ⟨p, hN, HR, hp⟩ := hcut
          go_upto_region 9 with fail
          go_cut [56] (fun t wx => t = .bool (hdB l p 46) ∧ wx = wc)
          case first =>
            have ci := hN.out.ci
            have cd := hN.out.cd
            by_cases hlt : p < l.length
            · obtain ⟨c, hx⟩ := head_of hlt
              obtain ⟨b, off, rfl⟩ := hr.out.addr (by omega)
              have hcell := (hr.out.later hN.out.bel).cell hx
              have HX : Hid (hdB l p 46 = (c == 46)) := hdB_at 46 hx
              clear hx
              go_wp2_with fail
              go_meet
              case rel => exact ⟨by rw [HX.out], rfl⟩
            · have HX : Hid (hdB l p 46 = false) := hdB_end 46 hlt
              go_wp2_with fail
              go_meet
              case rel => exact ⟨by rw [HX.out], rfl⟩
          case rest =>
            obtain ⟨rfl, rfl⟩ := hcut
            go_upto_if 56 with fail
            go_cut [61] (fun _ wx => ∃ p : Nat, Hid (NInv Bd Bi w (.slice ao l.length cap) p wx) ∧ Hid (resAt o5 l p = RES) ∧ p ≤ l.length)
            case first =>
              have ci := hN.out.ci
              have fi := hN.out.fi
              rcases hm : hdB l p 46 with _ | _
              · have H46 : Hid (l[p]? ≠ some 46) := hdB_no hm
                go_wp2_with fail
                go_meet
                case rel => exact ⟨p, hN, (r23_else H46.out).symm.trans HR.out, hp⟩
              · have H46 : Hid (l[p]? = some 46) := (hdB_yes hm).1
                have hlt := (hdB_yes hm).2
                have HS : Hid (NInv Bd Bi w (.slice ao l.length cap) (p + 1) (wc.setCell ⟨Bi, 0, none⟩ (.int .i64 ((p + 1 : Nat) : Int)))) := hN.out.set (p + 1)
                have HD := hide (digits_any Bd Bi w ao cap l hr hl (p + 1) (by omega) _ HS)
                have HDL : Hid (dg (l.drop (p + 1)) ≤ l.length - (p + 1)) := by have := dg_le (l.drop (p + 1)); rw [List.length_drop] at this; exact this
                clear HS hN
                by_cases hz : 0 < dg (l.drop (p + 1))
                · have HZ : Hid (0 < dg (l.drop (p + 1))) := hz
                  rw [decide_eq_true hz] at HD
                  clear hz
                  go_wp2_with fail
                  refine (unhide HD).mono ?_
                  rintro e w' ⟨rfl, hN'⟩
                  go_wp2_with fail
                  go_meet
                  case rel => exact ⟨_, hN', (r4_digs HZ.out).symm.trans ((r23_dot H46.out).symm.trans HR.out), by have := HDL.out; omega⟩
                · have HZ : Hid (dg (l.drop (p + 1)) = 0) := by rw [Hid]; omega
                  rw [decide_eq_false hz] at HD
                  clear hz
                  have HN0 : Hid (RES = none) := (HR.out.symm.trans (r23_dot H46.out)).trans (r4_none HZ.out)
                  go_wp2_with fail
                  refine (unhide HD).mono ?_
                  rintro e w' ⟨rfl, hN'⟩
                  go_wp2_with fail
                  go_ret
                  exact ⟨ret_bool (by rw [HN0.out]; rfl), left_none hN' hR C0.out HN0.out⟩
            case rest =>
              clear hN HR hp
              obtain ⟨p, hN, HR, hp⟩ := hcut
              go_upto_region 13 with fail
              go_cut [79] (fun t wx => t = .bool (hdB l p 101 || hdB l p 69) ∧ wx = wc)
              case first =>
                have ci := hN.out.ci
                have cd := hN.out.cd
                by_cases hlt : p < l.length
                · obtain ⟨c, hx⟩ := head_of hlt
                  obtain ⟨b, off, rfl⟩ := hr.out.addr (by omega)
                  have hcell := (hr.out.later hN.out.bel).cell hx
                  have HX : Hid ((hdB l p 101 || hdB l p 69) = ((c == 101) || (c == 69))) := by rw [Hid, hdB_at 101 hx, hdB_at 69 hx]
                  clear hx
                  rcases h1 : (c == 101) with _ | _
                  · go_wp2_with fail
                    go_meet
                    case rel => exact ⟨by rw [HX.out, h1]; rfl, rfl⟩
                  · go_wp2_with fail
                    go_meet
                    case rel => exact ⟨by rw [HX.out, h1]; rfl, rfl⟩
                · have HX : Hid ((hdB l p 101 || hdB l p 69) = false) := by rw [Hid, hdB_end 101 hlt, hdB_end 69 hlt]; rfl
                  go_wp2_with fail
                  go_meet
                  case rel => exact ⟨by rw [HX.out], rfl⟩
              case rest =>
                obtain ⟨rfl, rfl⟩ := hcut
                go_upto_if 79 with fail
                go_cut [104] (fun _ wx => ∃ p : Nat, Hid (NInv Bd Bi w (.slice ao l.length cap) p wx) ∧ Hid (RES = some p) ∧ p ≤ l.length)
                case first =>
                  have ci := hN.out.ci
                  have fi := hN.out.fi
                  rcases hm : (hdB l p 101 || hdB l p 69) with _ | _
                  · have HE : Hid (∀ c, l[p]? = some c → isE c = false) := no_e hm
                    go_wp2_with fail
                    go_meet
                    case rel => exact ⟨p, hN, HR.out.symm.trans (r5_else HE.out), hp⟩
                  · obtain ⟨c, hx, he, hlt⟩ := is_e hm
                    have HR6 : Hid (resAt (out 6) l (p + 1) = RES) := (r5_e hx he).symm.trans HR.out
                    have HS : Hid (NInv Bd Bi w (.slice ao l.length cap) (p + 1) (wc.setCell ⟨Bi, 0, none⟩ (.int .i64 ((p + 1 : Nat) : Int)))) := hN.out.set (p + 1)
                    rw [show ((p + 1 : Nat) : Int) = (p : Int) + 1 from by omega] at HS
                    clear hx he HR
                    go_upto_region 15 with fail
                    go_cut [99] (fun t wx => t = .bool (hdB l (p + 1) 43 || hdB l (p + 1) 45) ∧ Hid (NInv Bd Bi w (.slice ao l.length cap) (p + 1) wx))
                    case first =>
                      have ci2 := HS.out.ci
                      have cd2 := HS.out.cd
                      by_cases hlt2 : p + 1 < l.length
                      · obtain ⟨c2, hx⟩ := head_of hlt2
                        obtain ⟨b, off, rfl⟩ := hr.out.addr (by omega)
                        have hcell := (hr.out.later HS.out.bel).cell hx
                        have HX : Hid ((hdB l (p + 1) 43 || hdB l (p + 1) 45) = ((c2 == 43) || (c2 == 45))) := by rw [Hid, hdB_at 43 hx, hdB_at 45 hx]
                        clear hx
                        rcases h1 : (c2 == 43) with _ | _
                        · go_wp2_with fail
                          go_meet
                          case rel => exact ⟨by rw [HX.out, h1]; rfl, HS⟩
                        · go_wp2_with fail
                          go_meet
                          case rel => exact ⟨by rw [HX.out, h1]; rfl, HS⟩
                      · have HX : Hid ((hdB l (p + 1) 43 || hdB l (p + 1) 45) = false) := by rw [Hid, hdB_end 43 hlt2, hdB_end 45 hlt2]; rfl
                        go_wp2_with fail
                        go_meet
                        case rel => exact ⟨by rw [HX.out], HS⟩
                    case rest =>
                      clear HS hN ci fi
                      obtain ⟨rfl, hN⟩ := hcut
                      go_upto_if 99 with fail
                      go_cut [100] (fun _ wx => ∃ p : Nat, Hid (NInv Bd Bi w (.slice ao l.length cap) p wx) ∧ Hid (resAt (out 7) l p = RES) ∧ p ≤ l.length)
                      case first =>
                        have ci := hN.out.ci
                        have fi := hN.out.fi
                        rcases hm2 : (hdB l (p + 1) 43 || hdB l (p + 1) 45) with _ | _
                        · have HE : Hid (∀ c, l[p + 1]? = some c → isSg c = false) := no_sg hm2
                          go_wp2_with fail
                          go_meet
                          case rel => exact ⟨p + 1, hN, (r6_else HE.out).symm.trans HR6.out, by omega⟩
                        · obtain ⟨c2, hx, he, hlt2⟩ := is_sg hm2
                          have HS : Hid (NInv Bd Bi w (.slice ao l.length cap) (p + 1 + 1) (wc.setCell ⟨Bi, 0, none⟩ (.int .i64 ((p + 1 + 1 : Nat) : Int)))) := hN.out.set (p + 1 + 1)
                          have HR7 : Hid (resAt (out 7) l (p + 1 + 1) = RES) := (r6_sign hx he).symm.trans HR6.out
                          clear hx he
                          go_wp2_with fail
                          go_meet
                          case rel => exact ⟨p + 1 + 1, HS, HR7, by omega⟩
                      case rest =>
                        clear hN HR6 hm hlt hp
                        obtain ⟨q, hN, HR, hp⟩ := hcut
                        have HD := hide (digits_any Bd Bi w ao cap l hr hl q (by omega) _ hN)
                        have HDL : Hid (dg (l.drop q) ≤ l.length - q) := by have := dg_le (l.drop q); rw [List.length_drop] at this; exact this
                        by_cases hz : 0 < dg (l.drop q)
                        · have HZ : Hid (0 < dg (l.drop q)) := hz
                          rw [decide_eq_true hz] at HD
                          clear hz
                          go_wp2_with fail
                          refine (unhide HD).mono ?_
                          rintro e w' ⟨rfl, hN'⟩
                          go_wp2_with fail
                          go_meet
                          case rel => exact ⟨_, hN', HR.out.symm.trans (r7_digs HZ.out), by have := HDL.out; omega⟩
                        · have HZ : Hid (dg (l.drop q) = 0) := by rw [Hid]; omega
                          rw [decide_eq_false hz] at HD
                          clear hz
                          have HN0 : Hid (RES = none) := HR.out.symm.trans (r7_none HZ.out)
                          go_wp2_with fail
                          refine (unhide HD).mono ?_
                          rintro e w' ⟨rfl, hN'⟩
                          go_wp2_with fail
                          go_ret
                          exact ⟨ret_bool (by rw [HN0.out]; rfl), left_none hN' hR C0.out HN0.out⟩
                case rest =>
                  clear hN HR hp
                  obtain ⟨p, hN, HR, hp⟩ := hcut
                  have ci := hN.out.ci
                  have hcR : wc.cell? ⟨R, 1, none⟩ = some (.int .i64 at0) := (hN.out.bel.cell (p := ⟨R, 1, none⟩) hR).trans C0.out
                  have hfR : wc.frozen? ⟨R, 1, none⟩ = false := (hN.out.bel.frozen (p := ⟨R, 1, none⟩) hR).trans F1.out
                  go_wp2_with fail
                  go_ret
                  exact ⟨ret_bool (by rw [HR.out]; rfl), left_some hN.out hR C0.out HR.out⟩
end Go.Proofs.Qxb6618410a
