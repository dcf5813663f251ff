import Derived.Test.Qxb6618410aW6
namespace Go.Proofs.Qxb6618410a
open Go.RowKit

theorem prefix_at (n : Nat) (ao : Option Addr) (cap : Nat) (l : List Int) (w : World) (hn : n = l.length) (hr : Hid (Row w ao l)) (hl : n ≤ 65536) (hc : n ≤ cap) (B : Bool) (hB : alive 0 l = B) :
    Calls Try.prog 6 #[.slice ao n cap] w fun e w' => e = .returned (.bool B) ∧ Below w.heap.size w w' := by
  subst hn; subst hB; exact prefix_any ao cap l w hr hl hc

set_option maxRecDepth 100000 in
set_option maxHeartbeats 400000 in
theorem law_long (ao : Option Addr) (n cap : Nat) (a1 a2 : Int) (w : World) (h : 4096 < n) (hm : n ≤ maxLen) :
    Calls Try.prog 3 #[.slice ao n cap, .int .i64 a1, .int .i64 a2] w fun e w' => e = .returned (.bool true) ∧ Below w.heap.size w w' := by
  unfold maxLen at hm
  go_enter Try.func3, Try.ntmps3
  go_wp2
  all_goals (go_ret; exact ⟨rfl, Below.refl _ _⟩)
set_option maxRecDepth 100000 in
set_option maxHeartbeats 400000 in
theorem law_neg (ao : Option Addr) (n cap : Nat) (a1 a2 : Int) (w : World) (h : n ≤ 4096) (hneg : a1 < 0) :
    Calls Try.prog 3 #[.slice ao n cap, .int .i64 a1, .int .i64 a2] w fun e w' => e = .returned (.bool true) ∧ Below w.heap.size w w' := by
  go_enter Try.func3, Try.ntmps3
  go_wp2
  all_goals (go_ret; exact ⟨rfl, Below.refl _ _⟩)

/-- The world in which Number is called: the reader's block. -/
theorem reader_cells (w : World) (s a m : Value) : (w.alloc (.cells #[s, a, m, .int .i64 0] 26)).cell? ⟨w.heap.size, 0, none⟩ = some s ∧ (w.alloc (.cells #[s, a, m, .int .i64 0] 26)).cell? ⟨w.heap.size, 1, none⟩ = some a ∧
    (w.alloc (.cells #[s, a, m, .int .i64 0] 26)).cell? ⟨w.heap.size, 2, none⟩ = some m ∧ (w.alloc (.cells #[s, a, m, .int .i64 0] 26)).frozen? ⟨w.heap.size, 1, none⟩ = false := by
  have h := heap_alloc_new w (.cells #[s, a, m, .int .i64 0] 26)
  exact ⟨by rw [cell_of_row _ _ _ _ _ _ h]; rfl, by rw [cell_of_row _ _ _ _ _ _ h]; rfl, by rw [cell_of_row _ _ _ _ _ _ h]; rfl, frozen_of_row _ _ _ _ _ h⟩

set_option maxRecDepth 100000 in
set_option maxHeartbeats 400000 in
theorem law_beyond (ao : Option Addr) (cap : Nat) (l : List Int) (at0 : Nat) (a2 : Int) (w : World) (hl : l.length ≤ 4096) (hat : l.length < at0) (hm : at0 ≤ 9223372036854775807) (hr : Hid (Row w ao l)) :
    Calls Try.prog 3 #[.slice ao l.length cap, .int .i64 at0, .int .i64 a2] w fun e w' => e = .returned (.bool true) ∧ Below w.heap.size w w' := by
  obtain ⟨r0, r1, r2, r3⟩ := reader_cells w (.slice ao l.length cap) (.int .i64 at0) (.int .i64 a2)
  clear r3
  have hb0 : Below w.heap.size w (w.alloc (.cells #[.slice ao l.length cap, .int .i64 at0, .int .i64 a2, .int .i64 0] 26)) := (Below.refl _ w).alloc (Nat.le_refl _) _
  have HN := hide (number_beyond w.heap.size _ ao cap l at0 (by omega) hm (by omega) r0 r1 (hr.out.later hb0))
  have HB := hide hb0
  have R2 := hide r2
  have R0 := hide r0
  clear r0 r1 r2 hb0
  go_enter Try.func3, Try.ntmps3
  go_wp2_with (go_at_call 4; go_in)
  refine (unhide HN).mono ?_
  rintro e w1 ⟨rfl, hL⟩
  have h0 := hL.1 0
  have h1 := hL.1 1
  have h2 := hL.1 2
  rw [if_neg (by omega), R0.out] at h0
  rw [if_pos rfl] at h1
  rw [if_neg (by omega), R2.out] at h2
  simp only [Option.getD_none] at h1
  have HL := hide hL
  clear hL
  go_wp2_with fail
  go_ret
  exact ⟨rfl, HB.out.trans HL.out.2⟩
set_option maxRecDepth 100000 in
set_option maxHeartbeats 1000000 in
theorem law_main (ao : Option Addr) (cap : Nat) (l : List Int) (at0 : Nat) (a2 : Int) (w : World) (hl : l.length ≤ 4096) (hcap : l.length ≤ cap) (hat : at0 ≤ l.length) (hr : Hid (Row w ao l)) :
    Calls Try.prog 3 #[.slice ao l.length cap, .int .i64 at0, .int .i64 a2] w fun e w' => e = .returned (.bool true) ∧ Below w.heap.size w w' := by
  obtain ⟨r0, r1, r2, r3⟩ := reader_cells w (.slice ao l.length cap) (.int .i64 at0) (.int .i64 a2)
  have hb0 : Below w.heap.size w (w.alloc (.cells #[.slice ao l.length cap, .int .i64 at0, .int .i64 a2, .int .i64 0] 26)) := (Below.refl _ w).alloc (Nat.le_refl _) _
  obtain ⟨RES, HRES⟩ : ∃ r, Hid (resAt (out 0) l at0 = r) := ⟨_, rfl⟩
  have HN := hide (number_any w.heap.size _ ao cap l at0 hat (by omega) r0 r1 r3 (hr.out.later hb0) RES HRES)
  have HB := hide hb0
  have R2 := hide r2
  have R0 := hide r0
  clear r0 r1 r2 r3 hb0
  go_enter Try.func3, Try.ntmps3
  go_wp2_with (go_at_call 4; go_in)
  refine (unhide HN).mono ?_
  rintro e w1 ⟨rfl, hL⟩
  have h0 := hL.1 0
  have h1 := hL.1 1
  have h2 := hL.1 2
  rw [if_neg (by omega), R0.out] at h0
  rw [if_pos rfl] at h1
  rw [if_neg (by omega), R2.out] at h2
  have HB1 : Hid (Below w.heap.size w w1) := HB.out.trans hL.2
  have H1 := hide h1
  clear hL HN HB R0 R2 h1
  go_upto_region 12 with fail
  clear h0 h2
  go_cut [10] (fun x wx => ∃ ar cr, x = .slice ar (l.drop at0).length cr ∧ Hid (Row w ar (l.drop at0)) ∧ (l.drop at0).length ≤ cr ∧ w1 = wx)
  case first =>
    by_cases hl0 : 0 < l.length
    · obtain ⟨b, off, rfl⟩ := hr.out.addr hl0
      by_cases hca : cap = at0
      · subst hca
        go_wp2_with fail
        go_meet
        case rel =>
          rw [List.length_drop, List.drop_of_length_le (by omega), show l.length - cap = 0 from by omega]
          exact ⟨_, _, rfl, Row.nil _ _, Nat.zero_le _, rfl⟩
      · go_wp2_with fail
        go_meet
        case rel =>
          rw [List.length_drop]
          exact ⟨_, _, rfl, hr.out.drop at0, by omega, rfl⟩
    · obtain rfl : at0 = 0 := by omega
      rcases ao with _ | ⟨b, off, sp⟩
      · go_wp2_with fail
        all_goals
          go_meet
          case rel =>
            rw [List.length_drop, List.drop_of_length_le (by omega), show l.length - 0 = 0 from by omega]
            first
              | exact ⟨_, _, rfl, Row.nil _ _, Nat.zero_le _, rfl⟩
              | (have e0 : l.length = 0 := by omega
                 simp only [e0]
                 exact ⟨_, _, rfl, Row.nil _ _, Nat.zero_le _, trivial⟩)
      · go_wp2_with fail
        all_goals
          go_meet
          case rel =>
            rw [List.length_drop, List.drop_of_length_le (by omega), show l.length - 0 = 0 from by omega]
            first
              | exact ⟨_, _, rfl, Row.nil _ _, Nat.zero_le _, rfl⟩
              | (have e0 : l.length = 0 := by omega
                 simp only [e0]
                 exact ⟨_, _, rfl, Row.nil _ _, Nat.zero_le _, trivial⟩)
  case rest =>
    obtain ⟨ar, cr, rfl, hrr, hcr, rfl⟩ := hcut
    have HRES2 : Hid (RES = (out 0 (l.drop at0)).map (· + at0)) := HRES.out.symm
    have hlr : (l.drop at0).length ≤ 4096 := by rw [List.length_drop]; omega
    clear HRES
    generalize l.drop at0 = r at *
    go_upto_block 0 with fail
    go_cut [11] (fun x wx => ∃ m : Nat, x = .int .i64 m ∧ m ≤ r.length ∧ Hid (alive 0 (r.take m) = true) ∧ Hid (m = r.length ∨ alive 0 (r.take (m + 1)) = false) ∧ Hid (Below w1.heap.size w1 wx))
    case first =>
      go_wp2_with fail
      go_loopw [11] (fun x wr => ∃ m : Nat, x = .int .i64 m ∧ m ≤ r.length ∧ Hid (alive 0 (r.take m) = true) ∧ Hid (Below w1.heap.size w1 wr)) (fun x _ => r.length - (intOf x).toNat)
      case atStart => exact ⟨0, rfl, Nat.zero_le _, rfl, Below.refl _ _⟩
      case round =>
        obtain ⟨m, rfl, hmr, hal, hbw⟩ := hrel
        by_cases hlt : m < r.length
        · obtain ⟨b, off, rfl⟩ := hrr.out.addr (by omega)
          have hbw2 : Below w.heap.size w wr := HB1.out.trans (hbw.out.mono HB1.out.size)
          have hrow : Hid (Row wr (some ⟨b, off, none⟩) (r.take (m + 1))) := (hrr.out.later hbw2).take (m + 1)
          have HLEN : Hid (m + 1 = (r.take (m + 1)).length) := by rw [Hid, List.length_take]; omega
          have HPA := fun B hB => hide (prefix_at (m + 1) (some ⟨b, off, none⟩) cr (r.take (m + 1)) wr HLEN.out hrow (by omega) (by omega) B hB)
          clear hbw2
          rcases hA : alive 0 (r.take (m + 1)) with _ | _
          · have HP := HPA false hA
            have HA := hide hA
            clear HPA hA
            go_wp2_with fail
            refine (unhide HP).mono ?_
            rintro e w2 ⟨rfl, hb2⟩
            go_wp2_with fail
            go_meet
            case rel => exact ⟨m, rfl, hmr, hal, .inr HA.out, hbw.out.trans (hb2.mono hbw.out.size)⟩
          · have HP := HPA true hA
            have HA := hide hA
            clear HPA hA
            go_wp2_with fail
            refine (unhide HP).mono ?_
            rintro e w2 ⟨rfl, hb2⟩
            go_wp2_with fail
            go_roundw
            case rel => exact ⟨m + 1, by go_num, by omega, HA, hbw.out.trans (hb2.mono hbw.out.size)⟩
            case measure => simp [intOf]; omega
        · go_wp2_with fail
          go_meet
          case rel => exact ⟨m, rfl, hmr, hal, .inl (by omega), hbw⟩
    case rest =>
      obtain ⟨m, rfl, hmr, hal, hend, hbw⟩ := hcut
      have HO : Hid (RES = (if ok 0 (r.take m) = true then some m else none).map (· + at0)) := by rw [Hid, HRES2.out, out_munch r 0 m hmr hal.out hend.out]
      clear HRES2 hal hend
      have hR : w.heap.size < w1.heap.size := World.block_lt_of_cell? w1 _ H1.out
      have hcell : wc.cell? ⟨w.heap.size, 1, none⟩ = some (.int .i64 ((RES.getD at0 : Nat) : Int)) := (hbw.out.cell (p := ⟨w.heap.size, 1, none⟩) hR).trans H1.out
      have HB2 : Hid (Below w.heap.size w wc) := HB1.out.trans (hbw.out.mono HB1.out.size)
      have hrow : Hid (Row wc ar (r.take m)) := (hrr.out.later HB2.out).take m
      have HLEN : Hid (m = (r.take m).length) := by rw [Hid, List.length_take]; omega
      clear H1 HB1 hbw hR
      go_upto_region 16 with fail
      go_cut [81] (fun x wx => x = .bool (ok 0 (r.take m)) ∧ wc = wx)
      case first =>
        by_cases hr0 : 0 < r.length
        · obtain ⟨b, off, rfl⟩ := hrr.out.addr hr0
          go_wp2_with fail
          refine (isNum_at _ _ _ (r.take m) _ HLEN.out hrow (by omega) (by omega)).mono ?_
          rintro e w2 ⟨rfl, rfl⟩
          go_wp2_with fail
          go_meet
          case rel => exact ⟨rfl, rfl⟩
        · obtain rfl : m = 0 := by omega
          rcases ar with _ | ⟨b, off, sp⟩
          · go_wp2_with fail
            all_goals
              refine (isNum_at 0 _ _ (r.take 0) _ rfl (Row.nil _ _) (by omega) (Nat.zero_le _)).mono ?_
              rintro e w2 ⟨rfl, rfl⟩
              go_wp2_with fail
              go_meet
              case rel => exact ⟨rfl, rfl⟩
          · go_wp2_with fail
            all_goals
              refine (isNum_at 0 _ _ (r.take 0) _ rfl (Row.nil _ _) (by omega) (Nat.zero_le _)).mono ?_
              rintro e w2 ⟨rfl, rfl⟩
              go_wp2_with fail
              go_meet
              case rel => exact ⟨rfl, rfl⟩
      case rest =>
        obtain ⟨rfl, rfl⟩ := hcut
        rcases hk : ok 0 (r.take m) with _ | _
        · obtain rfl : RES = none := by rw [HO.out, hk]; rfl
          simp only [Option.getD_none] at hcell
          go_wp2_with fail
          go_ret
          exact ⟨rfl, HB2.out⟩
        · obtain rfl : RES = some (m + at0) := by rw [HO.out, hk]; rfl
          simp only [Option.getD_some] at hcell
          rw [show ((m + at0 : Nat) : Int) = (at0 : Int) + (m : Int) from by omega] at hcell
          go_wp2_with fail
          go_ret
          exact ⟨rfl, HB2.out⟩
end Go.Proofs.Qxb6618410a
