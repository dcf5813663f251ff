import Derived.Test.Qxb6618449aW5
namespace Go.Proofs.Qxb6618449a
open Go.RowKit

/-- The three rows that came back. -/
structure Got (w : World) (p b l : Nat) (P : List Int) (B L : List Bool) (k off len : Nat) : Prop where
  p : At w p 2 (((P.drop off).take len).map (Value.int .i64))
  b : At w b 4 ((((B.set k false).drop off).take len).map Value.bool)
  l : At w l 4 ((((L.set k false).drop off).take len).map Value.bool)
theorem at_of {α : Type} (X : List α) (g : α → Value) {off len j i : Nat} {v : α} (hj : j < len) (hi : i = off + j) (hv : X[i]? = some v) : (((X.drop off).take len).map g)[j]? = some (g v) := by
  rw [List.getElem?_map, List.getElem?_take, if_pos hj, List.getElem?_drop, ← hi, hv]; rfl
theorem Got.cp {w : World} {p b l : Nat} {P : List Int} {B L : List Bool} {k off len : Nat} (h : Got w p b l P B L k off len) {j i : Nat} {v : Int} (hj : j < len) (hi : i = off + j) (hv : P[i]? = some v) : w.cell? ⟨p, j, none⟩ = some (.int .i64 v) := h.p.cell (at_of P _ hj hi hv)
theorem Got.cb {w : World} {p b l : Nat} {P : List Int} {B L : List Bool} {k off len : Nat} (h : Got w p b l P B L k off len) {j i : Nat} {v : Bool} (hj : j < len) (hi : i = off + j) (hv : (B.set k false)[i]? = some v) : w.cell? ⟨b, j, none⟩ = some (.bool v) := h.b.cell (at_of _ _ hj hi hv)
theorem Got.cl {w : World} {p b l : Nat} {P : List Int} {B L : List Bool} {k off len : Nat} (h : Got w p b l P B L k off len) {j i : Nat} {v : Bool} (hj : j < len) (hi : i = off + j) (hv : (L.set k false)[i]? = some v) : w.cell? ⟨l, j, none⟩ = some (.bool v) := h.l.cell (at_of _ _ hj hi hv)

set_option maxRecDepth 100000 in
set_option maxHeartbeats 4000000 in
theorem law_walk (a0 a1 a2 : Option Addr) (n0 n1 n2 c0 c1 c2 : Nat) (head base slot : Int) (P : List Int) (B L : List Bool) (w : World) (hP : Hid (Lies w a0 n0 (P.map (Value.int .i64)))) (hB : Hid (Lies w a1 n1 (B.map Value.bool))) (hL : Hid (Lies w a2 n2 (L.map Value.bool))) (h0 : n0 ≤ 65536) (h1 : n1 ≤ 65536) (h2 : n2 ≤ 65536) :
    Calls Try.prog 3 #[.slice a0 n0 c0, .slice a1 n1 c1, .slice a2 n2 c2, .int .i64 head, .int .i64 base, .int .i64 slot] w fun e w' => e = .returned (.bool true) ∧ Below w.heap.size w w' := by
  go_enter Try.func3, Try.ntmps3
  have HZ := hide (zzBytes_in a0 a1 a2 n0 n1 n2 c0 c1 c2 head base slot w h0 h1 h2)
  go_wp2_with fail
  refine (unhide HZ).mono ?_
  rintro e w' ⟨rfl, rfl⟩
  clear HZ
  have hq := fun wx => run_neq_slice_nil (P := Try.prog) wx 22 2 a0 n0 c0 Try.underlying22
  go_upto_if 54 with fail
  go_cut [0, 13] (fun x _ wx => Copied w' 2 n0 (P.map (Value.int .i64)) x wx)
  case first => as_aux_lemma =>
    clear hq
    rcases a0 with _ | x0
    · go_wp2_with fail
      go_meet
      case rel =>
        refine ⟨none, c0, rfl, fun h => ?_, Below.refl _ _⟩
        have hl := hP.out.1
        obtain ⟨b, o, h3, _⟩ := hP.out.2 0 _ (List.getElem?_eq_getElem (by omega))
        cases h3
    · have hci := copy_in w' 22 2 (.int .i64 0) (P.map (Value.int .i64)) n0 x0 c0 Try.underlying22 size2 hP.out (ints_oneCell _ _)
      have hcp := hci.1
      have HA := hide hci.2
      have hmk := make2 n0 h0
      clear hci
      go_wp2_with fail
      go_meet
      case rel => exact ⟨_, _, rfl, fun _ => ⟨_, rfl, rfl, HA.out.1⟩, HA.out.2⟩
  case rest =>
    have HLP : Hid (P.length = n0) := by have h := hP.out.1; rwa [List.length_map] at h
    clear hq hP
    obtain ⟨w1, hw1⟩ : ∃ x, x = wc := ⟨_, rfl⟩
    subst hw1
    obtain ⟨x0, d0, rfl, hA0, hW0⟩ := hcut
    have HA0 := hide hA0
    have HW0 := hide hW0
    have hB1 := hide (hB.out.kept hW0)
    have hL1 := hide (hL.out.kept hW0)
    clear hA0 hW0 hB hL
    have hq := fun wx => run_neq_slice_nil (P := Try.prog) wx 23 4 a1 n1 c1 Try.underlying23
    go_upto_if 63 with fail
    go_cut [1, 14] (fun x _ wx => Copied w1 4 n1 (B.map Value.bool) x wx)
    case first => as_aux_lemma =>
      clear hq
      rcases a1 with _ | x0
      · go_wp2_with fail
        go_meet
        case rel =>
          refine ⟨none, c1, rfl, fun h => ?_, Below.refl _ _⟩
          have hl := hB1.out.1
          obtain ⟨b, o, h3, _⟩ := hB1.out.2 0 _ (List.getElem?_eq_getElem (by omega))
          cases h3
      · have hci := copy_in w1 23 4 (.bool false) (B.map Value.bool) n1 x0 c1 Try.underlying23 size4 hB1.out (bools_one B)
        have hcp := hci.1
        have HA := hide hci.2
        have hmk := make4 n1 h1
        clear hci
        go_wp2_with fail
        go_meet
        case rel => exact ⟨_, _, rfl, fun _ => ⟨_, rfl, rfl, HA.out.1⟩, HA.out.2⟩
    case rest =>
      have HLB : Hid (B.length = n1) := by have h := hB1.out.1; rwa [List.length_map] at h
      clear hq hB1
      obtain ⟨w2, hw2⟩ : ∃ x, x = wc := ⟨_, rfl⟩
      subst hw2
      obtain ⟨x1, d1, rfl, hA1, hW1⟩ := hcut
      have HA1 := hide hA1
      have HW1 := hide hW1
      have hL2 := hide (hL1.out.kept hW1)
      clear hA1 hW1 hL1
      have hq := fun wx => run_neq_slice_nil (P := Try.prog) wx 23 4 a2 n2 c2 Try.underlying23
      go_upto_if 72 with fail
      go_cut [2, 15] (fun x _ wx => Copied w2 4 n2 (L.map Value.bool) x wx)
      case first => as_aux_lemma =>
        clear hq
        rcases a2 with _ | x0
        · go_wp2_with fail
          go_meet
          case rel =>
            refine ⟨none, c2, rfl, fun h => ?_, Below.refl _ _⟩
            have hl := hL2.out.1
            obtain ⟨b, o, h3, _⟩ := hL2.out.2 0 _ (List.getElem?_eq_getElem (by omega))
            cases h3
        · have hci := copy_in w2 23 4 (.bool false) (L.map Value.bool) n2 x0 c2 Try.underlying23 size4 hL2.out (bools_one L)
          have hcp := hci.1
          have HA := hide hci.2
          have hmk := make4 n2 h2
          clear hci
          go_wp2_with fail
          go_meet
          case rel => exact ⟨_, _, rfl, fun _ => ⟨_, rfl, rfl, HA.out.1⟩, HA.out.2⟩
      case rest =>
        have HLL : Hid (L.length = n2) := by have h := hL2.out.1; rwa [List.length_map] at h
        clear hq hL2
        obtain ⟨w3, hw3⟩ : ∃ x, x = wc := ⟨_, rfl⟩
        subst hw3
        obtain ⟨x2, d2, rfl, hA2, hW2⟩ := hcut
        have HA2 := hide hA2
        have HW2 := hide hW2
        clear hA2 hW2
        by_cases hn : n1 = n0 ∧ n2 = n0
        · obtain ⟨rfl, rfl⟩ := hn
          have HW : Hid (Below w'.heap.size w' w3) := HW0.out.trans ((HW1.out.trans (HW2.out.mono HW1.out.size)).mono HW0.out.size)
          by_cases hhd : 0 ≤ head ∧ head ≤ n2
          · obtain ⟨hd, rfl⟩ := Int.eq_ofNat_of_zero_le hhd.1
            have hhn : hd ≤ n2 := by omega
            clear hhd
            by_cases hz : n2 = 0
            · as_aux_lemma =>
                have hz2 : n2 ≤ 0 := by omega
                clear hz HA0 HA1 HA2 HW0 HW1 HW2 HLP HLB HLL
                go_upto_block 0 with fail
                go_cut [17] (fun _ wx => wx = w3)
                case first => as_aux_lemma =>
                  go_wp2_with fail
                  go_loopg [17] 0 (fun _ x wr => x = .int .i64 0 ∧ wr = w3)
                  case atStart => exact ⟨rfl, rfl⟩
                  case round =>
                    obtain ⟨rfl, rfl⟩ := hrel
                    go_wp2_with fail
                    go_meet
                    case rel => rfl
                case rest =>
                  obtain ⟨w4, hw4⟩ : ∃ x, x = wc := ⟨_, rfl⟩
                  subst hw4
                  subst hcut
                  go_upto_region 32 with fail
                  obtain ⟨kk, hkk⟩ : ∃ x, x = wrap64 (slot - base) := ⟨_, rfl⟩
                  rw [← hkk]
                  clear hkk
                  by_cases hneg : kk < 0
                  · go_wp2_with fail
                    go_ret
                    exact ⟨rfl, HW.out⟩
                  · have hgt : (n2 : Int) ≤ kk := by omega
                    go_wp2_with fail
                    go_ret
                    exact ⟨rfl, HW.out⟩
            · have hpos : 0 < n2 := by omega
              clear hz
              obtain ⟨g0, rfl, hd0, hg0⟩ := HA0.out hpos
              obtain ⟨g1, rfl, hd1, hg1⟩ := HA1.out hpos
              obtain ⟨g2, rfl, hd2, hg2⟩ := HA2.out hpos
              obtain rfl := hd0.symm
              obtain rfl := hd1.symm
              obtain rfl := hd2.symm
              have H3 : Hid (Three w3 g0 g1 g2 P B L n2) := by
                have t1 := Touch.of_below HW1.out (fun _ => False)
                have t2 := Touch.of_below HW2.out (fun _ => False)
                exact ⟨(hg0.kept t1 (fun f => f)).kept t2 (fun f => f), hg1.kept t2 (fun f => f), hg2, HLP.out, HLB.out, HLL.out⟩
              clear HA0 HA1 HA2 HW0 HW1 HW2 hg0 hg1 hg2 hd0 hd1 hd2 HLP HLB HLL
              have hd3 : decide ((hd : Int) < 0) = false := decide_eq_false (by omega)
              go_upto_block 0 with fail
              clear hd3
              go_cut [17] (fun _ wx => Hid (Three wx g0 g1 g2 P B L n2) ∧ Hid (Below w'.heap.size w' wx) ∧ Hid (∀ j, j < hd → L[j]? = some false))
              case first => as_aux_lemma =>
                go_wp2_with fail
                go_loopg [17] hd (fun g x wr => ∃ i : Nat, x = .int .i64 i ∧ i + g = hd ∧ Hid (∀ j, j < i → L[j]? = some false) ∧ Hid (Three wr g0 g1 g2 P B L n2) ∧ Hid (Below w'.heap.size w' wr))
                case atStart => exact ⟨0, rfl, by omega, fun j h => absurd h (by omega), H3, HW⟩
                case round =>
                  clear H3 HW
                  obtain ⟨i, rfl, hg, hF, hT, hW⟩ := hrel
                  by_cases hlt : i < hd
                  · obtain ⟨b, hb⟩ : ∃ b, L[i]? = some b := ⟨_, List.getElem?_eq_getElem (by rw [hT.out.nl]; omega)⟩
                    have hc := hT.out.l.cell (show (L.map Value.bool)[i]? = some (.bool b) by rw [List.getElem?_map, hb]; rfl)
                    have HB := hide hb
                    clear hb
                    cases b
                    · go_wp2_with fail
                      go_roundg (gk - 1)
                      case measure => omega
                      case rel =>
                        refine ⟨i + 1, by go_num, by omega, fun j hj => ?_, hT, hW⟩
                        by_cases hji : j < i
                        · exact hF.out j hji
                        · obtain rfl : j = i := by omega
                          exact HB.out
                    · go_wp2_with fail
                      go_ret
                      exact ⟨rfl, hW.out⟩
                  · obtain rfl : i = hd := by omega
                    go_wp2_with fail
                    go_meet
                    case rel => exact ⟨hT, hW, hF⟩
              case rest =>
                clear H3 HW
                obtain ⟨w4, hw4⟩ : ∃ x, x = wc := ⟨_, rfl⟩
                subst hw4
                obtain ⟨H3, HW, HF⟩ := hcut
                go_upto_region 32 with fail
                obtain ⟨kk, hkk⟩ : ∃ x, x = wrap64 (slot - base) := ⟨_, rfl⟩
                rw [← hkk]
                have HK := hide hkk
                clear hkk
                by_cases hki : 0 ≤ kk ∧ kk < n2
                · obtain ⟨k, rfl⟩ := Int.eq_ofNat_of_zero_le hki.1
                  have hk : k < n2 := by omega
                  clear hki
                  have HM : Hid ((L.set k false).length = n2) := by rw [Hid, List.length_set]; exact H3.out.nl
                  go_cut [117] (fun v wx => v = .bool false ∧ wx = w4)
                  case first => as_aux_lemma =>
                    have hk2 : decide (n2 ≤ k) = false := decide_eq_false (by omega)
                    have hk3 : decide ((k : Int) < 0) = false := decide_eq_false (by omega)
                    go_wp2_with fail
                    go_meet
                    case rel => exact ⟨rfl, rfl⟩
                  obtain ⟨rfl, rfl⟩ := hcut
                  go_upto_block 2 with fail
                  go_cut [19, 20, 21] (fun x y _ wx => Hid (Three wx g0 g1 g2 P B L n2) ∧ Hid (Below w'.heap.size w' wx) ∧ ∃ f m : Nat, Hid (Span (L.set k false) f m) ∧ ((f = m ∧ x = .int .i64 (-1) ∧ y = .int .i64 (-1)) ∨ (f < m ∧ x = .int .i64 f ∧ ∃ d : Nat, y = .int .i64 d ∧ d + 1 = m)))
                  case first => as_aux_lemma =>
                    go_wp2_with fail
                    go_loopg [19, 20, 21] n2 (fun g x y z wr => ∃ (i : Nat) (a b : Int), z = .int .i64 i ∧ x = .int .i64 a ∧ y = .int .i64 b ∧ i + g = n2 ∧ Hid (Seen (L.set k false) i a b) ∧ Hid (Three wr g0 g1 g2 P B L n2) ∧ Hid (Below w'.heap.size w' wr))
                    case atStart => exact ⟨0, -1, -1, rfl, rfl, rfl, by omega, Seen.start _, H3, HW⟩
                    case round =>
                      clear H3 HW
                      obtain ⟨i, a, b, rfl, rfl, rfl, hg, hS, hT, hW⟩ := hrel
                      by_cases hlt : i < n2
                      · obtain ⟨x, hx⟩ : ∃ x, L[i]? = some x := ⟨_, List.getElem?_eq_getElem (by rw [hT.out.nl]; omega)⟩
                        have hc := hT.out.l.cell (show (L.map Value.bool)[i]? = some (.bool x) by rw [List.getElem?_map, hx]; rfl)
                        have HX := hide hx
                        clear hx
                        by_cases hik : i = k
                        · have HB : Hid ((L.set k false)[i]? = some false) := by
                            rw [Hid, hik, List.getElem?_set_self (by rw [hT.out.nl]; exact hk)]
                          subst hik
                          go_wp2_with fail
                          go_roundg (gk - 1)
                          case measure => omega
                          case rel => exact ⟨i + 1, a, b, by go_num, rfl, rfl, by omega, hS.out.skip HB.out, hT, hW⟩
                        · have HB : Hid ((L.set k false)[i]? = some x) := by
                            rw [Hid, List.getElem?_set_ne (fun h => hik h.symm)]; exact HX.out
                          have hne : decide ((i : Int) = (k : Int)) = false := decide_eq_false (by omega)
                          cases x
                          · go_wp2_with fail
                            go_roundg (gk - 1)
                            case measure => omega
                            case rel => exact ⟨i + 1, a, b, by go_num, rfl, rfl, by omega, hS.out.skip HB.out, hT, hW⟩
                          · by_cases ha : a < 0
                            · go_wp2_with fail
                              go_roundg (gk - 1)
                              case measure => omega
                              case rel => exact ⟨i + 1, i, i, by go_num, rfl, rfl, by omega, hS.out.none ha HB.out, hT, hW⟩
                            · have ha2 : 0 ≤ a := by omega
                              clear ha
                              go_wp2_with fail
                              go_roundg (gk - 1)
                              case measure => omega
                              case rel => exact ⟨i + 1, a, i, by go_num, rfl, rfl, by omega, hS.out.some ha2 HB.out, hT, hW⟩
                      · have hS2 : Seen (L.set k false) (L.set k false).length a b := by
                          rw [HM.out, show n2 = i by omega]; exact hS.out
                        have HS2 := hide hS2.span
                        clear hS2
                        obtain rfl : i = n2 := by omega
                        clear hlt
                        go_wp2_with fail
                        go_meet
                        case rel =>
                          refine ⟨hT, hW, ?_⟩
                          obtain ⟨f, m, h5, h6⟩ := HS2.out
                          refine ⟨f, m, h5, ?_⟩
                          rcases h6 with ⟨e1, rfl, rfl⟩ | ⟨e1, rfl, rfl⟩
                          · exact .inl ⟨e1, rfl, rfl⟩
                          · exact .inr ⟨e1, rfl, m - 1, by rw [show ((m - 1 : Nat) : Int) = (m : Int) - 1 by omega], by omega⟩
                  case rest =>
                    clear H3 HW
                    obtain ⟨w5, hw5⟩ : ∃ x, x = wc := ⟨_, rfl⟩
                    subst hw5
                    obtain ⟨H3, HW, f, m, hsp, hfl⟩ := hcut
                    have HFL := hide hfl
                    clear hfl
                    have hfm := hsp.out.fm
                    have hmn : m ≤ n2 := by rw [← HM.out]; exact hsp.out.mn
                    have hhf : hd ≤ f := by
                      by_cases h : hd ≤ f
                      · exact h
                      · have h1 := HF.out f (by omega)
                        have h2 := (hsp.out.first (by rw [HM.out]; omega)).2
                        rw [List.getElem?_set] at h2
                        split at h2
                        · split at h2 <;> simp at h2
                        · rw [h1] at h2; simp at h2
                    clear HF
                    go_upto_region 47 with fail
                    go_cut [139] (fun v wx => ∃ q : Bool, v = .bool q ∧ Hid (q = decide (f = m)) ∧ wx = w5)
                    case first => as_aux_lemma =>
                      rcases HFL.out with ⟨e1, rfl, rfl⟩ | ⟨e1, rfl, d, rfl, e2⟩
                      · subst e1
                        go_wp2_with fail
                        go_meet
                        case rel => exact ⟨true, rfl, (decide_eq_true rfl).symm, rfl⟩
                      · have hx : decide ((f : Int) < 0) = false := decide_eq_false (by omega)
                        go_wp2_with fail
                        go_meet
                        case rel => exact ⟨false, rfl, (decide_eq_false (by omega)).symm, rfl⟩
                    obtain ⟨q, rfl, hq, rfl⟩ := hcut
                    go_upto_if 139 with fail
                    go_cut [22, 23, 24, 25] (fun x y z u wx => wx = wc ∧ ∃ (off len head' : Nat) (base' : Int), x = .int .i64 off ∧ y = .int .i64 len ∧ z = .int .i64 head' ∧ u = .int .i64 base' ∧ off + len ≤ n2 ∧ Hid (Left n2 f m base off len head' base'))
                    case first => as_aux_lemma =>
                      rcases HFL.out with ⟨e1, rfl, rfl⟩ | ⟨e1, rfl, d, rfl, e2⟩
                      · subst e1
                        clear HFL
                        obtain rfl : q = true := by rw [hq.out]; exact decide_eq_true rfl
                        clear hq
                        go_wp2_with fail
                        go_meet
                        case rel => exact ⟨rfl, 0, 0, 0, _, rfl, rfl, rfl, rfl, by omega, ⟨fun _ => ⟨rfl, rfl, rfl, rfl⟩, fun h => absurd h (by omega), fun h => absurd h (by omega)⟩⟩
                      · clear HFL
                        obtain rfl : q = false := by rw [hq.out]; exact decide_eq_false (by omega)
                        clear hq
                        subst e2
                        by_cases hg : (d + 1) / 2 < f
                        · have hg1 : ((d : Int) + 1) / 2 < (f : Int) := by omega
                          by_cases h32 : 32 ≤ f
                          · have hg2 : (32 : Int) ≤ (f : Int) := by omega
                            go_wp2_with fail
                            go_meet
                            case rel => exact ⟨rfl, f, d + 1 - f, 0, _, rfl, by rw [show ((d + 1 - f : Nat) : Int) = (d : Int) + 1 - (f : Int) by omega], rfl, rfl, by omega, ⟨fun h => absurd h (by omega), fun _ _ => ⟨rfl, by omega, rfl, rfl⟩, fun _ h => absurd (show Moves _ _ from ⟨hg, h32⟩) h⟩⟩
                          · have hg2 : decide ((32 : Int) ≤ (f : Int)) = false := decide_eq_false (by omega)
                            go_wp2_with fail
                            go_meet
                            case rel => exact ⟨rfl, 0, d + 1, f, _, rfl, by go_num, rfl, rfl, by omega, ⟨fun h => absurd h (by omega), fun _ h => absurd h.2 h32, fun _ _ => ⟨rfl, rfl, rfl, rfl⟩⟩⟩
                        · have hg1 : decide (((d : Int) + 1) / 2 < (f : Int)) = false := decide_eq_false (by omega)
                          go_wp2_with fail
                          go_meet
                          case rel => exact ⟨rfl, 0, d + 1, f, _, rfl, by go_num, rfl, rfl, by omega, ⟨fun h => absurd h (by omega), fun _ h => absurd h.1 hg, fun _ _ => ⟨rfl, rfl, rfl, rfl⟩⟩⟩
                    clear HFL hq
                    obtain ⟨rfl, off, len, head', base', rfl, rfl, rfl, rfl, hol, hleft⟩ := hcut
                    obtain ⟨w6, hw6⟩ : ∃ x, x = wc := ⟨_, rfl⟩
                    subst hw6
                    have HZ := hide (zz_any g0 g1 g2 P B L n2 hd base slot k f m w6 H3 h2 hk ((IntWalk.i64_left _).trans HK.out.symm) hsp hhf)
                    go_wp2_with fail
                    refine (unhide HZ).mono ?_
                    clear HZ
                    rintro e w7 ⟨p, b, l, off2, len2, head2, base2, rfl, hol2, hp, hb, hl, hleft2, hbel⟩
                    obtain ⟨rfl, rfl, rfl, rfl⟩ := hleft.out.unique hleft2 hfm
                    have HG : Hid (Got w7 p b l P B L k off2 len2) := ⟨hp, hb, hl⟩
                    have H7 : Hid (Three w7 g0 g1 g2 P B L n2) := H3.out.kept hbel
                    have HW7 : Hid (Below w'.heap.size w' w7) := HW.out.trans (hbel.mono HW.out.size)
                    clear hp hb hl hleft2 hbel H3 HW hleft hsp hhf hfm hmn HM HK hol
                    go_upto_block 4 with fail
                    go_wp2_with fail
                    go_loopg [31, 32, 33, 34, 35] len2 (fun g x _ _ _ _ wr => ∃ j : Nat, x = .int .i64 j ∧ j + g = len2 ∧ Hid (Got wr p b l P B L k off2 len2) ∧ Hid (Three wr g0 g1 g2 P B L n2) ∧ Hid (Below w'.heap.size w' wr))
                    case atStart => exact ⟨0, rfl, by omega, HG, H7, HW7⟩
                    case round =>
                      clear HG H7 HW7
                      obtain ⟨j, rfl, hg, hG, hT, hW⟩ := hrel
                      by_cases hlt : j < len2
                      · go_upto_region 63 with fail
                        go_cut [32] (fun v wx => ∃ i : Nat, v = .int .i64 i ∧ Hid (i = off2 + j) ∧ i < n2 ∧ Hid (Got wx p b l P B L k off2 len2) ∧ Hid (Three wx g0 g1 g2 P B L n2) ∧ Hid (Below w'.heap.size w' wx))
                        case first => as_aux_lemma =>
                          go_wp2_with fail
                          go_meet
                          case rel => exact ⟨off2 + j, by go_num, rfl, by omega, hG, hT, hW⟩
                        case rest =>
                          clear hG hT hW
                          obtain ⟨i, rfl, hi, hin, hG, hT, hW⟩ := hcut
                          obtain ⟨vp, hvp⟩ : ∃ v, P[i]? = some v := ⟨_, List.getElem?_eq_getElem (by rw [hT.out.np]; exact hin)⟩
                          obtain ⟨vb, hvb⟩ : ∃ v, B[i]? = some v := ⟨_, List.getElem?_eq_getElem (by rw [hT.out.nb]; exact hin)⟩
                          obtain ⟨vl, hvl⟩ : ∃ v, L[i]? = some v := ⟨_, List.getElem?_eq_getElem (by rw [hT.out.nl]; exact hin)⟩
                          have c0 := hT.out.p.cell (show (P.map (Value.int .i64))[i]? = some (.int .i64 vp) by rw [List.getElem?_map, hvp]; rfl)
                          have c1 := hT.out.b.cell (show (B.map Value.bool)[i]? = some (.bool vb) by rw [List.getElem?_map, hvb]; rfl)
                          have c2 := hT.out.l.cell (show (L.map Value.bool)[i]? = some (.bool vl) by rw [List.getElem?_map, hvl]; rfl)
                          have c3 := hG.out.cp hlt hi.out hvp
                          by_cases hik : i = k
                          · have c4 := hG.out.cb (v := false) hlt hi.out (by rw [← hik, List.getElem?_set_self (by rw [hT.out.nb]; exact hin)])
                            have c5 := hG.out.cl (v := false) hlt hi.out (by rw [← hik, List.getElem?_set_self (by rw [hT.out.nl]; exact hin)])
                            clear hvp hvb hvl
                            subst hik
                            go_wp2_with fail
                            go_roundg (gk - 1)
                            case measure => omega
                            case rel => exact ⟨j + 1, by go_num, by omega, hG, hT, hW⟩
                          · have c4 := hG.out.cb (v := vb) hlt hi.out (by rw [List.getElem?_set_ne (fun h => hik h.symm)]; exact hvb)
                            have c5 := hG.out.cl (v := vl) hlt hi.out (by rw [List.getElem?_set_ne (fun h => hik h.symm)]; exact hvl)
                            have hne : decide ((i : Int) = (k : Int)) = false := decide_eq_false (by omega)
                            clear hvp hvb hvl
                            go_wp2_with fail
                            go_roundg (gk - 1)
                            case measure => omega
                            case rel => exact ⟨j + 1, by go_num, by omega, hG, hT, hW⟩
                      · obtain rfl : j = len2 := by omega
                        clear hlt
                        go_wp2_with fail
                        go_ret
                        exact ⟨rfl, hW.out⟩
                · have HH := hide hki
                  clear hki
                  by_cases hneg : kk < 0
                  · go_wp2_with fail
                    go_ret
                    exact ⟨rfl, HW.out⟩
                  · have hgt : (n2 : Int) ≤ kk := by
                      have := HH.out
                      omega
                    go_wp2_with fail
                    go_ret
                    exact ⟨rfl, HW.out⟩
          · have HH := hide hhd
            clear hhd
            by_cases hneg : head < 0
            · go_wp2_with fail
              go_ret
              exact ⟨rfl, HW.out⟩
            · have hgt : (n2 : Int) < head := by
                have := HH.out
                omega
              go_wp2_with fail
              go_ret
              exact ⟨rfl, HW.out⟩
        · by_cases hn1 : n1 = n0
          · have hn2 : ¬ n2 = n0 := fun h => hn ⟨hn1, h⟩
            subst hn1
            clear hn
            have hd : ((n2 : Int) == (n1 : Int)) = false := by rw [beq_eq_false_iff_ne]; omega
            go_wp2_with fail
            go_ret
            exact ⟨rfl, HW0.out.trans ((HW1.out.trans (HW2.out.mono HW1.out.size)).mono HW0.out.size)⟩
          · clear hn
            have hd : ((n1 : Int) == (n0 : Int)) = false := by rw [beq_eq_false_iff_ne]; omega
            go_wp2_with fail
            go_ret
            exact ⟨rfl, HW0.out.trans ((HW1.out.trans (HW2.out.mono HW1.out.size)).mono HW0.out.size)⟩
end Go.Proofs.Qxb6618449a
