import Derived.Test.Qxb6618449aPlain
namespace Go.Proofs.Qxb6618449a
open Go.RowKit

set_option maxRecDepth 100000 in
set_option maxHeartbeats 2000000 in
theorem remove_any (Q G N : Nat) (qs : List QE) (head : Nat) (base slot : Int) (k f m : Nat) (e : QE) (w : World) (hQ : Hid (Que w Q G qs N N head base)) (hlen : N ≤ 65536) (hk : k < N) (hke : Hid (qs[k]? = some e)) (hks : IntKind.i64.wrap (slot - base) = k)
    (hsp : Hid (Span ((qs.set k (gone e)).map QE.l) f m)) (hh : head ≤ f) :
    Calls Try.prog 6 #[.pointer (some ⟨Q, 0, none⟩), .int .i64 slot] w fun r w' => r = .returned (.tuple #[]) ∧ ∃ qs' off len head' base', Que w' Q G qs' len N head' base' ∧ off + len ≤ N ∧ qs'.take len = ((qs.set k (gone e)).drop off).take len ∧ Left N f m base off len head' base' ∧ Touch (fun k => k = Q ∨ k = G) w w' := by
  have hc0 := hQ.out.c0
  have hc1 := hQ.out.c1
  have hc2 := hQ.out.c2
  have hb1 := hQ.out.b hke.out
  have hb2 := hQ.out.l hke.out
  have hf1 := hQ.out.freeG (k * 3 + 1)
  have hf2 := hQ.out.freeG (k * 3 + 2)
  go_enter Try.func6, Try.ntmps6
  go_wp2_with fail
  go_quiet (fail)
  go_upto_block 0 with fail
  have H1 : Hid (Que (((w.drewN nq).setCell ⟨G, k * 3 + 1, none⟩ (.pointer none)).setCell ⟨G, k * 3 + 2, none⟩ (.bool false)) Q G (qs.set k (gone e)) N N head base) := (hQ.out.drewN nq).gone hke.out
  have HT1 : Hid (Touch (fun k => k = Q ∨ k = G) w (((w.drewN nq).setCell ⟨G, k * 3 + 1, none⟩ (.pointer none)).setCell ⟨G, k * 3 + 2, none⟩ (.bool false))) := (((Touch.refl _ w).drewN nq).setCell (fun _ => .inr rfl) _).setCell (fun _ => .inr rfl) _
  clear hc0 hc1 hc2 hb1 hb2 hf1 hf2 hQ hks hke
  generalize hq1 : qs.set k (gone e) = qs1 at *
  have HQ1 := hide hq1
  clear hq1
  have HL : Hid ((qs1.map QE.l).length = N) := by rw [Hid, List.length_map]; exact H1.out.len
  have hfm := hsp.out.fm
  have hmn : m ≤ N := by rw [← HL.out]; exact hsp.out.mn
  go_cut [] (fun wx => Hid (Que wx Q G qs1 N N f base) ∧ Hid (Touch (fun k => k = Q ∨ k = G) w wx))
  case first =>
    go_wp2_with fail
    go_loopg [] (f - head) (fun g wr => ∃ h : Nat, h + g = f ∧ Hid (Que wr Q G qs1 N N h base) ∧ Hid (Touch (fun k => k = Q ∨ k = G) w wr))
    case atStart => exact ⟨head, by omega, H1, HT1⟩
    case round =>
      clear H1 HT1
      obtain ⟨h, hg, hQ, hT⟩ := hrel
      have hc0 := hQ.out.c0
      have hc1 := hQ.out.c1
      have hf1 := hQ.out.freeQ 1
      by_cases hlt : h < f
      · have hl := hQ.out.live (hsp.out.before h hlt)
        have hd : (h : Int) < (N : Int) := by omega
        go_wp2_with fail
        go_quiet (fail)
        go_wp2_with fail
        go_roundg (gk - 1)
        case measure => omega
        case rel => exact ⟨h + 1, by omega, (hQ.out.drewN nq).setHead (h + 1), (hT.out.drewN nq).setCell (fun _ => .inl rfl) _⟩
      · obtain rfl : h = f := by omega
        clear hlt
        by_cases hN : h < N
        · have hl := hQ.out.live (hsp.out.first (by rw [HL.out]; exact hN)).2
          have hd : (h : Int) < (N : Int) := by omega
          go_wp2_with fail
          go_quiet (fail)
          go_wp2_with fail
          go_meet
          case rel => exact ⟨hQ.out.drewN nq, hT.out.drewN nq⟩
        · have hd : decide ((h : Int) < (N : Int)) = false := decide_eq_false (by omega)
          go_wp2_with fail
          go_quiet (fail)
          go_wp2_with fail
          go_meet
          case rel => exact ⟨hQ.out.drewN nq, hT.out.drewN nq⟩
  case rest =>
    obtain ⟨hQ, hT⟩ := hcut
    clear H1 HT1
    have hc0 := hQ.out.c0
    go_upto_block 2 with fail
    clear hc0
    go_cut [5] (fun _ wx => Hid (Que wx Q G qs1 m N f base) ∧ Hid (Touch (fun k => k = Q ∨ k = G) w wx))
    case first =>
      go_wp2_with fail
      go_loopg [5] (N - m) (fun g x wr => ∃ c : Nat, x = .int .i64 c ∧ m + g = c ∧ c ≤ N ∧ Hid (Que wr Q G qs1 c N f base) ∧ Hid (Touch (fun k => k = Q ∨ k = G) w wr))
      case atStart => exact ⟨N, rfl, by omega, Nat.le_refl _, hQ, hT⟩
      case round =>
        clear hQ hT
        obtain ⟨c, rfl, hg, hcN, hQ, hT⟩ := hrel
        have hc0 := hQ.out.c0
        have hc1 := hQ.out.c1
        have hf0 := hQ.out.freeQ 0
        by_cases hlt : m < c
        · obtain ⟨d, rfl⟩ : ∃ d, c = d + 1 := ⟨c - 1, by omega⟩
          have hl := hQ.out.live (hsp.out.behind d (by omega) (by rw [HL.out]; omega))
          have hd : (f : Int) < (d : Int) + 1 := by omega
          go_wp2_with fail
          go_roundg (gk - 1)
          case measure => omega
          case rel => exact ⟨d, by go_num, by omega, by omega, hQ.out.setPts d, hT.out.setCell (fun _ => .inl rfl) _⟩
        · obtain rfl : c = m := by omega
          clear hlt
          by_cases hfc : f < c
          · obtain ⟨d, rfl⟩ : ∃ d, c = d + 1 := ⟨c - 1, by omega⟩
            have hl := hQ.out.live (hsp.out.last hfc)
            rw [Nat.add_sub_cancel] at hl
            go_wp2_with fail
            go_meet
            case rel => exact ⟨hQ, hT⟩
          · go_wp2_with fail
            go_meet
            case rel => exact ⟨hQ, hT⟩
    case rest =>
      obtain ⟨hQ2, hT2⟩ := hcut
      clear hQ hT
      have hc0 := hQ2.out.c0
      have hc1 := hQ2.out.c1
      have hc2 := hQ2.out.c2
      have hf0 := hQ2.out.freeQ 0
      have hf1 := hQ2.out.freeQ 1
      have hf2 := hQ2.out.freeQ 2
      by_cases hfm2 : f = m
      · have hfN : f = N := by
          by_cases h : f < N
          · have := (hsp.out.first (by rw [HL.out]; exact h)).1; omega
          · omega
        subst hfm2
        subst hfN
        go_wp2_with fail
        go_quiet (fail)
        go_wp2_with fail
        go_region
        go_wp2_with fail
        go_end0
        refine ⟨rfl, qs1, 0, 0, 0, _, (((hQ2.out.drewN (nq + 1)).setBase _).setPts 0).setHead 0, by omega, rfl, ⟨fun _ => ⟨rfl, rfl, rfl, rfl⟩, fun h => absurd h (by omega), fun h => absurd h (by omega)⟩, (((hT2.out.drewN (nq + 1)).setCell (fun _ => .inl rfl) _).setCell (fun _ => .inl rfl) _).setCell (fun _ => .inl rfl) _⟩
      · have hlt : f < m := by omega
        clear hfm2
        by_cases hmv : m / 2 < f ∧ 32 ≤ f
        · obtain ⟨d, rfl⟩ : ∃ d, m = f + d := ⟨m - f, by omega⟩
          have hm1 := hmv.1
          have hm2 := hmv.2
          have hd : decide ((f : Int) = (f : Int) + (d : Int)) = false := decide_eq_false (by omega)
          have hg1 : (((f : Int) + (d : Int)) / 2) < (f : Int) := by omega
          have hg2 : (32 : Int) ≤ (f : Int) := by omega
          go_wp2_with fail
          go_quiet (fail)
          have hQ3 := hide (hQ2.out.drewN nq)
          have hT3 := hide (hT2.out.drewN nq)
          clear hQ2 hT2 hc0 hc1 hc2 hf0 hf1 hf2
          generalize wc.drewN nq = w3 at *
          have hc0 := hQ3.out.c0
          have hc1 := hQ3.out.c1
          go_wp2_with fail
          go_quiet (fail)
          have hQ4 := hide (hQ3.out.drewN nq)
          have hT4 := hide (hT3.out.drewN nq)
          clear hQ3 hT3 hc0 hc1
          generalize w3.drewN nq = w4 at *
          go_wp2_with fail
          have hc0 := hQ4.out.c0
          have hc1 := hQ4.out.c1
          have hQ5 : Hid (Que w4.drew Q G qs1 (f + d) N f base) := hQ4.out.drewN 1
          have hT5 : Hid (Touch (fun k => k = Q ∨ k = G) w w4.drew) := hT4.out.drewN 1
          have HL5 : Hid (((qs1.drop f).take d).length = d) := by rw [Hid, List.length_take, List.length_drop, hQ4.out.len]; omega
          have hcp := hQ5.out.copy f d (N - f) (by omega)
          have hQ6 : Hid (Que (w4.drew.setCells G 0 (flat ((qs1.drop f).take d))) Q G (qs1.take 0 ++ (qs1.drop f).take d ++ qs1.drop (0 + ((qs1.drop f).take d).length)) (f + d) N f base) := hQ5.out.copied ((qs1.drop f).take d) 0 (by rw [HL5.out]; omega)
          have hT6 : Hid (Touch (fun k => k = Q ∨ k = G) w (w4.drew.setCells G 0 (flat ((qs1.drop f).take d)))) := hT5.out.setCells (fun _ => .inr rfl) _ _
          rw [HL5.out, List.take_zero, List.nil_append, Nat.zero_add] at hQ6
          clear hQ5 hT5 hQ4 hT4
          generalize w4.drew.setCells G 0 (flat ((qs1.drop f).take d)) = w6 at *
          go_upto_region 13 with (go_region)
          clear hcp hc0 hc1
          have HL6 : Hid (((qs1.drop f).take d ++ qs1.drop d).length = N) := hQ6.out.len
          have hcl := fun ty => hQ6.out.clear ty d f (N - d) (by omega) (by omega)
          have hQ7 := hide (hQ6.out.copied (List.replicate f zeroE) d (by rw [List.length_replicate]; omega))
          have hT7 : Hid (Touch (fun k => k = Q ∨ k = G) w (w6.setCells G (d * 3) (flat (List.replicate f zeroE)))) := hT6.out.setCells (fun _ => .inr rfl) _ _
          have HE7 : Hid ((((qs1.drop f).take d ++ qs1.drop d).take d ++ List.replicate f zeroE ++ ((qs1.drop f).take d ++ qs1.drop d).drop (d + (List.replicate f zeroE).length)).take d = (qs1.drop f).take d) := by
            rw [Hid, List.append_assoc, List.take_append_of_le_length (by rw [List.length_take, HL6.out]; omega), List.take_take, Nat.min_self, List.take_append_of_le_length (by rw [HL5.out]; exact Nat.le_refl _), List.take_take, Nat.min_self]
          generalize ((qs1.drop f).take d ++ qs1.drop d).take d ++ List.replicate f zeroE ++ ((qs1.drop f).take d ++ qs1.drop d).drop (d + (List.replicate f zeroE).length) = qs7 at *
          have hc0 := hQ6.out.c0
          generalize w6.setCells G (d * 3) (flat (List.replicate f zeroE)) = w7 at *
          clear hQ6 hT6
          go_upto_region 14 with fail
          clear hcl hc0
          have hc0 := hQ7.out.c0
          have hc1 := hQ7.out.c1
          have hc2 := hQ7.out.c2
          have hf0 := hQ7.out.freeQ 0
          have hf1 := hQ7.out.freeQ 1
          have hf2 := hQ7.out.freeQ 2
          go_region
          go_wp2_with fail
          go_end0
          refine ⟨rfl, qs7, f, d, 0, _, (((hQ7.out.setBase _).setPts d).setHead 0).drewN 1, by omega, by rw [HQ1.out]; exact HE7.out, ⟨fun h => absurd h (by omega), fun _ _ => ⟨rfl, by omega, rfl, rfl⟩, fun _ h => absurd hmv h⟩, (((hT7.out.setCell (fun _ => .inl rfl) _).setCell (fun _ => .inl rfl) _).setCell (fun _ => .inl rfl) _).drewN 1⟩
        · have hd : decide ((f : Int) = (m : Int)) = false := decide_eq_false (by omega)
          by_cases hg : m / 2 < f
          · have hg1 : ((m : Int) / 2) < (f : Int) := by omega
            have hg2 : decide ((32 : Int) ≤ (f : Int)) = false := decide_eq_false (by omega)
            go_wp2_with fail
            go_quiet (fail)
            go_wp2_with fail
            go_quiet (fail)
            go_wp2_with fail
            go_end0
            refine ⟨rfl, qs1, 0, m, f, base, (hQ2.out.drewN _).drewN _, by omega, by rw [HQ1.out, List.drop_zero], ⟨fun h => absurd h (by omega), fun _ h => absurd h (by unfold Moves; omega), fun _ _ => ⟨rfl, rfl, rfl, rfl⟩⟩, (hT2.out.drewN _).drewN _⟩
          · have hg1 : decide (((m : Int) / 2) < (f : Int)) = false := decide_eq_false (by omega)
            go_wp2_with fail
            go_quiet (fail)
            go_wp2_with fail
            go_quiet (fail)
            go_wp2_with fail
            go_end0
            refine ⟨rfl, qs1, 0, m, f, base, (hQ2.out.drewN _).drewN _, by omega, by rw [HQ1.out, List.drop_zero], ⟨fun h => absurd h (by omega), fun _ h => absurd h (by unfold Moves; omega), fun _ _ => ⟨rfl, rfl, rfl, rfl⟩⟩, (hT2.out.drewN _).drewN _⟩
end Go.Proofs.Qxb6618449a
