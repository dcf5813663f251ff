import Derived.Test.Qxb6618410aW1
import Derived.Deep.CutBlock
namespace Go.Proofs.Qxb6618410a
open Go.RowKit
def minusB (l : List Int) : Bool := l.head? == some 45
theorem minusB_end {l : List Int} (h : ¬ 0 < l.length) : minusB l = false := by
  have : l = [] := List.eq_nil_of_length_eq_zero (by omega)
  subst this; rfl
theorem minusB_at {l : List Int} {c : Int} (h : l[0]? = some c) : minusB l = (c == 45) := by
  unfold minusB; rw [List.head?_eq_getElem?, h]; rfl
theorem noMinus_yes {l : List Int} (h : minusB l = true) : noMinus l = l.drop 1 ∧ 0 < l.length := by
  cases l with
  | nil => simp [minusB] at h
  | cons c t =>
    have : c = 45 := by simpa [minusB] using h
    subst this; simp [noMinus]
theorem noMinus_no {l : List Int} (h : minusB l = false) : noMinus l = l := by
  cases l with
  | nil => rfl
  | cons c t =>
    have : c ≠ 45 := by simpa [minusB] using h
    simp [noMinus, this]
theorem noMinus_le (l : List Int) : (noMinus l).length ≤ l.length := by
  cases l with
  | nil => exact Nat.le_refl _
  | cons c t =>
    show (if c == 45 then t else c :: t).length ≤ _
    split <;> simp
theorem cut_parts {p : Int → Bool} {s : List Int} {k : Nat} {c : Int} (hno : ∀ x ∈ s.take k, p x = false) (hx : s[k]? = some c) (hp : p c = true) :
    cutAt p s = (s.take k, true, s.drop (k + 1)) ∧ k = (s.take k).length ∧ s.length - (k + 1) = (s.drop (k + 1)).length ∧ k < s.length := by
  have hk := (List.getElem?_eq_some_iff.1 hx).1
  refine ⟨cut_at s k c hno hx hp, ?_, ?_, hk⟩
  · rw [List.length_take]; omega
  · rw [List.length_drop]
theorem cutE_parts {s : List Int} {k : Nat} {c : Int} (hno : ∀ x ∈ s.take k, isE x = false) (hx : s[k]? = some c) (hp : isE c = true) :
    mantOf s = s.take k ∧ expOf s = s.drop (k + 1) ∧ hasExp s = true ∧ k = (s.take k).length ∧ s.length - (k + 1) = (s.drop (k + 1)).length ∧ k < s.length := by
  obtain ⟨h1, h2, h3, h4⟩ := cut_parts hno hx hp
  exact ⟨by rw [mantOf, h1], by rw [expOf, h1], by rw [hasExp, h1], h2, h3, h4⟩
theorem cutE_none {s : List Int} (h : ∀ x ∈ s, isE x = false) : mantOf s = s ∧ expOf s = [] ∧ hasExp s = false := by
  have h1 := cut_none s h
  exact ⟨by rw [mantOf, h1], by rw [expOf, h1], by rw [hasExp, h1]⟩
theorem cutD_parts {s : List Int} {k : Nat} {c : Int} (hno : ∀ x ∈ s.take k, isDot x = false) (hx : s[k]? = some c) (hp : isDot c = true) :
    intOf' s = s.take k ∧ fracOf s = s.drop (k + 1) ∧ hasFrac s = true ∧ k = (s.take k).length ∧ s.length - (k + 1) = (s.drop (k + 1)).length ∧ k < s.length := by
  obtain ⟨h1, h2, h3, h4⟩ := cut_parts hno hx hp
  exact ⟨by rw [intOf', h1], by rw [fracOf, h1], by rw [hasFrac, h1], h2, h3, h4⟩
theorem cutD_none {s : List Int} (h : ∀ x ∈ s, isDot x = false) : intOf' s = s ∧ fracOf s = [] ∧ hasFrac s = false := by
  have h1 := cut_none s h
  exact ⟨by rw [intOf', h1], by rw [fracOf, h1], by rw [hasFrac, h1]⟩
theorem lead0_short {l : List Int} (h : ¬ 1 < l.length) : lead0 l = false := by
  unfold lead0; rw [decide_eq_false h]; rfl
theorem lead0_at {l : List Int} {c : Int} (h : 1 < l.length) (hc : l[0]? = some c) : lead0 l = (c == 48) := by
  unfold lead0; rw [decide_eq_true h, List.head?_eq_getElem?, hc]; rfl
def signB (l : List Int) : Bool := match l with
  | c :: _ => isSg c
  | [] => false
theorem signB_end {l : List Int} (h : ¬ 0 < l.length) : signB l = false := by
  have : l = [] := List.eq_nil_of_length_eq_zero (by omega)
  subst this; rfl
theorem signB_at {l : List Int} {c : Int} (h : l[0]? = some c) : signB l = isSg c := by
  cases l with
  | nil => simp at h
  | cons a t =>
    have : a = c := by simpa using h
    subst this; rfl
theorem noSign_yes {l : List Int} (h : signB l = true) : noSign l = l.drop 1 ∧ 0 < l.length := by
  cases l with
  | nil => simp [signB] at h
  | cons c t =>
    have h' : isSg c = true := h
    simp [noSign, h']
theorem noSign_no {l : List Int} (h : signB l = false) : noSign l = l := by
  cases l with
  | nil => rfl
  | cons c t =>
    have h' : isSg c = false := h
    simp [noSign, h']
theorem no_step {p : Int → Bool} {s : List Int} {k : Nat} {c : Int} (hno : ∀ x ∈ s.take k, p x = false) (hx : s[k]? = some c) (hp : p c = false) : ∀ x ∈ s.take (k + 1), p x = false := by
  obtain ⟨hk, rfl⟩ := List.getElem?_eq_some_iff.1 hx
  rw [List.take_succ_eq_append_getElem hk]
  intro x hm
  rcases List.mem_append.1 hm with h | h
  · exact hno x h
  · have : x = s[k] := by simpa using h
    rw [this]; exact hp
set_option maxRecDepth 100000 in
set_option maxHeartbeats 400000 in
theorem isNum_any (ao : Option Addr) (cap : Nat) (l : List Int) (w : World) (hr : Hid (Row w ao l)) (hl : l.length ≤ 1048576) (hc : l.length ≤ cap) :
    Calls Try.prog 7 #[.slice ao l.length cap] w fun e w' => e = .returned (.bool (isNum l)) ∧ w' = w := by
  go_enter Try.func7, Try.ntmps7
  go_upto_region 1 with fail
  go_cut [19] (fun t wx => t = .bool (minusB l) ∧ wx = w)
  case first =>
    by_cases h0 : 0 < l.length
    · obtain ⟨c, hx⟩ := head_of h0
      obtain ⟨b, off, rfl⟩ := hr.out.addr h0
      have hcell := hr.out.cell hx
      simp only [Nat.add_zero] at hcell
      have HM : Hid (minusB l = (c == 45)) := minusB_at hx
      clear hx
      go_wp2_with fail
      go_meet
      case rel => exact ⟨by rw [HM.out], rfl⟩
    · have HM : Hid (minusB l = false) := minusB_end h0
      go_wp2_with fail
      go_meet
      case rel => exact ⟨by rw [HM.out], rfl⟩
  case rest =>
    obtain ⟨rfl, rfl⟩ := hcut
    go_upto_if 19 with fail
    go_cut [0] (fun s wx => ∃ ao' cap', s = .slice ao' (noMinus l).length cap' ∧ Hid (Row wx ao' (noMinus l)) ∧ (noMinus l).length ≤ cap' ∧ wx = wc)
    case first =>
      rcases hm : minusB l with _ | _
      · have HN := noMinus_no hm
        have HN' : Hid (noMinus l = l) := HN
        clear HN
        go_wp2_with fail
        go_meet
        case rel => exact ⟨ao, cap, by rw [HN'.out], by rw [HN'.out]; exact hr, by rw [HN'.out]; exact hc, rfl⟩
      · have HN := noMinus_yes hm
        have h0 := HN.2
        have HN' : Hid (noMinus l = l.drop 1) := HN.1
        clear HN
        obtain ⟨b, off, rfl⟩ := hr.out.addr h0
        go_wp2_with fail
        · have hcap : cap = 1 := by assumption
          go_meet
          case rel => exact ⟨_, _, by rw [HN'.out, List.length_drop], by rw [HN'.out, List.drop_of_length_le (by omega)]; exact Row.nil _ _, by rw [HN'.out, List.length_drop]; omega, rfl⟩
        · go_meet
          case rel => exact ⟨_, _, by rw [HN'.out, List.length_drop], by rw [HN'.out]; exact hr.out.drop 1, by rw [HN'.out, List.length_drop]; omega, rfl⟩
    case rest =>
      obtain ⟨ao1, cap1, rfl, hr1, hc1, rfl⟩ := hcut
      clear hr hc
      have hl1 := noMinus_le l
      have HN : Hid (isNum l = isNum1 (noMinus l)) := rfl
      generalize noMinus l = s at *
      go_upto_block 0 with fail
      go_cut [3, 4, 5, 6] (fun m e h i wx => ∃ a3 c3 a4 c4, m = .slice a3 (mantOf s).length c3 ∧ Hid (Row wx a3 (mantOf s)) ∧ (mantOf s).length ≤ c3 ∧ e = .slice a4 (expOf s).length c4 ∧ Hid (Row wx a4 (expOf s)) ∧ (expOf s).length ≤ c4 ∧ h = .bool (hasExp s) ∧ (mantOf s).length ≤ s.length ∧ (expOf s).length ≤ s.length ∧ wx = wc)
      case first =>
        go_wp2_with fail
        go_loop [3, 4, 5, 6] (fun m e h i => m = .slice ao1 s.length cap1 ∧ e = .slice none 0 0 ∧ h = .bool false ∧ ∃ k : Nat, k ≤ s.length ∧ i = .int .i64 k ∧ Hid (∀ x ∈ s.take k, isE x = false)) (fun _ _ _ i => s.length - (intOf i).toNat)
        case atStart => exact ⟨rfl, rfl, rfl, 0, Nat.zero_le _, rfl, fun x hx => by simp at hx⟩
        case round =>
          obtain ⟨rfl, rfl, rfl, k, hk, rfl, hno⟩ := hrel
          by_cases hlt : k < s.length
          · obtain ⟨c, hx⟩ := head_of hlt
            obtain ⟨b, off, rfl⟩ := hr1.out.addr (by omega)
            have hcell := hr1.out.cell hx
            have HX : Hid (s[k]? = some c) := hx
            clear hx
            by_cases hcap : cap1 = k + 1
            · subst hcap
              go_wp2_with fail
              all_goals first
                | (have he : isE c = false := by
                     have h1 : (c == 101) = false ∧ (c == 69) = false := by assumption
                     simp [isE, h1.1, h1.2]
                   go_round
                   case rel => exact ⟨rfl, rfl, rfl, k + 1, by omega, by go_num, no_step hno.out HX.out he⟩
                   case measure => simp [intOf]; omega)
                | (have he : isE c = true := by
                     first
                       | (have h1 : c = 101 := by assumption
                          simp [isE, h1])
                       | (have h1 : (c == 101) = true ∨ (c == 69) = true := by assumption
                          rcases h1 with h1 | h1 <;> simp [isE, h1])
                   obtain ⟨P1, P2, P3, P4, P5, P6⟩ := cutE_parts hno.out HX.out he
                   go_meet
                   case rel =>
                     rw [P1, P2, P3, ← P4, ← P5, show s.length - (k + 1) = 0 from by omega]
                     refine ⟨_, _, _, _, rfl, hr1.out.take k, by omega, rfl, ?_, by omega, rfl, by omega, by omega, rfl⟩
                     rw [List.drop_of_length_le (by omega)]; exact Row.nil _ _)
            · go_wp2_with fail
              all_goals first
                | (have he : isE c = false := by
                     have h1 : (c == 101) = false ∧ (c == 69) = false := by assumption
                     simp [isE, h1.1, h1.2]
                   go_round
                   case rel => exact ⟨rfl, rfl, rfl, k + 1, by omega, by go_num, no_step hno.out HX.out he⟩
                   case measure => simp [intOf]; omega)
                | (have he : isE c = true := by
                     first
                       | (have h1 : c = 101 := by assumption
                          simp [isE, h1])
                       | (have h1 : (c == 101) = true ∨ (c == 69) = true := by assumption
                          rcases h1 with h1 | h1 <;> simp [isE, h1])
                   obtain ⟨P1, P2, P3, P4, P5, P6⟩ := cutE_parts hno.out HX.out he
                   go_meet
                   case rel =>
                     rw [P1, P2, P3, ← P4, ← P5]
                     exact ⟨_, _, _, _, rfl, hr1.out.take k, by omega, rfl, hr1.out.drop (k + 1), by omega, rfl, by omega, by omega, rfl⟩)
          · have HS : Hid (mantOf s = s ∧ expOf s = [] ∧ hasExp s = false) := cutE_none (by rw [List.take_of_length_le (by omega)] at hno; exact hno.out)
            go_wp2_with fail
            go_meet
            case rel =>
              rw [HS.out.1, HS.out.2.1, HS.out.2.2]
              exact ⟨ao1, cap1, none, 0, rfl, hr1, hc1, rfl, Row.nil _ _, Nat.zero_le _, rfl, Nat.le_refl _, Nat.zero_le _, rfl⟩
      case rest =>
        obtain ⟨a3, c3, a4, c4, rfl, hr3, hc3, rfl, hr4, hc4, rfl, hm1, hm2, rfl⟩ := hcut
        clear hr1 hc1
        have HM : Hid (isNum l = (allDig (intOf' (mantOf s)) && !lead0 (intOf' (mantOf s)) && (!hasFrac (mantOf s) || allDig (fracOf (mantOf s))) && (!hasExp s || allDig (noSign (expOf s))))) := HN.out
        clear HN
        generalize mantOf s = m at *
        go_upto_block 2 with fail
        go_cut [7, 8, 9, 10] (fun i f h k wx => ∃ a5 c5 a6 c6, i = .slice a5 (intOf' m).length c5 ∧ Hid (Row wx a5 (intOf' m)) ∧ (intOf' m).length ≤ c5 ∧ f = .slice a6 (fracOf m).length c6 ∧ Hid (Row wx a6 (fracOf m)) ∧ (fracOf m).length ≤ c6 ∧ h = .bool (hasFrac m) ∧ (intOf' m).length ≤ m.length ∧ (fracOf m).length ≤ m.length ∧ wx = wc)
        case first =>
          go_wp2_with fail
          go_loop [7, 8, 9, 10] (fun i f h j => i = .slice a3 m.length c3 ∧ f = .slice none 0 0 ∧ h = .bool false ∧ ∃ k : Nat, k ≤ m.length ∧ j = .int .i64 k ∧ Hid (∀ x ∈ m.take k, isDot x = false)) (fun _ _ _ j => m.length - (intOf j).toNat)
          case atStart => exact ⟨rfl, rfl, rfl, 0, Nat.zero_le _, rfl, fun x hx => by simp at hx⟩
          case round =>
            obtain ⟨rfl, rfl, rfl, k, hk, rfl, hno⟩ := hrel
            by_cases hlt : k < m.length
            · obtain ⟨c, hx⟩ := head_of hlt
              obtain ⟨b, off, rfl⟩ := hr3.out.addr (by omega)
              have hcell := hr3.out.cell hx
              have HX : Hid (m[k]? = some c) := hx
              clear hx
              by_cases hcap : c3 = k + 1
              · subst hcap
                go_wp2_with fail
                all_goals first
                  | (have h1 : (c == 46) = false := by assumption
                     have he : isDot c = false := h1
                     go_round
                     case rel => exact ⟨rfl, rfl, rfl, k + 1, by omega, by go_num, no_step hno.out HX.out he⟩
                     case measure => simp [intOf]; omega)
                  | (have h1 : (c == 46) = true := by assumption
                     have he : isDot c = true := h1
                     obtain ⟨P1, P2, P3, P4, P5, P6⟩ := cutD_parts hno.out HX.out he
                     go_meet
                     case rel =>
                       rw [P1, P2, P3, ← P4, ← P5, show m.length - (k + 1) = 0 from by omega]
                       refine ⟨_, _, _, _, rfl, hr3.out.take k, by omega, rfl, ?_, by omega, rfl, by omega, by omega, rfl⟩
                       rw [List.drop_of_length_le (by omega)]; exact Row.nil _ _)
              · go_wp2_with fail
                all_goals first
                  | (have h1 : (c == 46) = false := by assumption
                     have he : isDot c = false := h1
                     go_round
                     case rel => exact ⟨rfl, rfl, rfl, k + 1, by omega, by go_num, no_step hno.out HX.out he⟩
                     case measure => simp [intOf]; omega)
                  | (have h1 : (c == 46) = true := by assumption
                     have he : isDot c = true := h1
                     obtain ⟨P1, P2, P3, P4, P5, P6⟩ := cutD_parts hno.out HX.out he
                     go_meet
                     case rel =>
                       rw [P1, P2, P3, ← P4, ← P5]
                       exact ⟨_, _, _, _, rfl, hr3.out.take k, by omega, rfl, hr3.out.drop (k + 1), by omega, rfl, by omega, by omega, rfl⟩)
            · have HS : Hid (intOf' m = m ∧ fracOf m = [] ∧ hasFrac m = false) := cutD_none (by rw [List.take_of_length_le (by omega)] at hno; exact hno.out)
              go_wp2_with fail
              go_meet
              case rel =>
                rw [HS.out.1, HS.out.2.1, HS.out.2.2]
                exact ⟨a3, c3, none, 0, rfl, hr3, hc3, rfl, Row.nil _ _, Nat.zero_le _, rfl, Nat.le_refl _, Nat.zero_le _, rfl⟩
        case rest =>
          obtain ⟨a5, c5, a6, c6, rfl, hr5, hc5, rfl, hr6, hc6, rfl, hm5, hm6, rfl⟩ := hcut
          clear hr3 hc3
          generalize intOf' m = i at *
          generalize fracOf m = f at *
          generalize hasFrac m = hf at *
          generalize hasExp s = he at *
          generalize expOf s = e at *
          go_wp2_with fail
          refine (allDig_any _ _ _ _ hr5 (by omega)).mono ?_
          rintro ex w' ⟨rfl, rfl⟩
          rcases hA : allDig i with _ | _
          · rw [hA] at HM
            have HQ : Hid (isNum l = false) := by rw [Hid, HM.out]; simp
            go_wp2_with fail
            go_ret
            exact ⟨ret_bool HQ.out.symm, rfl⟩
          rw [hA] at HM
          go_upto_region 25 with fail
          go_cut [78] (fun t wx => t = .bool (lead0 i) ∧ wx = w')
          case first =>
            by_cases h1 : 1 < i.length
            · obtain ⟨c, hx⟩ := head_of (show 0 < i.length from by omega)
              obtain ⟨b, off, rfl⟩ := hr5.out.addr (by omega)
              have hcell := hr5.out.cell hx
              simp only [Nat.add_zero] at hcell
              have HX : Hid (lead0 i = (c == 48)) := lead0_at h1 hx
              clear hx
              go_wp2_with fail
              go_meet
              case rel => exact ⟨by rw [HX.out], rfl⟩
            · have HX : Hid (lead0 i = false) := lead0_short h1
              go_wp2_with fail
              go_meet
              case rel => exact ⟨by rw [HX.out], rfl⟩
          case rest =>
            obtain ⟨rfl, rfl⟩ := hcut
            rcases hB : lead0 i with _ | _
            · rw [hB] at HM
              go_upto_region 27 with fail
              go_cut [84] (fun t wx => t = .bool (hf && !allDig f) ∧ wx = wc)
              case first =>
                rcases hf with _ | _
                · go_wp2_with fail
                  go_meet
                  case rel => exact ⟨rfl, rfl⟩
                · go_wp2_with fail
                  refine (allDig_any _ _ _ _ hr6 (by omega)).mono ?_
                  rintro ex w2 ⟨rfl, rfl⟩
                  go_wp2_with fail
                  go_meet
                  case rel => exact ⟨by simp, rfl⟩
              case rest =>
                obtain ⟨rfl, rfl⟩ := hcut
                rcases hF : (hf && !allDig f) with _ | _
                · have HM2 : Hid (isNum l = (!he || allDig (noSign e))) := by
                    rw [Hid, HM.out]
                    have : (!hf || allDig f) = true := by revert hF; cases hf <;> cases allDig f <;> simp
                    rw [this]; simp
                  clear HM
                  rcases he with _ | _
                  · have HQ : Hid (isNum l = true) := HM2.out
                    go_wp2_with fail
                    go_ret
                    exact ⟨ret_bool HQ.out.symm, rfl⟩
                  have HQ : Hid (isNum l = allDig (noSign e)) := HM2.out
                  clear HM2
                  go_upto_region 30 with fail
                  go_cut [100] (fun t wx => t = .bool (signB e) ∧ wx = wc)
                  case first =>
                    by_cases h1 : 0 < e.length
                    · obtain ⟨c, hx⟩ := head_of h1
                      obtain ⟨b, off, rfl⟩ := hr4.out.addr h1
                      have hcell := hr4.out.cell hx
                      simp only [Nat.add_zero] at hcell
                      have HX : Hid (signB e = isSg c) := signB_at hx
                      clear hx
                      rcases h43 : (c == 43) with _ | _
                      · go_wp2_with fail
                        go_meet
                        case rel => exact ⟨by rw [HX.out]; simp [isSg, h43], rfl⟩
                      · go_wp2_with fail
                        go_meet
                        case rel => exact ⟨by rw [HX.out]; simp [isSg, h43], rfl⟩
                    · have HX : Hid (signB e = false) := signB_end h1
                      go_wp2_with fail
                      go_meet
                      case rel => exact ⟨by rw [HX.out], rfl⟩
                  case rest =>
                    obtain ⟨rfl, rfl⟩ := hcut
                    go_upto_if 100 with fail
                    go_cut [4] (fun x wx => ∃ a7 c7, x = .slice a7 (noSign e).length c7 ∧ Hid (Row wx a7 (noSign e)) ∧ (noSign e).length ≤ e.length ∧ wx = wc)
                    case first =>
                      rcases hs : signB e with _ | _
                      · have HN' : Hid (noSign e = e) := noSign_no hs
                        go_wp2_with fail
                        go_meet
                        case rel => rw [HN'.out]; exact ⟨_, _, rfl, hr4, Nat.le_refl _, rfl⟩
                      · have HN := noSign_yes hs
                        have h0 := HN.2
                        have HN' : Hid (noSign e = e.drop 1) := HN.1
                        clear HN
                        obtain ⟨b, off, rfl⟩ := hr4.out.addr h0
                        by_cases hcap : c4 = 1
                        · subst hcap
                          go_wp2_with fail
                          go_meet
                          case rel =>
                            rw [HN'.out, List.length_drop, show e.length - 1 = 0 from by omega, List.drop_of_length_le (by omega)]
                            exact ⟨_, _, rfl, Row.nil _ _, by omega, rfl⟩
                        · go_wp2_with fail
                          go_meet
                          case rel =>
                            rw [HN'.out, List.length_drop]
                            exact ⟨_, _, rfl, hr4.out.drop 1, by omega, rfl⟩
                    case rest =>
                      obtain ⟨a7, c7, rfl, hr7, hl7, rfl⟩ := hcut
                      go_wp2_with fail
                      refine (allDig_any _ _ _ _ hr7 (by omega)).mono ?_
                      rintro ex w2 ⟨rfl, rfl⟩
                      go_wp2_with fail
                      all_goals
                        go_ret
                        first
                          | (have hz : (!allDig (noSign e)) = true := by assumption
                             exact ⟨ret_bool (by rw [HQ.out]; simpa using hz), rfl⟩)
                          | (have hz : (!allDig (noSign e)) = false := by assumption
                             exact ⟨ret_bool (by rw [HQ.out]; simpa using hz), rfl⟩)
                · have HQ : Hid (isNum l = false) := by
                    rw [Hid, HM.out]
                    have : (!hf || allDig f) = false := by revert hF; cases hf <;> cases allDig f <;> simp
                    rw [this]; simp
                  go_wp2_with fail
                  go_ret
                  exact ⟨ret_bool HQ.out.symm, rfl⟩
            · rw [hB] at HM
              have HQ : Hid (isNum l = false) := by rw [Hid, HM.out]; simp
              go_wp2_with fail
              go_ret
              exact ⟨ret_bool HQ.out.symm, rfl⟩
end Go.Proofs.Qxb6618410a
