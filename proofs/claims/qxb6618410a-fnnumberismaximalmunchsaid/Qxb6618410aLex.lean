/- Plain mathematics: the lexer's stages, by places in the text. No Go in sight. -/
import Derived.Test.Qxb6618410aPlain
namespace Go.Proofs.Qxb6618410a
open Go.RowKit

/-- How many digits l begins with. -/
def dg : List Int → Nat
  | [] => 0
  | c :: t => if isDig c then dg t + 1 else 0
/-- Behind the fraction's digits. -/
def o5 : List Int → Option Nat
  | [] => some 0
  | c :: t => if isE c then (out 6 t).map (· + 1) else some 0
/-- Behind the whole part. -/
def o23 : List Int → Option Nat
  | [] => some 0
  | c :: t => if isDot c then (out 4 t).map (· + 1) else o5 (c :: t)

theorem dg_yes {c : Int} (t : List Int) (h : isDig c = true) : dg (c :: t) = dg t + 1 := by simp [dg, h]
theorem dg_no {c : Int} (t : List Int) (h : isDig c = false) : dg (c :: t) = 0 := by simp [dg, h]

theorem out2 (l : List Int) : out 2 l = o23 l := by
  cases l with
  | nil => rfl
  | cons c t =>
    rcases hd : isDot c with _ | _
    · rcases he : isE c with _ | _
      · rw [out_cons_none (by simp [step, hd, he])]; simp [o23, o5, hd, he, acc]
      · rw [out_cons_some (r := 6) (by simp [step, hd, he])]; simp [o23, o5, hd, he]
    · rw [out_cons_some (r := 4) (by simp [step, hd])]; simp [o23, hd]
theorem out3 : ∀ l, out 3 l = (o23 (l.drop (dg l))).map (· + dg l)
  | [] => rfl
  | c :: t => by
    rcases h : isDig c with _ | _
    · rw [dg_no t h]
      rcases hd : isDot c with _ | _
      · rcases he : isE c with _ | _
        · rw [out_cons_none (by simp [step, h, hd, he])]; simp [o23, o5, hd, he, acc]
        · rw [out_cons_some (r := 6) (by simp [step, h, hd, he])]; simp [o23, o5, hd, he]; rfl
      · rw [out_cons_some (r := 4) (by simp [step, h, hd])]; simp [o23, hd]; rfl
    · rw [dg_yes t h, out_cons_some (r := 3) (by simp [step, h]), out3 t, List.drop_succ_cons, Option.map_map]
      congr 1
theorem out5 : ∀ l, out 5 l = (o5 (l.drop (dg l))).map (· + dg l)
  | [] => rfl
  | c :: t => by
    rcases h : isDig c with _ | _
    · rw [dg_no t h]
      rcases he : isE c with _ | _
      · rw [out_cons_none (by simp [step, h, he])]; simp [o5, he, acc]
      · rw [out_cons_some (r := 6) (by simp [step, h, he])]; simp [o5, he]; rfl
    · rw [dg_yes t h, out_cons_some (r := 5) (by simp [step, h]), out5 t, List.drop_succ_cons, Option.map_map]
      congr 1
theorem out8 : ∀ l, out 8 l = some (dg l)
  | [] => rfl
  | c :: t => by
    rcases h : isDig c with _ | _
    · rw [dg_no t h, out_cons_none (by simp [step, h])]; rfl
    · rw [dg_yes t h, out_cons_some (r := 8) (by simp [step, h]), out8 t]; rfl
theorem out7 (l : List Int) : out 7 l = if dg l = 0 then none else some (dg l) := by
  cases l with
  | nil => rfl
  | cons c t =>
    rcases h : isDig c with _ | _
    · rw [dg_no t h, out_cons_none (by simp [step, h])]; rfl
    · rw [dg_yes t h, out_cons_some (r := 8) (by simp [step, h]), out8 t]; simp
theorem out4 (l : List Int) : out 4 l = if dg l = 0 then none else (o5 (l.drop (dg l))).map (· + dg l) := by
  cases l with
  | nil => rfl
  | cons c t =>
    rcases h : isDig c with _ | _
    · rw [dg_no t h, out_cons_none (by simp [step, h])]; rfl
    · rw [dg_yes t h, out_cons_some (r := 5) (by simp [step, h]), out5 t, List.drop_succ_cons, Option.map_map, if_neg (by omega)]
      congr 1

/-- What is found from place p on, told from the text's head. -/
def resAt (o : List Int → Option Nat) (l : List Int) (p : Nat) : Option Nat := (o (l.drop p)).map (· + p)

theorem drop_at {l : List Int} {p : Nat} {c : Int} (h : l[p]? = some c) : l.drop p = c :: l.drop (p + 1) := by
  obtain ⟨hp, rfl⟩ := List.getElem?_eq_some_iff.1 h
  rw [List.drop_eq_getElem_cons hp]
theorem drop_end {l : List Int} {p : Nat} (h : l.length ≤ p) : l.drop p = [] := List.drop_of_length_le h
theorem head_of {l : List Int} {p : Nat} (h : p < l.length) : ∃ c, l[p]? = some c := ⟨l[p], List.getElem?_eq_getElem h⟩
theorem map_add (o : Option Nat) (a b : Nat) : (o.map (· + a)).map (· + b) = o.map (· + (b + a)) := by
  rw [Option.map_map]; congr 1; funext x; simp only [Function.comp]; omega
theorem res_step {o o' : List Int → Option Nat} {l : List Int} {p : Nat} (n : Nat) (h : o (l.drop p) = (o' (l.drop (p + n))).map (· + n)) : resAt o l p = resAt o' l (p + n) := by
  unfold resAt; rw [h, map_add]

theorem dg_end {l : List Int} {p : Nat} (h : l.length ≤ p) : dg (l.drop p) = 0 := by rw [drop_end h]; rfl
theorem dg_at_no {l : List Int} {p : Nat} {c : Int} (h : l[p]? = some c) (hd : isDig c = false) : dg (l.drop p) = 0 := by rw [drop_at h, dg_no _ hd]
theorem dg_at_yes {l : List Int} {p : Nat} {c : Int} (h : l[p]? = some c) (hd : isDig c = true) : dg (l.drop p) = dg (l.drop (p + 1)) + 1 := by rw [drop_at h, dg_yes _ hd]
theorem dg_le : ∀ l : List Int, dg l ≤ l.length
  | [] => Nat.le_refl _
  | c :: t => by
    have := dg_le t
    unfold dg; split <;> simp <;> omega

theorem r0_minus {l : List Int} {p : Nat} (h : l[p]? = some 45) : resAt (out 0) l p = resAt (out 1) l (p + 1) :=
  res_step 1 (by rw [drop_at h, out_cons_some (r := 1) rfl])
theorem r0_else {l : List Int} {p : Nat} (h : l[p]? ≠ some 45) : resAt (out 0) l p = resAt (out 1) l p := by
  unfold resAt; congr 1
  rcases Nat.lt_or_ge p l.length with hp | hp
  · obtain ⟨c, hc⟩ := head_of hp
    rw [drop_at hc]
    have hm : (c == 45) = false := by rw [hc] at h; simpa using h
    have es : step 0 c = step 1 c := by simp [step, hm]
    rcases hs : step 1 c with _ | r
    · rw [out_cons_none hs, out_cons_none (es.trans hs)]; rfl
    · rw [out_cons_some hs, out_cons_some (es.trans hs)]
  · rw [drop_end hp]; rfl
theorem r1_zero {l : List Int} {p : Nat} (h : l[p]? = some 48) : resAt (out 1) l p = resAt o23 l (p + 1) :=
  res_step 1 (by rw [drop_at h, out_cons_some (r := 2) rfl, out2])
theorem out1_else {l : List Int} {p : Nat} (h : l[p]? ≠ some 48) : out 1 (l.drop p) = if dg (l.drop p) = 0 then none else (o23 ((l.drop p).drop (dg (l.drop p)))).map (· + dg (l.drop p)) := by
  rcases Nat.lt_or_ge p l.length with hp | hp
  · obtain ⟨c, hc⟩ := head_of hp
    rw [drop_at hc]
    have hm : (c == 48) = false := by rw [hc] at h; simpa using h
    rcases hd : isDig c with _ | _
    · rw [dg_no _ hd, out_cons_none (by simp [step, hm, hd])]; rfl
    · rw [dg_yes _ hd, out_cons_some (r := 3) (by simp [step, hm, hd]), out3, List.drop_succ_cons, Option.map_map, if_neg (by omega)]
      congr 1
  · rw [drop_end hp]; rfl
theorem r1_none {l : List Int} {p : Nat} (h : l[p]? ≠ some 48) (hd : dg (l.drop p) = 0) : resAt (out 1) l p = none := by
  unfold resAt; rw [out1_else h, if_pos hd]; rfl
theorem r1_digs {l : List Int} {p : Nat} (h : l[p]? ≠ some 48) (hd : 0 < dg (l.drop p)) : resAt (out 1) l p = resAt o23 l (p + dg (l.drop p)) :=
  res_step _ (by rw [out1_else h, if_neg (by omega), List.drop_drop])
theorem r23_dot {l : List Int} {p : Nat} (h : l[p]? = some 46) : resAt o23 l p = resAt (out 4) l (p + 1) :=
  res_step 1 (by rw [drop_at h]; rfl)
theorem r23_else {l : List Int} {p : Nat} (h : l[p]? ≠ some 46) : resAt o23 l p = resAt o5 l p := by
  unfold resAt; congr 1
  rcases Nat.lt_or_ge p l.length with hp | hp
  · obtain ⟨c, hc⟩ := head_of hp
    rw [drop_at hc]
    have hm : isDot c = false := by rw [hc] at h; simp [isDot]; simpa using h
    simp [o23, hm]
  · rw [drop_end hp]; rfl
theorem r4_none {l : List Int} {p : Nat} (hd : dg (l.drop p) = 0) : resAt (out 4) l p = none := by
  unfold resAt; rw [out4, if_pos hd]; rfl
theorem r4_digs {l : List Int} {p : Nat} (hd : 0 < dg (l.drop p)) : resAt (out 4) l p = resAt o5 l (p + dg (l.drop p)) :=
  res_step _ (by rw [out4, if_neg (by omega), List.drop_drop])
theorem r5_e {l : List Int} {p : Nat} {c : Int} (h : l[p]? = some c) (he : isE c = true) : resAt o5 l p = resAt (out 6) l (p + 1) :=
  res_step 1 (by rw [drop_at h]; simp [o5, he])
theorem r5_else {l : List Int} {p : Nat} (h : ∀ c, l[p]? = some c → isE c = false) : resAt o5 l p = some p := by
  unfold resAt
  rcases Nat.lt_or_ge p l.length with hp | hp
  · obtain ⟨c, hc⟩ := head_of hp
    rw [drop_at hc]; simp [o5, h c hc]
  · rw [drop_end hp]; simp [o5]
theorem r6_sign {l : List Int} {p : Nat} {c : Int} (h : l[p]? = some c) (he : isSg c = true) : resAt (out 6) l p = resAt (out 7) l (p + 1) :=
  res_step 1 (by rw [drop_at h, out_cons_some (r := 7) (by simp [step, he])])
theorem r6_else {l : List Int} {p : Nat} (h : ∀ c, l[p]? = some c → isSg c = false) : resAt (out 6) l p = resAt (out 7) l p := by
  unfold resAt; congr 1
  rcases Nat.lt_or_ge p l.length with hp | hp
  · obtain ⟨c, hc⟩ := head_of hp
    rw [drop_at hc]
    have hs := h c hc
    have es : step 6 c = step 7 c := by simp [step, hs]
    rcases hq : step 7 c with _ | r
    · rw [out_cons_none hq, out_cons_none (es.trans hq)]; rfl
    · rw [out_cons_some hq, out_cons_some (es.trans hq)]
  · rw [drop_end hp]; rfl
theorem r7_none {l : List Int} {p : Nat} (hd : dg (l.drop p) = 0) : resAt (out 7) l p = none := by
  unfold resAt; rw [out7, if_pos hd]; rfl
theorem r7_digs {l : List Int} {p : Nat} (hd : 0 < dg (l.drop p)) : resAt (out 7) l p = some (p + dg (l.drop p)) := by
  unfold resAt; rw [out7, if_neg (by omega)]; simp; omega

end Go.Proofs.Qxb6618410a
