/- Plain mathematics for the law on JSON numbers: no Go in sight. A number's text is told by nine states (0: nothing yet; 1: behind the sign; 2: behind a first 0; 3: in the whole part; 4: behind the point; 5: in the fraction; 6: behind e; 7: behind e's sign; 8: in the exponent). -/
import Derived.RowKit
namespace Go.Proofs.Qxb6618410a
open Go.RowKit

def isDig (c : Int) : Bool := decide (48 ≤ c) && decide (c ≤ 57)
def isE (c : Int) : Bool := c == 101 || c == 69
def isSg (c : Int) : Bool := c == 43 || c == 45
def isDot (c : Int) : Bool := c == 46

/-- One byte more. -/
def step (q : Nat) (c : Int) : Option Nat :=
  match q with
  | 0 => if c == 45 then some 1 else if c == 48 then some 2 else if isDig c then some 3 else none
  | 1 => if c == 48 then some 2 else if isDig c then some 3 else none
  | 2 => if isDot c then some 4 else if isE c then some 6 else none
  | 3 => if isDig c then some 3 else if isDot c then some 4 else if isE c then some 6 else none
  | 4 => if isDig c then some 5 else none
  | 5 => if isDig c then some 5 else if isE c then some 6 else none
  | 6 => if isSg c then some 7 else if isDig c then some 8 else none
  | 7 => if isDig c then some 8 else none
  | 8 => if isDig c then some 8 else none
  | _ => none
/-- May a number end here? -/
def acc (q : Nat) : Bool := q == 2 || q == 3 || q == 5 || q == 8
/-- The whole of l, from q on, ends a number. -/
def ok : Nat → List Int → Bool
  | q, [] => acc q
  | q, c :: t => match step q c with
    | none => false
    | some r => ok r t
/-- l, from q on, goes no wrong way. -/
def alive : Nat → List Int → Bool
  | _, [] => true
  | q, c :: t => match step q c with
    | none => false
    | some r => alive r t
/-- From q on as far as it goes: how many bytes, where a number ends there. -/
def out : Nat → List Int → Option Nat
  | q, [] => if acc q then some 0 else none
  | q, c :: t => match step q c with
    | none => if acc q then some 0 else none
    | some r => (out r t).map (· + 1)

theorem ok_cons_none {q : Nat} {c : Int} {t : List Int} (h : step q c = none) : ok q (c :: t) = false := by simp [ok, h]
theorem ok_cons_some {q r : Nat} {c : Int} {t : List Int} (h : step q c = some r) : ok q (c :: t) = ok r t := by simp [ok, h]
theorem alive_cons_none {q : Nat} {c : Int} {t : List Int} (h : step q c = none) : alive q (c :: t) = false := by simp [alive, h]
theorem alive_cons_some {q r : Nat} {c : Int} {t : List Int} (h : step q c = some r) : alive q (c :: t) = alive r t := by simp [alive, h]
theorem out_cons_none {q : Nat} {c : Int} {t : List Int} (h : step q c = none) : out q (c :: t) = if acc q then some 0 else none := by simp [out, h]
theorem out_cons_some {q r : Nat} {c : Int} {t : List Int} (h : step q c = some r) : out q (c :: t) = (out r t).map (· + 1) := by simp [out, h]

theorem step_le {q r : Nat} {c : Int} (h : step q c = some r) : r ≤ 8 := by
  unfold step at h
  split at h <;> (try split at h) <;> (try split at h) <;> (try split at h) <;> simp_all <;> omega

/-- A beginning is one that is a number, or becomes one by a 0. -/
theorem alive_eq : ∀ (l : List Int) (q : Nat), q ≤ 8 → (ok q l || ok q (l ++ [48])) = alive q l
  | [], q, hq => by
    have : ∀ q, q ≤ 8 → (ok q [] || ok q [48]) = alive q [] := by decide
    exact this q hq
  | c :: t, q, _ => by
    rcases h : step q c with _ | r
    · rw [alive_cons_none h, List.cons_append, ok_cons_none h, ok_cons_none h]; rfl
    · rw [alive_cons_some h, List.cons_append, ok_cons_some h, ok_cons_some h]
      exact alive_eq t r (step_le h)

/-- THE LONGEST BEGINNING SAYS WHAT 'out' SAYS. -/
theorem out_munch : ∀ (l : List Int) (q m : Nat), m ≤ l.length → alive q (l.take m) = true → (m = l.length ∨ alive q (l.take (m + 1)) = false) →
    out q l = if ok q (l.take m) = true then some m else none
  | [], q, m, hm, _, _ => by
    have : m = 0 := by simpa using hm
    subst this; simp [out, ok]
  | c :: t, q, 0, _, _, he => by
    have he : alive q [c] = false := by rcases he with he | he <;> simp_all
    have hs : step q c = none := by
      rcases h : step q c with _ | r
      · rfl
      · rw [alive_cons_some h] at he; simp [alive] at he
    rw [out_cons_none hs]; simp [ok]
  | c :: t, q, m + 1, hm, ha, he => by
    rw [List.take_succ_cons] at ha
    rcases h : step q c with _ | r
    · rw [alive_cons_none h] at ha; simp at ha
    · rw [alive_cons_some h] at ha
      rw [List.take_succ_cons, alive_cons_some h] at he
      rw [out_cons_some h, List.take_succ_cons, ok_cons_some h, out_munch t r m (by simpa using hm) ha (by simpa using he)]
      split <;> simp

/-! ### The number by cutting: as the law's own text tells it -/
/-- What lies ahead of the first byte that p takes; whether there is one; what lies behind it. -/
def cutAt (p : Int → Bool) : List Int → List Int × Bool × List Int
  | [] => ([], false, [])
  | c :: t => if p c then ([], true, t) else (c :: (cutAt p t).1, (cutAt p t).2.1, (cutAt p t).2.2)
def allDig (l : List Int) : Bool := !l.isEmpty && l.all isDig
def noSign : List Int → List Int
  | c :: t => if isSg c then t else c :: t
  | [] => []
def noMinus : List Int → List Int
  | c :: t => if c == 45 then t else c :: t
  | [] => []
def lead0 (l : List Int) : Bool := decide (1 < l.length) && l.head? == some 48
def mantOf (s : List Int) : List Int := (cutAt isE s).1
def hasExp (s : List Int) : Bool := (cutAt isE s).2.1
def expOf (s : List Int) : List Int := (cutAt isE s).2.2
def intOf' (m : List Int) : List Int := (cutAt isDot m).1
def hasFrac (m : List Int) : Bool := (cutAt isDot m).2.1
def fracOf (m : List Int) : List Int := (cutAt isDot m).2.2
/-- Behind the sign. -/
def isNum1 (s : List Int) : Bool :=
  allDig (intOf' (mantOf s)) && !lead0 (intOf' (mantOf s)) && (!hasFrac (mantOf s) || allDig (fracOf (mantOf s))) && (!hasExp s || allDig (noSign (expOf s)))
def isNum (l : List Int) : Bool := isNum1 (noMinus l)

theorem cut_nil (p : Int → Bool) : cutAt p [] = ([], false, []) := rfl
theorem lead0_cons (c : Int) (l : List Int) : lead0 (c :: l) = (!l.isEmpty && (c == 48)) := by
  cases l <;> simp [lead0]
theorem cut_yes {p : Int → Bool} {c : Int} (t : List Int) (h : p c = true) : cutAt p (c :: t) = ([], true, t) := by simp [cutAt, h]
theorem cut_no {p : Int → Bool} {c : Int} (t : List Int) (h : p c = false) : cutAt p (c :: t) = (c :: (cutAt p t).1, (cutAt p t).2.1, (cutAt p t).2.2) := by simp [cutAt, h]
theorem cut_at {p : Int → Bool} : ∀ (l : List Int) (k : Nat) (c : Int), (∀ x ∈ l.take k, p x = false) → l[k]? = some c → p c = true → cutAt p l = (l.take k, true, l.drop (k + 1))
  | [], k, c, _, h, _ => by simp at h
  | a :: t, 0, c, _, h, hp => by
    have : a = c := by simpa using h
    subst this; rw [cut_yes t hp]; simp
  | a :: t, k + 1, c, hx, h, hp => by
    rw [cut_no t (hx a (by simp)), cut_at t k c (fun x hm => hx x (by simp [hm])) (by simpa using h) hp]; simp
theorem cut_none {p : Int → Bool} : ∀ (l : List Int), (∀ x ∈ l, p x = false) → cutAt p l = (l, false, [])
  | [], _ => rfl
  | a :: t, hx => by rw [cut_no t (hx a (by simp)), cut_none t (fun x hm => hx x (by simp [hm]))]

theorem dig_not (c : Int) (h : isDig c = true) : isE c = false ∧ isDot c = false ∧ isSg c = false ∧ (c == 45) = false := by
  simp [isDig] at h
  refine ⟨?_, ?_, ?_, ?_⟩ <;> simp [isE, isDot, isSg] <;> omega

theorem ok8 : ∀ l, ok 8 l = l.all isDig
  | [] => rfl
  | c :: t => by
    rcases h : isDig c with _ | _
    · rw [ok_cons_none (by simp [step, h])]; simp [h]
    · rw [ok_cons_some (r := 8) (by simp [step, h]), ok8 t]; simp [h]
theorem ok7 (l : List Int) : ok 7 l = allDig l := by
  cases l with
  | nil => rfl
  | cons c t =>
    rcases h : isDig c with _ | _
    · rw [ok_cons_none (by simp [step, h])]; simp [allDig, h]
    · rw [ok_cons_some (r := 8) (by simp [step, h]), ok8 t]; simp [allDig, h]
theorem ok6 (l : List Int) : ok 6 l = allDig (noSign l) := by
  cases l with
  | nil => rfl
  | cons c t =>
    rcases hs : isSg c with _ | _
    · rcases h : isDig c with _ | _
      · rw [ok_cons_none (by simp [step, h, hs])]; simp [allDig, h, noSign, hs]
      · rw [ok_cons_some (r := 8) (by simp [step, h, hs]), ok8 t]; simp [allDig, h, noSign, hs]
    · rw [ok_cons_some (r := 7) (by simp [step, hs]), ok7 t]; simp [noSign, hs]
theorem ok5 : ∀ l, ok 5 l = ((mantOf l).all isDig && (!hasExp l || allDig (noSign (expOf l))))
  | [] => rfl
  | c :: t => by
    rcases h : isDig c with _ | _
    · rcases he : isE c with _ | _
      · rw [ok_cons_none (by simp [step, h, he])]; simp [mantOf, cut_no t he, h]
      · rw [ok_cons_some (r := 6) (by simp [step, h, he]), ok6 t]; simp [mantOf, hasExp, expOf, cut_yes t he]
    · have he := (dig_not c h).1
      rw [ok_cons_some (r := 5) (by simp [step, h]), ok5 t]; simp [mantOf, hasExp, expOf, cut_no t he, h]
theorem ok4 (l : List Int) : ok 4 l = (allDig (mantOf l) && (!hasExp l || allDig (noSign (expOf l)))) := by
  cases l with
  | nil => rfl
  | cons c t =>
    rcases h : isDig c with _ | _
    · rw [ok_cons_none (by simp [step, h])]
      rcases he : isE c with _ | _
      · simp [mantOf, cut_no t he, allDig, h]
      · simp [mantOf, cut_yes t he, allDig]
    · have he := (dig_not c h).1
      rw [ok_cons_some (r := 5) (by simp [step, h]), ok5 t]; simp [mantOf, hasExp, expOf, cut_no t he, allDig, h]
theorem ok3 : ∀ l, ok 3 l = ((intOf' (mantOf l)).all isDig && (!hasFrac (mantOf l) || allDig (fracOf (mantOf l))) && (!hasExp l || allDig (noSign (expOf l))))
  | [] => rfl
  | c :: t => by
    rcases h : isDig c with _ | _
    · rcases hd : isDot c with _ | _
      · rcases he : isE c with _ | _
        · rw [ok_cons_none (by simp [step, h, hd, he])]; simp [mantOf, cut_no t he, intOf', cut_no (cutAt isE t).1 hd, h]
        · rw [ok_cons_some (r := 6) (by simp [step, h, hd, he]), ok6 t]; simp [mantOf, hasExp, expOf, cut_yes t he, intOf', hasFrac, cut_nil]
      · have he : isE c = false := by simp [isDot] at hd; subst hd; rfl
        rw [ok_cons_some (r := 4) (by simp [step, h, hd]), ok4 t]; simp [mantOf, hasExp, expOf, cut_no t he, intOf', hasFrac, fracOf, cut_yes (cutAt isE t).1 hd]
    · have he := dig_not c h
      rw [ok_cons_some (r := 3) (by simp [step, h]), ok3 t]; simp [mantOf, hasExp, expOf, cut_no t he.1, intOf', hasFrac, fracOf, cut_no (cutAt isE t).1 he.2.1, h]
theorem ok2 (l : List Int) : ok 2 l = ((intOf' (mantOf l)).isEmpty && (!hasFrac (mantOf l) || allDig (fracOf (mantOf l))) && (!hasExp l || allDig (noSign (expOf l)))) := by
  cases l with
  | nil => rfl
  | cons c t =>
    rcases hd : isDot c with _ | _
    · rcases he : isE c with _ | _
      · rw [ok_cons_none (by simp [step, hd, he])]; simp [mantOf, cut_no t he, intOf', cut_no (cutAt isE t).1 hd]
      · rw [ok_cons_some (r := 6) (by simp [step, hd, he]), ok6 t]; simp [mantOf, hasExp, expOf, cut_yes t he, intOf', hasFrac, cut_nil]
    · have he : isE c = false := by simp [isDot] at hd; subst hd; rfl
      rw [ok_cons_some (r := 4) (by simp [step, hd]), ok4 t]; simp [mantOf, hasExp, expOf, cut_no t he, intOf', hasFrac, fracOf, cut_yes (cutAt isE t).1 hd]
theorem ok1 (l : List Int) : ok 1 l = isNum1 l := by
  cases l with
  | nil => rfl
  | cons c t =>
    rcases h : isDig c with _ | _
    · have h0 : (c == 48) = false := by
        rcases h0 : (c == 48) with _ | _
        · rfl
        · have : c = 48 := by simpa using h0
          subst this; simp [isDig] at h
      rw [ok_cons_none (by simp [step, h, h0])]
      rcases he : isE c with _ | _
      · rcases hd : isDot c with _ | _
        · simp [isNum1, mantOf, cut_no t he, intOf', cut_no (cutAt isE t).1 hd, allDig, h]
        · simp [isNum1, mantOf, cut_no t he, intOf', cut_yes (cutAt isE t).1 hd, allDig]
      · simp [isNum1, mantOf, cut_yes t he, intOf', allDig, cut_nil]
    · have he := dig_not c h
      rcases h0 : (c == 48) with _ | _
      · rw [ok_cons_some (r := 3) (by simp [step, h, h0]), ok3 t]
        simp [isNum1, mantOf, hasExp, expOf, cut_no t he.1, intOf', hasFrac, fracOf, cut_no (cutAt isE t).1 he.2.1, allDig, h, lead0_cons, h0]
      · rw [ok_cons_some (r := 2) (by simp [step, h0]), ok2 t]
        simp [isNum1, mantOf, hasExp, expOf, cut_no t he.1, intOf', hasFrac, fracOf, cut_no (cutAt isE t).1 he.2.1, allDig, h, lead0_cons, h0]
        rcases (cutAt isDot (cutAt isE t).1).1 with _ | ⟨x, y⟩ <;> simp
theorem isNum_eq (l : List Int) : isNum l = ok 0 l := by
  unfold isNum
  rw [← ok1]
  cases l with
  | nil => rfl
  | cons c t =>
    rcases hm : (c == 45) with _ | _
    · have e : noMinus (c :: t) = c :: t := by simp [noMinus, hm]
      rw [e]
      have es : step 0 c = step 1 c := by simp [step, hm]
      rcases h : step 1 c with _ | r
      · rw [ok_cons_none h, ok_cons_none (es.trans h)]
      · rw [ok_cons_some h, ok_cons_some (es.trans h)]
    · rw [ok_cons_some (r := 1) (by simp [step, hm])]; simp [noMinus, hm]

end Go.Proofs.Qxb6618410a
