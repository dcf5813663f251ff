/- Plain mathematics for the law on one coded bit: the encoder's own settling against the law's telling. No Go in sight. -/
import Derived.Test.Qxb6618439aBits
import Derived.Test.Qxb6618439aVal
namespace Go.Proofs.Qxb6618439a
open Go.RowKit

/-- By how many bytes a range of at least 4096 is lifted. -/
def kOf (r : Int) : Nat := if 16777216 ≤ r then 0 else if 65536 ≤ r then 1 else 2
theorem kOf_0 {r : Int} (h : 16777216 ≤ r) : kOf r = 0 := by simp [kOf, h]
theorem kOf_1 {r : Int} (h : r < 16777216) (h2 : 65536 ≤ r) : kOf r = 1 := by
  have : ¬ 16777216 ≤ r := by omega
  simp [kOf, this, h2]
theorem kOf_2 {r : Int} (h : r < 65536) : kOf r = 2 := by
  have h1 : ¬ 16777216 ≤ r := by omega
  have h2 : ¬ 65536 ≤ r := by omega
  simp [kOf, h1, h2]

/-- The tail with the carry in it. -/
def tailL (cache low : Int) (pending : Nat) : List Int := (cache + low / 4294967296) % 256 :: List.replicate pending ((255 + low / 4294967296) % 256)
theorem tail_bytes (cache low : Int) (pending : Nat) : Bytes (tailL cache low pending) := fun b hb => by
  rcases List.mem_cons.1 hb with rfl | hb
  · omega
  · rw [(List.mem_replicate.1 hb).2]; omega
/-- What the big addition makes of the tail. -/
theorem tail_added {cache low : Int} {pending : Nat} {l : List Int} (hc0 : 0 ≤ cache) (hc1 : cache < 256) (h0 : 0 ≤ low) (h1 : low < 8589934592) (hB : Bytes l) (hl : l.length = pending + 1)
    (hv : val l = (val (cache :: List.replicate pending 255) + low / 4294967296) % 256 ^ (pending + 1)) : l = tailL cache low pending := by
  have ht := tail_bytes cache low pending
  have hlt : (tailL cache low pending).length = pending + 1 := by simp [tailL]
  refine val_inj hB ht (by rw [hl, hlt]) ?_
  have hb := val_bd ht
  rw [hlt] at hb
  rw [hv]
  have hp := pow_pos' pending
  rcases (show low / 4294967296 = 0 ∨ low / 4294967296 = 1 by omega) with e | e
  · have e1 : tailL cache low pending = cache :: List.replicate pending 255 := by
      unfold tailL; rw [e, Int.add_zero, Int.add_zero, Int.emod_eq_of_lt hc0 hc1]; rfl
    rw [e, Int.add_zero, ← e1, Int.emod_eq_of_lt hb.1 hb.2]
  · have e1 : tailL cache low pending = (cache + 1) % 256 :: List.replicate pending 0 := by
      unfold tailL; rw [e]; rfl
    rw [e1] at hb ⊢
    rw [e, val, val, val_rep255, val_rep0, List.length_replicate, List.length_replicate]
    by_cases hc : cache = 255
    · subst hc
      rw [Int.pow_succ]
      generalize (256 : Int) ^ pending = q at hp
      rw [show 255 * q + (q - 1) + 1 = q * 256 from by omega, Int.emod_self]; omega
    · rw [val, val_rep0, List.length_replicate] at hb
      rw [Int.emod_eq_of_lt (a := cache + 1) (by omega) (by omega)] at hb ⊢
      rw [← Int.emod_eq_of_lt hb.1 hb.2]
      congr 1
      rw [Int.add_mul]; omega
/-- What of the tail is written. -/
theorem tail_settled (s : EncSt) : (tailL s.cache s.low s.pending).drop (if s.started then 0 else 1) = settled s := by
  unfold tailL settled
  cases s.started <;> simp

/-- One byte moved, settled. -/
theorem one_yes {t : EncSt} (h : settles t.low = true) : lift1 t = { low := t.low % 16777216 * 256, rng := t.rng * 256, cache := t.low / 16777216 % 256, pending := 0, started := true, out := t.out ++ settled t } :=
  shift_yes (s := { t with rng := t.rng * 256 }) h
theorem one_no {t : EncSt} (h : settles t.low = false) : lift1 t = { low := t.low % 16777216 * 256, rng := t.rng * 256, cache := t.cache, pending := t.pending + 1, started := t.started, out := t.out } :=
  shift_no (s := { t with rng := t.rng * 256 }) h
/-- settles, by the top byte and the carry. -/
theorem settles_byte (low : Int) (h0 : 0 ≤ low) : settles low = (!(low / 16777216 % 256 == 255) || !(low / 4294967296 == 0)) := by
  rcases hs : settles low with _ | _
  · simp only [settles, Bool.or_eq_false_iff, decide_eq_false_iff_not] at hs
    have e1 : low / 16777216 % 256 = 255 := by omega
    have e2 : low / 4294967296 = 0 := by omega
    simp [e1, e2]
  · have hs' : low % 4294967296 < 4278190080 ∨ 4294967296 ≤ low := by simpa [settles] using hs
    rcases hs' with h | h
    · have e1 : (low / 16777216 % 256 == 255) = false := by rw [beq_eq_false_iff_ne]; omega
      simp [e1]
    · have e1 : (low / 4294967296 == 0) = false := by rw [beq_eq_false_iff_ne]; omega
      simp [e1]
/-- The second byte: no carry any more. -/
theorem settles_next (low : Int) : settles (low % 16777216 * 256) = !(low / 65536 % 256 == 255) := by
  rw [settles_byte _ (by omega)]
  have e2 : low % 16777216 * 256 / 4294967296 = 0 := by omega
  have e1 : low % 16777216 * 256 / 16777216 % 256 = low / 65536 % 256 := by omega
  rw [e1, e2]; simp

/-- The last byte that a carry can no longer pass (0: none). -/
def lastOf (k : Nat) (low : Int) : Nat := if k = 2 ∧ ¬ low / 65536 % 256 = 255 then 2 else if settles low then 1 else 0
theorem last_le {k : Nat} (low : Int) (h : 1 ≤ k) : lastOf k low ≤ k ∧ lastOf k low ≤ 2 := by
  unfold lastOf; split
  · omega
  · split <;> omega
/-- The j-th moved-out byte. -/
def shByte (low : Int) (j : Nat) : Int := if j = 0 then low / 16777216 % 256 else low / 65536 % 256
/-- What the fields are where nothing is settled, and where something is. -/
structure Sums (t u : EncSt) (k L : Nat) : Prop where
  none : L = 0 → u.out = t.out ∧ u.cache = t.cache ∧ u.pending = t.pending + k ∧ u.started = t.started
  some : 0 < L → u.out = t.out ++ settled t ++ (if L = 2 then [t.low / 16777216 % 256] else []) ∧ u.cache = shByte t.low (L - 1) ∧ u.pending + L = k ∧ u.started = true
theorem sums_one (t : EncSt) : Sums t (lift1 t) 1 (lastOf 1 t.low) := by
  rcases hs : settles t.low with _ | _
  · have e : lastOf 1 t.low = 0 := by simp [lastOf, hs]
    rw [e, one_no hs]
    exact ⟨fun _ => ⟨rfl, rfl, rfl, rfl⟩, fun h => absurd h (by omega)⟩
  · have e : lastOf 1 t.low = 1 := by simp [lastOf, hs]
    rw [e, one_yes hs]
    exact ⟨fun h => absurd h (by omega), fun _ => ⟨by simp, by simp [shByte], rfl, rfl⟩⟩
theorem settled_of (low rng cache : Int) (pending : Nat) (started : Bool) (out : List Int) (h : low / 4294967296 = 0) (h0 : 0 ≤ cache) (h1 : cache < 256) : settled { low := low, rng := rng, cache := cache, pending := pending, started := started, out := out } = (if started then [cache] else []) ++ List.replicate pending 255 := by
  unfold settled
  simp only [h, Int.add_zero]
  rw [Int.emod_eq_of_lt h0 h1]
  rfl
theorem sums_two (t : EncSt) (h0 : 0 ≤ t.low) (c0 : 0 ≤ t.cache) (c1 : t.cache < 256) : Sums t (lift1 (lift1 t)) 2 (lastOf 2 t.low) := by
  have hn := settles_next t.low
  have hz : t.low % 16777216 * 256 / 4294967296 = 0 := by omega
  have hb1 : t.low % 16777216 * 256 / 16777216 % 256 = t.low / 65536 % 256 := by omega
  rcases hs : settles t.low with _ | _
  · -- the first waits
    have hlo : 4278190080 ≤ t.low ∧ t.low < 4294967296 := by simp only [settles, Bool.or_eq_false_iff, decide_eq_false_iff_not] at hs; omega
    have hz0 : t.low / 4294967296 = 0 := by omega
    have hb0 : t.low / 16777216 % 256 = 255 := by omega
    rw [one_no hs]
    by_cases h2 : t.low / 65536 % 256 = 255
    · have hs2 : settles (t.low % 16777216 * 256) = false := by rw [hn]; simp [h2]
      have e : lastOf 2 t.low = 0 := by simp [lastOf, hs, h2]
      rw [e, one_no (t := { low := t.low % 16777216 * 256, rng := t.rng * 256, cache := t.cache, pending := t.pending + 1, started := t.started, out := t.out }) hs2]
      exact ⟨fun _ => ⟨rfl, rfl, rfl, rfl⟩, fun h => absurd h (by omega)⟩
    · have hs2 : settles (t.low % 16777216 * 256) = true := by rw [hn]; simp [h2]
      have e : lastOf 2 t.low = 2 := by simp [lastOf, h2]
      rw [e, one_yes (t := { low := t.low % 16777216 * 256, rng := t.rng * 256, cache := t.cache, pending := t.pending + 1, started := t.started, out := t.out }) hs2]
      refine ⟨fun h => absurd h (by omega), fun _ => ⟨?_, ?_, rfl, rfl⟩⟩
      · show t.out ++ settled _ = _
        rw [settled_of _ _ _ _ _ _ hz c0 c1, hb0, List.append_assoc]
        congr 1
        have e1 : settled t = (if t.started then [t.cache] else []) ++ List.replicate t.pending 255 := settled_of t.low t.rng t.cache t.pending t.started t.out hz0 c0 c1
        rw [e1, List.replicate_succ', List.append_assoc]
        rfl
      · show t.low % 16777216 * 256 / 16777216 % 256 = _
        rw [hb1]; rfl
  · -- the first is settled
    rw [one_yes hs]
    by_cases h2 : t.low / 65536 % 256 = 255
    · have hs2 : settles (t.low % 16777216 * 256) = false := by rw [hn]; simp [h2]
      have e : lastOf 2 t.low = 1 := by simp [lastOf, hs, h2]
      rw [e, one_no (t := { low := t.low % 16777216 * 256, rng := t.rng * 256, cache := t.low / 16777216 % 256, pending := 0, started := true, out := t.out ++ settled t }) hs2]
      exact ⟨fun h => absurd h (by omega), fun _ => ⟨by simp, by simp [shByte], rfl, rfl⟩⟩
    · have hs2 : settles (t.low % 16777216 * 256) = true := by rw [hn]; simp [h2]
      have e : lastOf 2 t.low = 2 := by simp [lastOf, h2]
      rw [e, one_yes (t := { low := t.low % 16777216 * 256, rng := t.rng * 256, cache := t.low / 16777216 % 256, pending := 0, started := true, out := t.out ++ settled t }) hs2]
      refine ⟨fun h => absurd h (by omega), fun _ => ⟨?_, ?_, rfl, rfl⟩⟩
      · show (t.out ++ settled t) ++ settled _ = _
        rw [settled_of _ _ _ _ _ _ hz (by omega) (by omega)]
        rfl
      · show t.low % 16777216 * 256 / 16777216 % 256 = _
        rw [hb1]; rfl
theorem low_one (t : EncSt) : (lift1 t).low = t.low % 16777216 * 256 := shift_low _
theorem low_two (t : EncSt) : (lift1 (lift1 t)).low = t.low % 65536 * 65536 := by
  rw [low_one, low_one]; omega

end Go.Proofs.Qxb6618439a
