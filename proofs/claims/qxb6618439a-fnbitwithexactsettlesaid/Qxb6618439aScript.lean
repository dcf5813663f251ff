/- Plain mathematics: what the encoder holds is the exact number. No Go in sight. -/
import Derived.Test.Qxb6618439aBits
import Derived.Test.Qxb6618439aVal
namespace Go.Proofs.Qxb6618439a
open Go.RowKit

/-- The bytes that stand settled or wait: the left-out 0, what is written, the cache once started, the pending ones. -/
def pre (s : EncSt) : List Int := 0 :: (s.out ++ ((if s.started then [s.cache] else []) ++ List.replicate s.pending 255))
/-- How many bytes have moved out. -/
def moved (s : EncSt) : Nat := s.out.length + ((if s.started then 1 else 0) + s.pending)
theorem pre_length (s : EncSt) : (pre s).length = moved s + 1 := by
  unfold pre moved
  cases s.started <;> simp <;> omega

/-- The encoder's state s and the number's bytes n tell the same. -/
structure Tells (s : EncSt) (n : List Int) : Prop where
  l0 : 0 ≤ s.low
  r0 : 0 < s.rng
  r1 : s.rng < 4294967296
  sum : s.low + s.rng ≤ 8589934592
  carry : 4294967296 < s.low + s.rng → s.started = true ∧ s.cache < 255
  c0 : 0 ≤ s.cache
  c1 : s.cache < 256
  bo : Bytes s.out
  bn : Bytes n
  len : n.length = moved s + 5
  room : val n + s.rng ≤ 4294967295 * 256 ^ moved s
  num : val n = val (pre s) * 4294967296 + s.low

def s0 : EncSt := { low := 0, rng := 4294967295, cache := 0, pending := 0, started := false, out := [] }
theorem tells_start : Tells s0 [0, 0, 0, 0, 0] where
  l0 := by decide
  r0 := by decide
  r1 := by decide
  sum := by decide
  carry := fun h => absurd h (by decide)
  c0 := by decide
  c1 := by decide
  bo := fun b hb => by simp [s0] at hb
  bn := by unfold Bytes; decide
  len := rfl
  room := by simp [s0, moved, val]
  num := by simp [s0, pre, val]

theorem tells_zero {s : EncSt} {n : List Int} (h : Tells s n) (p : Int) (r0 : 16777216 ≤ s.rng) (hp : 1 ≤ p) (hp2 : p < 4096) : Tells (narrow s p 0) n := by
  have hc := cut_bd s.rng p r0 h.r1 hp hp2
  rw [narrow_zero]
  obtain ⟨a1, a2, a3, a4, a5, a6, a7, a8, a9, a10, a11, a12⟩ := h
  generalize s.rng / 4096 * p = c at hc
  exact ⟨a1, by show 0 < c; omega, by show c < _; omega, by show s.low + c ≤ _; omega, fun h => a5 (by have h' : 4294967296 < s.low + c := h; omega), a6, a7, a8, a9, a10, by show val n + c ≤ 4294967295 * 256 ^ moved s; omega, a12⟩
theorem room_lt {s : EncSt} {n : List Int} (h : Tells s n) : val n + s.rng < 256 ^ n.length := by
  have h1 := h.room
  have hp := pow_pos' (moved s)
  have e : (256 : Int) ^ n.length = 256 ^ moved s * 1099511627776 := by rw [h.len, Int.pow_add]; rfl
  rw [e]
  generalize (256 : Int) ^ moved s = q at h1 hp
  omega
theorem tells_one {s : EncSt} {n n' : List Int} (h : Tells s n) (p bit : Int) (hb : ¬ bit = 0) (r0 : 16777216 ≤ s.rng) (hp : 1 ≤ p) (hp2 : p < 4096) (hl : n'.length = n.length) (hB : Bytes n')
    (hv : val n' = (val n + s.rng / 4096 * p) % 256 ^ n.length) : Tells (narrow s p bit) n' := by
  have hc := cut_bd s.rng p r0 h.r1 hp hp2
  have hlt := room_lt h
  have hn := val_bd h.bn
  rw [narrow_one s p hb]
  obtain ⟨a1, a2, a3, a4, a5, a6, a7, a8, a9, a10, a11, a12⟩ := h
  generalize s.rng / 4096 * p = c at hc hv
  rw [Int.emod_eq_of_lt (by omega) (by omega)] at hv
  exact ⟨by show 0 ≤ s.low + c; omega, by show 0 < s.rng - c; omega, by show s.rng - c < _; omega, by show s.low + c + (s.rng - c) ≤ _; omega,
    fun h => a5 (by have h' : 4294967296 < s.low + c + (s.rng - c) := h; omega), a6, a7, a8, hB, by rw [hl]; exact a10, by show val n' + (s.rng - c) ≤ 4294967295 * 256 ^ moved s; omega, by show val n' = val (pre s) * 4294967296 + (s.low + c); omega⟩

theorem val_snoc (l : List Int) (b : Int) : val (l ++ [b]) = val l * 256 + b := by rw [val_append]; simp [val]

/-- The carry moves into the bytes that wait. -/
theorem carry_up (c x : Int) (n : Nat) : val ((c + 1) :: List.replicate n 0) = val (c :: List.replicate n 255) + 1 + x - x := by
  rw [val, val, val_rep0, val_rep255, List.length_replicate, List.length_replicate, Int.add_mul]; omega

theorem pre_settle {s : EncSt} {n : List Int} (h : Tells s n) : val (0 :: (s.out ++ settled s)) = val (pre s) + s.low / 4294967296 := by
  obtain ⟨a1, a2, a3, a4, a5, a6, a7, a8, a9, a10, a11, a12⟩ := h
  rcases (show s.low / 4294967296 = 0 ∨ s.low / 4294967296 = 1 by omega) with h0 | h1
  · have e : settled s = (if s.started then [s.cache] else []) ++ List.replicate s.pending 255 := by
      unfold settled
      rw [h0, Int.add_zero, Int.add_zero, Int.emod_eq_of_lt a6 a7]
      rfl
    rw [e, h0, Int.add_zero]; rfl
  · obtain ⟨hst, hca⟩ := a5 (by omega)
    have e : settled s = (s.cache + 1) :: List.replicate s.pending 0 := by
      unfold settled
      rw [h1, hst, Int.emod_eq_of_lt (by omega) (by omega)]
      rfl
    have e2 : pre s = 0 :: (s.out ++ (s.cache :: List.replicate s.pending 255)) := by unfold pre; rw [hst]; rfl
    rw [e, e2, h1, ← List.cons_append, ← List.cons_append, val_append, val_append, carry_up s.cache 0]
    simp only [List.length_cons, List.length_replicate]
    omega

theorem settled_bytes {s : EncSt} : Bytes (settled s) := by
  unfold settled
  refine bytes_append ?_ (bytes_rep (by omega) (by omega))
  cases s.started
  · intro b hb; simp at hb
  · intro b hb
    have : b = (s.cache + s.low / 4294967296) % 256 := by simpa using hb
    omega

theorem tells_lift {s : EncSt} {n : List Int} (h : Tells s n) (hr : s.rng < 16777216) : Tells (lift1 s) (n ++ [0]) := by
  have hpre := pre_settle h
  obtain ⟨a1, a2, a3, a4, a5, a6, a7, a8, a9, a10, a11, a12⟩ := h
  have bn' : Bytes (n ++ [0]) := bytes_append a9 (bytes_rep (n := 1) (c := 0) (by omega) (by omega))
  have hv : val (n ++ [0]) = val n * 256 := by rw [val_snoc]; omega
  rcases hs : settles s.low with _ | _
  · -- pending
    have hlo : 4278190080 ≤ s.low ∧ s.low < 4294967296 := by simp only [settles, Bool.or_eq_false_iff, decide_eq_false_iff_not] at hs; omega
    have e : lift1 s = { low := s.low % 16777216 * 256, rng := s.rng * 256, cache := s.cache, pending := s.pending + 1, started := s.started, out := s.out } := by
      exact shift_no (s := { s with rng := s.rng * 256 }) hs
    rw [e]
    have hmv : moved { low := s.low % 16777216 * 256, rng := s.rng * 256, cache := s.cache, pending := s.pending + 1, started := s.started, out := s.out } = moved s + 1 := by simp only [moved]; omega
    have hpr : val (pre { low := s.low % 16777216 * 256, rng := s.rng * 256, cache := s.cache, pending := s.pending + 1, started := s.started, out := s.out }) = val (pre s) * 256 + 255 := by
      have : pre { low := s.low % 16777216 * 256, rng := s.rng * 256, cache := s.cache, pending := s.pending + 1, started := s.started, out := s.out } = pre s ++ [255] := by
        simp only [pre, List.replicate_succ', List.cons_append, List.append_assoc]
      rw [this, val_snoc]
    refine ⟨by show 0 ≤ s.low % 16777216 * 256; omega, by show 0 < s.rng * 256; omega, by show s.rng * 256 < _; omega, by show s.low % 16777216 * 256 + s.rng * 256 ≤ _; omega,
      fun h => a5 (by have h' : 4294967296 < s.low % 16777216 * 256 + s.rng * 256 := h; omega), a6, a7, a8, bn', by rw [hmv, List.length_append, a10]; rfl, ?_, ?_⟩
    · rw [hv, hmv, Int.pow_succ]
      show val n * 256 + s.rng * 256 ≤ _
      generalize (256 : Int) ^ moved s = q at a11
      omega
    · rw [hv, hpr]
      show val n * 256 = (val (pre s) * 256 + 255) * 4294967296 + s.low % 16777216 * 256
      omega
  · -- settled
    have e : lift1 s = { low := s.low % 16777216 * 256, rng := s.rng * 256, cache := s.low / 16777216 % 256, pending := 0, started := true, out := s.out ++ settled s } := by
      exact shift_yes (s := { s with rng := s.rng * 256 }) hs
    rw [e]
    have hlen : (settled s).length = (if s.started then 1 else 0) + s.pending := by
      unfold settled; cases s.started <;> simp <;> omega
    have hmv : moved { low := s.low % 16777216 * 256, rng := s.rng * 256, cache := s.low / 16777216 % 256, pending := 0, started := true, out := s.out ++ settled s } = moved s + 1 := by
      simp only [moved, List.length_append, hlen]; simp
    have hpr : val (pre { low := s.low % 16777216 * 256, rng := s.rng * 256, cache := s.low / 16777216 % 256, pending := 0, started := true, out := s.out ++ settled s }) = (val (pre s) + s.low / 4294967296) * 256 + s.low / 16777216 % 256 := by
      have : pre { low := s.low % 16777216 * 256, rng := s.rng * 256, cache := s.low / 16777216 % 256, pending := 0, started := true, out := s.out ++ settled s } = (0 :: (s.out ++ settled s)) ++ [s.low / 16777216 % 256] := by
        simp [pre]
      rw [this, val_snoc, hpre]
    have hse : s.low % 4294967296 < 4278190080 ∨ 4294967296 ≤ s.low := by simpa [settles] using hs
    refine ⟨by show 0 ≤ s.low % 16777216 * 256; omega, by show 0 < s.rng * 256; omega, by show s.rng * 256 < _; omega, by show s.low % 16777216 * 256 + s.rng * 256 ≤ _; omega,
      fun h => ⟨rfl, by have h' : 4294967296 < s.low % 16777216 * 256 + s.rng * 256 := h
                        show s.low / 16777216 % 256 < 255
                        omega⟩, by show 0 ≤ s.low / 16777216 % 256; omega, by show s.low / 16777216 % 256 < 256; omega, bytes_append a8 settled_bytes, bn', by rw [hmv, List.length_append, a10]; rfl, ?_, ?_⟩
    · rw [hv, hmv, Int.pow_succ]
      show val n * 256 + s.rng * 256 ≤ _
      generalize (256 : Int) ^ moved s = q at a11
      omega
    · rw [hv, hpr]
      show val n * 256 = ((val (pre s) + s.low / 4294967296) * 256 + s.low / 16777216 % 256) * 4294967296 + s.low % 16777216 * 256
      omega

/-- At the end the bytes are the number's own. -/
theorem tells_end {s : EncSt} {n e : List Int} (h : Tells s n) (hl : e.length = (pre s ++ [0, 0, 0, 0]).length) (hB : Bytes e) (hv : val e = (val (pre s ++ [0, 0, 0, 0]) + s.low) % 256 ^ (pre s ++ [0, 0, 0, 0]).length) : e = n := by
  have hlt := room_lt h
  have hn := val_bd h.bn
  have hr := h.r0
  have hlen : (pre s ++ [0, 0, 0, 0]).length = n.length := by rw [List.length_append, pre_length, h.len]; rfl
  have hval : val (pre s ++ [0, 0, 0, 0]) + s.low = val n := by
    rw [val_append, h.num]
    have : val [0, 0, 0, 0] = 0 := by decide
    rw [this]
    show val (pre s) * 256 ^ 4 + 0 + s.low = _
    have : (256 : Int) ^ 4 = 4294967296 := by decide
    rw [this]; omega
  rw [hlen] at hl hv
  rw [hval, Int.emod_eq_of_lt hn.1 hn.2] at hv
  exact val_inj hB h.bn hl hv

theorem moved_lift (s : EncSt) : moved (lift1 s) = moved s + 1 := by
  unfold lift1 shiftSt
  split
  · simp only [moved, settled, List.length_append]
    cases s.started <;> simp <;> omega
  · simp only [moved]; omega
theorem moved_narrow (s : EncSt) (p bit : Int) : moved (narrow s p bit) = moved s := by
  unfold narrow; split <;> rfl

end Go.Proofs.Qxb6618439a
