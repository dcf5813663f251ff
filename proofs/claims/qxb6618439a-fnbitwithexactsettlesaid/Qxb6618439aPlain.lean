/- Plain mathematics of the range encoder: no Go in sight. -/
import Derived.RowKit
namespace Go.Proofs.Qxb6618439a
open Go.RowKit

/-- The encoder's fields. -/
structure EncSt where
  low : Int
  rng : Int
  cache : Int
  pending : Nat
  started : Bool
  out : List Int

/-- May the top byte be settled? -/
def settles (low : Int) : Bool := decide (low % 4294967296 < 4278190080) || decide (4294967296 ≤ low)
/-- The bytes that a settling writes. -/
def settled (s : EncSt) : List Int :=
  (if s.started then [(s.cache + s.low / 4294967296) % 256] else []) ++ List.replicate s.pending ((255 + s.low / 4294967296) % 256)
/-- The top byte moves out of the start. -/
def shiftSt (s : EncSt) : EncSt :=
  if settles s.low then { low := s.low % 16777216 * 256, rng := s.rng, cache := s.low / 16777216 % 256, pending := 0, started := true, out := s.out ++ settled s }
  else { low := s.low % 16777216 * 256, rng := s.rng, cache := s.cache, pending := s.pending + 1, started := s.started, out := s.out }
/-- The range narrows. -/
def narrow (s : EncSt) (p bit : Int) : EncSt :=
  if bit = 0 then { s with rng := s.rng / 4096 * p } else { s with low := s.low + s.rng / 4096 * p, rng := s.rng - s.rng / 4096 * p }
/-- One byte more of range. -/
def lift1 (s : EncSt) : EncSt := shiftSt { s with rng := s.rng * 256 }
/-- As often as it is wanted, g times at most. -/
def lifts : Nat → EncSt → EncSt
  | 0, s => s
  | g + 1, s => if s.rng < 16777216 then lifts g (lift1 s) else s
def bitSt (s : EncSt) (p bit : Int) : EncSt := lifts 2 (narrow s p bit)

theorem shift_yes {s : EncSt} (h : settles s.low = true) : shiftSt s = { low := s.low % 16777216 * 256, rng := s.rng, cache := s.low / 16777216 % 256, pending := 0, started := true, out := s.out ++ settled s } := by
  simp [shiftSt, h]
theorem shift_no {s : EncSt} (h : settles s.low = false) : shiftSt s = { low := s.low % 16777216 * 256, rng := s.rng, cache := s.cache, pending := s.pending + 1, started := s.started, out := s.out } := by
  simp [shiftSt, h]
theorem shift_low (s : EncSt) : (shiftSt s).low = s.low % 16777216 * 256 := by unfold shiftSt; split <;> rfl
theorem shift_rng (s : EncSt) : (shiftSt s).rng = s.rng := by unfold shiftSt; split <;> rfl

end Go.Proofs.Qxb6618439a
