import Derived.Test.Qxb6618390aW3
import Derived.Test.Qxb6618390aCut
namespace Go.Proofs.Qxb6618390a
open Go.RowKit

set_option maxHeartbeats 400000 in
theorem law2_long (a b : ByteArray) (w : World) (hm : a.size ≤ maxLen) (hm2 : b.size ≤ maxLen) (h : 65536 < a.size ∨ 65536 < b.size) :
    Calls Try.prog 4 #[.string a, .string b] w fun e w' => e = .returned (.bool true) ∧ Below w.heap.size w w' := by
  unfold maxLen at hm hm2
  rcases h with h | h
  · go_enter Try.func4, Try.ntmps4
    go_wp2
    all_goals (go_ret; exact ⟨rfl, Below.refl _ _⟩)
  · by_cases h2 : 65536 < a.size
    all_goals
      go_enter Try.func4, Try.ntmps4
      go_wp2
      all_goals (go_ret; exact ⟨rfl, Below.refl _ _⟩)

/-- ZZhexValue at a value that has a name. -/
theorem zzHex_at (s : ByteArray) (V : Int) (B : Bool) (hV : hexV s.data.toList = V) (hB : hexAll s.data.toList = B) (w : World) (hs : s.size ≤ 131072) :
    Calls Try.prog 6 #[.string s] w fun e w' => e = .returned (.tuple #[.int .i32 V, .bool B]) ∧ Below w.heap.size w w' := by
  rw [← hV, ← hB]; exact zzHex_any s w hs
theorem allHex_at (s : ByteArray) (B : Bool) (hB : hexAll s.data.toList = B) (w : World) (hs : s.size ≤ 131072) :
    Calls Try.prog 7 #[.string s] w fun e w' => e = .returned (.bool B) ∧ w' = w := by
  rw [← hB]; exact allHex_any s w hs

set_option maxHeartbeats 400000 in
theorem law2_tt (a b : ByteArray) (w : World) (h1 : a.size ≤ 65536) (h2 : b.size ≤ 65536) (A B C S : Int)
    (ha : Hid (hexAll a.data.toList = true)) (hb : Hid (hexAll b.data.toList = true)) (hab : Hid (hexAll (a ++ b).data.toList = true))
    (hA : Hid (hexV a.data.toList = A)) (hB : Hid (hexV b.data.toList = B)) (hC : Hid (hexV (a ++ b).data.toList = C))
    (hsh : Op.shift .shl .i32 A .u64 (4 * (b.size : Int)) = pure (.int .i32 S)) (hor : bits .or .i32 S B = C)
    (hand : (hp : 0 < b.size) → bits .and .i32 C 15 = dv ((b[b.size - 1]'(by omega)).toNat : Int))
    (hnil : ¬ 0 < b.size → (C != bits .or .i32 (wrap32 (A * 2 ^ (4 * b.size))) B) = false) :
    Calls Try.prog 4 #[.string a, .string b] w fun e w' => e = .returned (.bool true) ∧ Below w.heap.size w w' := by
  have hsz : (a ++ b).size = a.size + b.size := by simp
  have HS : Hid ((a ++ b).size = a.size + b.size) := hsz
  clear hsz
  by_cases hp : 0 < b.size
  · have hand' := hand hp
    clear hand hnil
    go_enter Try.func4, Try.ntmps4
    go_wp2_with (go_at_call 9; go_in)
    refine (zzHex_at _ A true hA.out ha.out _ (by omega)).mono ?_
    rintro e w1 ⟨rfl, hb1⟩
    go_wp2_with fail
    refine (zzHex_at _ B true hB.out hb.out _ (by omega)).mono ?_
    rintro e w2 ⟨rfl, hb2⟩
    go_wp2_with fail
    refine (zzHex_at _ C true hC.out hab.out _ (by have := HS.out; omega)).mono ?_
    rintro e w3 ⟨rfl, hb3⟩
    have hbb := (hb1.trans (hb2.mono hb1.size)).trans (hb3.mono (Nat.le_trans hb1.size hb2.size))
    clear hb1 hb2 hb3
    go_wp2_with fail
    refine (allHex_at _ true ha.out _ (by omega)).mono ?_
    rintro e w4 ⟨rfl, rfl⟩
    go_wp2_with fail
    refine (allHex_at _ true hb.out _ (by omega)).mono ?_
    rintro e w5 ⟨rfl, rfl⟩
    go_wp2_with fail
    refine (hexDigit_any _ _).mono ?_
    rintro e w6 ⟨rfl, rfl⟩
    go_wp2
    go_ret
    exact ⟨rfl, hbb⟩
  · have hnil' := hnil hp
    clear hand hnil hsh hor
    go_enter Try.func4, Try.ntmps4
    go_wp2_with (go_at_call 9; go_in)
    refine (zzHex_at _ A true hA.out ha.out _ (by omega)).mono ?_
    rintro e w1 ⟨rfl, hb1⟩
    go_wp2_with fail
    refine (zzHex_at _ B true hB.out hb.out _ (by omega)).mono ?_
    rintro e w2 ⟨rfl, hb2⟩
    go_wp2_with fail
    refine (zzHex_at _ C true hC.out hab.out _ (by have := HS.out; omega)).mono ?_
    rintro e w3 ⟨rfl, hb3⟩
    have hbb := (hb1.trans (hb2.mono hb1.size)).trans (hb3.mono (Nat.le_trans hb1.size hb2.size))
    clear hb1 hb2 hb3
    go_wp2_with fail
    refine (allHex_at _ true ha.out _ (by omega)).mono ?_
    rintro e w4 ⟨rfl, rfl⟩
    go_wp2_with fail
    refine (allHex_at _ true hb.out _ (by omega)).mono ?_
    rintro e w5 ⟨rfl, rfl⟩
    go_wp2
    go_ret
    exact ⟨rfl, hbb⟩

set_option maxHeartbeats 400000 in
theorem law2_ff (a b : ByteArray) (w : World) (h1 : a.size ≤ 65536) (h2 : b.size ≤ 65536) 
    (ha : Hid (hexAll a.data.toList = false)) (hb : Hid (hexAll b.data.toList = false)) (hab : Hid (hexAll (a ++ b).data.toList = false))
    (hA : Hid (hexV a.data.toList = 0)) (hB : Hid (hexV b.data.toList = 0)) (hC : Hid (hexV (a ++ b).data.toList = 0)) :
    Calls Try.prog 4 #[.string a, .string b] w fun e w' => e = .returned (.bool true) ∧ Below w.heap.size w w' := by
  have hsz : (a ++ b).size = a.size + b.size := by simp
  have HS : Hid ((a ++ b).size = a.size + b.size) := hsz
  clear hsz
  go_enter Try.func4, Try.ntmps4
  go_wp2_with (go_at_call 9; go_in)
  refine (zzHex_at _ 0 false hA.out ha.out _ (by omega)).mono ?_
  rintro e w1 ⟨rfl, hb1⟩
  go_wp2_with fail
  refine (zzHex_at _ 0 false hB.out hb.out _ (by omega)).mono ?_
  rintro e w2 ⟨rfl, hb2⟩
  go_wp2_with fail
  refine (zzHex_at _ 0 false hC.out hab.out _ (by have := HS.out; omega)).mono ?_
  rintro e w3 ⟨rfl, hb3⟩
  have hbb := (hb1.trans (hb2.mono hb1.size)).trans (hb3.mono (Nat.le_trans hb1.size hb2.size))
  clear hb1 hb2 hb3
  go_wp2_with fail
  refine (allHex_at _ false ha.out _ (by omega)).mono ?_
  rintro e w4 ⟨rfl, rfl⟩
  go_wp2_with fail
  refine (allHex_at _ false hb.out _ (by omega)).mono ?_
  rintro e w5 ⟨rfl, rfl⟩
  go_wp2
  go_ret
  exact ⟨rfl, hbb⟩

set_option maxHeartbeats 400000 in
theorem law2_ft (a b : ByteArray) (w : World) (h1 : a.size ≤ 65536) (h2 : b.size ≤ 65536) (V : Int)
    (ha : Hid (hexAll a.data.toList = false)) (hb : Hid (hexAll b.data.toList = true)) (hab : Hid (hexAll (a ++ b).data.toList = false))
    (hA : Hid (hexV a.data.toList = 0)) (hB : Hid (hexV b.data.toList = V)) (hC : Hid (hexV (a ++ b).data.toList = 0)) :
    Calls Try.prog 4 #[.string a, .string b] w fun e w' => e = .returned (.bool true) ∧ Below w.heap.size w w' := by
  have hsz : (a ++ b).size = a.size + b.size := by simp
  have HS : Hid ((a ++ b).size = a.size + b.size) := hsz
  clear hsz
  go_enter Try.func4, Try.ntmps4
  go_wp2_with (go_at_call 9; go_in)
  refine (zzHex_at _ 0 false hA.out ha.out _ (by omega)).mono ?_
  rintro e w1 ⟨rfl, hb1⟩
  go_wp2_with fail
  refine (zzHex_at _ V true hB.out hb.out _ (by omega)).mono ?_
  rintro e w2 ⟨rfl, hb2⟩
  go_wp2_with fail
  refine (zzHex_at _ 0 false hC.out hab.out _ (by have := HS.out; omega)).mono ?_
  rintro e w3 ⟨rfl, hb3⟩
  have hbb := (hb1.trans (hb2.mono hb1.size)).trans (hb3.mono (Nat.le_trans hb1.size hb2.size))
  clear hb1 hb2 hb3
  go_wp2_with fail
  refine (allHex_at _ false ha.out _ (by omega)).mono ?_
  rintro e w4 ⟨rfl, rfl⟩
  go_wp2_with fail
  refine (allHex_at _ true hb.out _ (by omega)).mono ?_
  rintro e w5 ⟨rfl, rfl⟩
  go_wp2
  go_ret
  exact ⟨rfl, hbb⟩

set_option maxHeartbeats 400000 in
theorem law2_tf (a b : ByteArray) (w : World) (h1 : a.size ≤ 65536) (h2 : b.size ≤ 65536) (V : Int)
    (ha : Hid (hexAll a.data.toList = true)) (hb : Hid (hexAll b.data.toList = false)) (hab : Hid (hexAll (a ++ b).data.toList = false))
    (hA : Hid (hexV a.data.toList = V)) (hB : Hid (hexV b.data.toList = 0)) (hC : Hid (hexV (a ++ b).data.toList = 0)) :
    Calls Try.prog 4 #[.string a, .string b] w fun e w' => e = .returned (.bool true) ∧ Below w.heap.size w w' := by
  have hsz : (a ++ b).size = a.size + b.size := by simp
  have HS : Hid ((a ++ b).size = a.size + b.size) := hsz
  clear hsz
  go_enter Try.func4, Try.ntmps4
  go_wp2_with (go_at_call 9; go_in)
  refine (zzHex_at _ V true hA.out ha.out _ (by omega)).mono ?_
  rintro e w1 ⟨rfl, hb1⟩
  go_wp2_with fail
  refine (zzHex_at _ 0 false hB.out hb.out _ (by omega)).mono ?_
  rintro e w2 ⟨rfl, hb2⟩
  go_wp2_with fail
  refine (zzHex_at _ 0 false hC.out hab.out _ (by have := HS.out; omega)).mono ?_
  rintro e w3 ⟨rfl, hb3⟩
  have hbb := (hb1.trans (hb2.mono hb1.size)).trans (hb3.mono (Nat.le_trans hb1.size hb2.size))
  clear hb1 hb2 hb3
  go_wp2_with fail
  refine (allHex_at _ true ha.out _ (by omega)).mono ?_
  rintro e w4 ⟨rfl, rfl⟩
  go_wp2_with fail
  refine (allHex_at _ false hb.out _ (by omega)).mono ?_
  rintro e w5 ⟨rfl, rfl⟩
  go_wp2
  go_ret
  exact ⟨rfl, hbb⟩

theorem law2_any (a b : ByteArray) (w : World) (hm : a.size ≤ maxLen) (hm2 : b.size ≤ maxLen) :
    Calls Try.prog 4 #[.string a, .string b] w fun e w' => e = .returned (.bool true) ∧ Below w.heap.size w w' := by
  by_cases h : 65536 < a.size ∨ 65536 < b.size
  · exact law2_long a b w hm hm2 h
  · have h1 : a.size ≤ 65536 := by omega
    have h2 : b.size ≤ 65536 := by omega
    have hl : (a ++ b).data.toList = a.data.toList ++ b.data.toList := by simp
    have hbl : b.data.toList.length = b.size := by simp
    have hall : hexAll (a ++ b).data.toList = (hexAll a.data.toList && hexAll b.data.toList) := by rw [hl, hexAll_append]
    rcases ea : hexAll a.data.toList with _ | _ <;> rcases eb : hexAll b.data.toList with _ | _ <;> rw [ea, eb] at hall
    · exact law2_ff a b w h1 h2 ea eb hall (hexV_no ea) (hexV_no eb) (hexV_no hall)
    · exact law2_ft a b w h1 h2 _ ea eb hall (hexV_no ea) rfl (hexV_no hall)
    · exact law2_tf a b w h1 h2 _ ea eb hall rfl (hexV_no eb) (hexV_no hall)
    · refine law2_tt a b w h1 h2 _ _ _ (wrap32 (wrap32 (num a.data.toList) * 2 ^ min (4 * b.size) 32)) ea eb hall (hexV_yes ea) (hexV_yes eb) (hexV_yes hall) ?_ ?_ ?_ ?_
      · rw [shift_shl_any _ _ _ _ (by omega)]
        have e1 : (4 * (b.size : Int)).toNat = 4 * b.size := by omega
        rw [e1, show IntKind.i32.bits = 32 from rfl, IntKind.wrap_i32]; simp only [wrap32]
      · rw [hl]; exact cut_value _ _ _ (by rw [hbl])
      · intro hp
        rw [i32_and15, hl]; exact last_digit _ b hp _
      · intro hp
        have hz : b.size = 0 := by omega
        have := cut_value a.data.toList b.data.toList (4 * b.size) (by rw [hbl]; omega)
        rw [this, hl]; simp
end Go.Proofs.Qxb6618390a
