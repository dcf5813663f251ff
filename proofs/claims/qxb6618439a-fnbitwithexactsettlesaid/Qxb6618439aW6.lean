import Derived.Test.Qxb6618439aW5
import Derived.Test.Qxb6618439aVal
import Derived.Deep.QuietTactic
import Derived.BigQuiet
namespace Go.Proofs.Qxb6618439a
open Go.RowKit

theorem Own.set {w : World} {g cap n : Nat} {bs : List Int} (h : Own w (.slice (some ⟨g, 0, none⟩) n cap) bs) (i : Nat) (c : Int) : Own (w.setCell ⟨g, i, none⟩ (.int .u8 c)) (.slice (some ⟨g, 0, none⟩) n cap) (bs.set i c) := by
  rcases h.cases with ⟨h1, _⟩ | ⟨g', cap', cur, h1, hg, h4, h5, h6, h7⟩
  · simp at h1
  · simp only [Value.slice.injEq, Option.some.injEq, Addr.mk.injEq, and_true] at h1
    obtain ⟨rfl, rfl, rfl⟩ := h1
    have e : (bs.set i c).length = bs.length := by simp
    have hm := Own.mk (w := w.setCell ⟨g, i, none⟩ (.int .u8 c)) (bs := bs.set i c) (heap_setCell_same w g i cur 5 _ hg) (by rw [e]; exact h4) h5 (by rw [Array.size_setIfInBounds]; exact h6) (by rw [e, Array.toList_setIfInBounds, List.take_set, h7, List.map_set])
    rw [e] at hm
    exact hm

/-- What the addition leaves. -/
def Added (w : World) (v : Value) (bs : List Int) (x : Int) (w' : World) : Prop :=
  ∃ bs', Own w' v bs' ∧ bs'.length = bs.length ∧ Bytes bs' ∧ val bs' = (val bs + x) % 256 ^ bs.length ∧ Touch (fun k => v.ownBlock = some k) w w'

set_option maxRecDepth 100000 in
set_option maxHeartbeats 400000 in
theorem add_any (v : Value) (bs : List Int) (x : Int) (w : World) (hO : Hid (Own w v bs)) (hB : Hid (Bytes bs)) (hl : bs.length ≤ 16777216) (h0 : 0 ≤ x) (h1 : x < 18446744073709551616) :
    Calls Try.prog 11 #[v, .int .u64 x] w fun e w' => e = .returned (.tuple #[]) ∧ Added w v bs x w' := by
  rcases hO.out.cases with ⟨rfl, rfl⟩ | ⟨g, cap, cur, rfl, hg, hlc, hm, hs, ht⟩
  · go_enter Try.func11, Try.ntmps11
    go_wp2
    refine wp_loop_rounds 1 ?_
    rw [rounds_succ]
    go_wp2
    go_end0
    exact ⟨rfl, [], hO.out, rfl, hB.out, by simp [val], Touch.refl _ _⟩
  · clear cur hg hs ht
    go_enter Try.func11, Try.ntmps11
    go_wp2
    go_loopw [4, 5] (fun i c wr => ∃ (k : Nat) (cc : Int) (l : List Int), i = .int .i64 ((k : Int) - 1) ∧ c = .int .u64 cc ∧ 0 ≤ cc ∧ cc < 18446744073709551616 ∧ k ≤ l.length ∧ l.length = bs.length ∧ Hid (Bytes l) ∧ Hid (val l + cc * 256 ^ (l.length - k) = val bs + x) ∧ Hid (Own wr (.slice (some ⟨g, 0, none⟩) bs.length cap) l) ∧ Hid (Touch (fun k => k = g) w wr)) (fun i _ _ => (intOf i + 1).toNat)
    case atStart => exact ⟨bs.length, x, bs, rfl, rfl, h0, h1, Nat.le_refl _, rfl, hB, by rw [Hid, Nat.sub_self]; simp, hO, Touch.refl _ _⟩
    case round =>
      obtain ⟨k, cc, l, rfl, rfl, hc0, hc1, hk, hll, hBl, hval, hOl, hT⟩ := hrel
      rcases k with _ | k
      · go_wp2
        go_end0
        exact ⟨rfl, l, hOl.out, hll, hBl.out, by rw [add_end hBl.out hk hval.out (.inl rfl), hll], hT.out.mono (fun i _ e => by rw [e]; rfl)⟩
      · obtain ⟨d, hd⟩ : ∃ d, l[k]? = some d := ⟨l[k], List.getElem?_eq_getElem (by omega)⟩
        have hcell := hOl.out.cell hd
        have hfz := hOl.out.free k
        obtain ⟨hd0, hd1⟩ := hBl.out d (List.mem_of_getElem? hd)
        have HD := hide hd
        have hm8 := mask8 cc hc0 hc1
        clear hd
        by_cases hz : cc = 0
        · subst hz
          clear hm8
          go_wp2
          go_end0
          exact ⟨rfl, l, hOl.out, hll, hBl.out, by rw [add_end hBl.out hk hval.out (.inr rfl), hll], hT.out.mono (fun i _ e => by rw [e]; rfl)⟩
        · have hz' : (cc != 0) = true := by simpa using hz
          go_wp2
          go_roundw
          case rel =>
            refine ⟨k, cc / 256 + (d + cc % 256) / 256, l.set k ((d + cc) % 256), by go_num, rfl, by omega, by omega, by rw [List.length_set]; omega, by rw [List.length_set]; exact hll, bytes_set hBl.out _ (by omega) (by omega), ?_, hOl.out.set k _, hT.out.setCell (fun _ => rfl) _⟩
            rw [Hid, List.length_set, show (d + cc) % 256 = (d + cc % 256) % 256 from by omega]
            exact add_step HD.out _ hval.out
          case measure => simp [intOf]
end Go.Proofs.Qxb6618439a
