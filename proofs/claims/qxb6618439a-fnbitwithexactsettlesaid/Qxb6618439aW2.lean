import Derived.Test.Qxb6618439aW1
namespace Go.Proofs.Qxb6618439a
open Go.RowKit

/-- What Grow leaves: the same bytes, room for n more; nothing that was there has turned. -/
def Grew (w : World) (v : Value) (bs : List Int) (n : Nat) (v' : Value) (w' : World) : Prop :=
  Own w' v' bs ∧ bs.length + n ≤ capOf v' ∧ capOf v' ≤ max (capOf v) (2 * (bs.length + n)) ∧ Touch (fun _ => False) w w' ∧ (v' = v ∨ ∀ g, v'.ownBlock = some g → w.heap.size ≤ g)

theorem made_size (C : Nat) : (madeCells #[Value.int IntKind.u8 0] C).size = C := size_madeCells _ _

/-- A new row, filled by a copy. -/
theorem own_copied (w : World) (C : Nat) (bs : List Int) (hC : bs.length ≤ C) (hm : C ≤ maxLen) :
    Own ((w.alloc (.cells (madeCells #[Value.int IntKind.u8 0] C) 5)).setRow w.heap.size (((madeCells #[Value.int IntKind.u8 0] C).toList.take 0 ++ bs.map (Value.int .u8) ++ (madeCells #[Value.int IntKind.u8 0] C).toList.drop (0 + (bs.map (Value.int .u8)).length)).toArray)) (.slice (some ⟨w.heap.size, 0, none⟩) bs.length C) bs := by
  refine Own.mk (setRow_heap _ _ _ _ _ _ (heap_alloc_new w _)) hC hm ?_ ?_
  · simp [made_size]; omega
  · simp

set_option maxRecDepth 100000 in
set_option maxHeartbeats 400000 in
theorem grow_any (v : Value) (bs : List Int) (n : Nat) (w : World) (hO : Hid (Own w v bs)) (hn : 1 ≤ n) (hn2 : n ≤ 16777216) (hb : bs.length ≤ 16777216) (hc : capOf v ≤ 67108864) :
    Calls Try.prog 15 #[v, .int .i64 n] w fun e w' => ∃ v', e = .returned v' ∧ Grew w v bs n v' w' := by
  obtain ⟨i0, hi, hz0, hz1, hz2⟩ := info_parts info5
  rcases hO.out.cases with ⟨rfl, rfl⟩ | ⟨g, cap, cur, rfl, hg, hl, hm, hs, ht⟩
  · have hmk := fun wx => run_make (P := Try.prog) wx 24 5 i0 (.int .u8 0) Try.underlying24 hi hz0 .i64 .i64 0 n (by omega) (by omega) (by rw [hz2]; omega) (by omega)
    rw [hz1, Nat.mul_one, Int.toNat_natCast, show (0 : Int).toNat = 0 from rfl] at hmk
    have hcp := fun wx x => run_copy_none (P := Try.prog) wx 24 24 3 5 (some x) none 0 n 0 0 Try.underlying24 size5 rfl
    clear hi hz0 hz1 hz2
    go_enter Try.func15, Try.ntmps15
    go_wp2
    go_ret
    refine ⟨_, rfl, ?_, ?_, ?_, (Touch.refl _ _).alloc _, .inr ?_⟩
    · exact Own.mk (bs := []) (heap_alloc_new w _) (Nat.zero_le _) (by unfold maxLen; omega) (made_size n) rfl
    · show 0 + n ≤ n; omega
    · show n ≤ max 0 (2 * (0 + n)); omega
    · intro k hk
      have : w.heap.size = k := by simpa [Value.ownBlock] using hk
      omega
  · have hc' : cap ≤ 67108864 := hc
    by_cases hroom : bs.length + n ≤ cap
    · go_enter Try.func15, Try.ntmps15
      go_wp2
      go_ret
      exact ⟨_, rfl, hO.out, hroom, Nat.le_max_left _ _, Touch.refl _ _, .inl rfl⟩
    · obtain ⟨C, hC, hC1, hC2⟩ : ∃ C : Nat, C = max (2 * cap) (bs.length + n) ∧ bs.length + n ≤ C ∧ C ≤ 2 * (bs.length + n) := ⟨_, rfl, by omega, by omega⟩
      have hmk := fun wx => run_make (P := Try.prog) wx 24 5 i0 (.int .u8 0) Try.underlying24 hi hz0 .i64 .i64 bs.length C (by omega) (by omega) (by rw [hz2]; omega) (by omega)
      rw [hz1, Nat.mul_one, Int.toNat_natCast, Int.toNat_natCast] at hmk
      clear hi hz0 hz1 hz2
      have hgl : g < w.heap.size := lt_of_block hg
      have hcp := run_copy_row (P := Try.prog) (w.alloc (.cells (madeCells #[Value.int IntKind.u8 0] C) 5)) 24 24 3 5 w.heap.size 0 bs.length C ⟨g, 0, none⟩ bs.length cap (madeCells #[Value.int IntKind.u8 0] C) 5 (bs.map (Value.int .u8)) Try.underlying24 size5
        (heap_alloc_new w _) (by simp) (fun j v hv => by
          rw [Addr.add_lit, Nat.zero_add, World.cell?_alloc_past _ _ _ hgl]
          rw [List.getElem?_map] at hv
          obtain ⟨c, hc1, rfl⟩ := Option.map_eq_some_iff.1 hv
          exact hO.out.cell hc1) (by rw [made_size, List.length_map]; omega) (ints_oneCell _ _)
      have hown := own_copied w C bs (by omega) (by unfold maxLen; omega)
      have htch : Touch (fun _ => False) w ((w.alloc (.cells (madeCells #[Value.int IntKind.u8 0] C) 5)).setRow w.heap.size (((madeCells #[Value.int IntKind.u8 0] C).toList.take 0 ++ bs.map (Value.int .u8) ++ (madeCells #[Value.int IntKind.u8 0] C).toList.drop (0 + (bs.map (Value.int .u8)).length)).toArray)) :=
        ((Touch.refl _ _).alloc _).setRow (fun h => by omega) _
      generalize ((w.alloc (.cells (madeCells #[Value.int IntKind.u8 0] C) 5)).setRow w.heap.size (((madeCells #[Value.int IntKind.u8 0] C).toList.take 0 ++ bs.map (Value.int .u8) ++ (madeCells #[Value.int IntKind.u8 0] C).toList.drop (0 + (bs.map (Value.int .u8)).length)).toArray)) = w2 at hcp hown htch
      have HO := hide hown
      have HT := hide htch
      have HC : Hid (C = max (2 * cap) (bs.length + n)) := hC
      clear hown htch
      by_cases hmx : bs.length + n ≤ 2 * cap
      · rw [show ((C : Nat) : Int) = 2 * (cap : Int) from by omega] at hmk
        clear hC
        go_enter Try.func15, Try.ntmps15
        go_wp2
        go_ret
        refine ⟨_, rfl, HO.out, hC1, ?_, HT.out, .inr ?_⟩
        · show C ≤ max cap (2 * (bs.length + n)); omega
        · intro k hk
          have : w.heap.size = k := by simpa [Value.ownBlock] using hk
          omega
      · rw [show ((C : Nat) : Int) = (bs.length : Int) + (n : Int) from by omega] at hmk
        clear hC
        go_enter Try.func15, Try.ntmps15
        go_wp2
        go_ret
        refine ⟨_, rfl, HO.out, hC1, ?_, HT.out, .inr ?_⟩
        · show C ≤ max cap (2 * (bs.length + n)); omega
        · intro k hk
          have : w.heap.size = k := by simpa [Value.ownBlock] using hk
          omega
end Go.Proofs.Qxb6618439a
