import Derived.Test.Qxb6618439aW7
namespace Go.Proofs.Qxb6618439a
open Go.RowKit

set_option maxRecDepth 100000 in
set_option maxHeartbeats 400000 in
theorem new_any (low rng cache : Int) (pending : Int) (started : Bool) (oa : Option Addr) (n oc : Nat) (w : World) :
    Calls Try.prog 7 #[.int .u64 low, .int .u32 rng, .int .u8 cache, .int .i64 pending, .bool started, .slice oa n oc] w fun e w' => e = .returned (.pointer (some ⟨w.heap.size, 0, none⟩)) ∧ w' = w.alloc (.cells #[.int .u64 low, .int .u32 rng, .int .u8 cache, .int .i64 pending, .bool started, .slice oa n oc] 40) := by
  go_enter Try.func7, Try.ntmps7
  go_wp2
  go_ret
  exact ⟨rfl, rfl⟩

set_option maxRecDepth 100000 in
set_option maxHeartbeats 400000 in
theorem state_any (E : Nat) (w0 : World) (v0 : Value) (s : EncSt) (oa : Option Addr) (oc : Nat) (w : World) (hE : Hid (Enc E w0 v0 s oa oc w)) :
    Calls Try.prog 9 #[.pointer (some ⟨E, 0, none⟩)] w fun e w' => e = .returned (.tuple #[.int .u64 s.low, .int .u32 s.rng, .int .u8 s.cache, .int .i64 s.pending, .bool s.started, .slice oa s.out.length oc]) ∧ ∃ n, w' = w.drewN n := by
  have c0 := hE.out.c0
  have c1 := hE.out.c1
  have c2 := hE.out.c2
  have c3 := hE.out.c3
  have c4 := hE.out.c4
  have c5 := hE.out.c5
  go_enter Try.func9, Try.ntmps9
  go_wp2_with fail
  go_quiet (fail)
  go_wp2_with fail
  refine bodyPost_ret (v := .tuple #[.int .u64 s.low, .int .u32 s.rng, .int .u8 s.cache, .int .i64 s.pending, .bool s.started, .slice oa s.out.length oc]) (by simp [results, Try.results9, go_sem]) rfl ⟨rfl, nq, rfl⟩
end Go.Proofs.Qxb6618439a
