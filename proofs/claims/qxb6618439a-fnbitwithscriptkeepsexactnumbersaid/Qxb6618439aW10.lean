import Derived.Test.Qxb6618439aW9
namespace Go.Proofs.Qxb6618439a
open Go.RowKit

set_option maxRecDepth 100000 in
set_option maxHeartbeats 400000 in
theorem script_long (a0 a1 : Option Addr) (n0 c0 n1 c1 : Nat) (w : World) (h0 : n0 ≤ maxLen) (h1 : n1 ≤ maxLen) (h : 65536 < n0 ∨ 65536 < n1) :
    Calls Try.prog 4 #[.slice a0 n0 c0, .slice a1 n1 c1] w fun e w' => e = .returned (.bool true) ∧ Below w.heap.size w w' := by
  unfold maxLen at h0 h1
  rcases h with h | h
  · go_enter Try.func4, Try.ntmps4
    go_wp2
    all_goals (go_ret; exact ⟨rfl, Below.refl _ _⟩)
  · by_cases h2 : 65536 < n0
    all_goals
      go_enter Try.func4, Try.ntmps4
      go_wp2
      all_goals (go_ret; exact ⟨rfl, Below.refl _ _⟩)

def okP (c : Int) : Prop := 1 ≤ c ∧ c < 4096
theorem okP_step {P : List Int} {k : Nat} {c : Int} (h : ∀ j d, j < k → P[j]? = some d → okP d) (hx : P[k]? = some c) (hc : okP c) : ∀ j d, j < k + 1 → P[j]? = some d → okP d := fun j d hj hd => by
  by_cases e : j = k
  · subst e
    rw [hx] at hd
    have : c = d := by simpa using hd
    subst this; exact hc
  · exact h j d (by omega) hd
theorem main_start (w : World) : Main w.heap.size w.heap.size w s0 none 0 (.slice (some ⟨w.heap.size + 1, 0, none⟩) 5 5) [0, 0, 0, 0, 0]
    ((w.alloc (.cells #[.int .u64 0, .int .u32 4294967295, .int .u8 0, .int .i64 0, .bool false, .slice none 0 0] 40)).alloc (.cells (madeCells #[Value.int IntKind.u8 0] 5) 5)) := by
  have ho := made_own (w.alloc (.cells #[.int .u64 0, .int .u32 4294967295, .int .u8 0, .int .i64 0, .bool false, .slice none 0 0] 40)) 5 (by unfold maxLen; omega)
  rw [World.size_alloc] at ho
  refine ⟨((Below.refl _ w).alloc (Nat.le_refl _) _).alloc (by simp) _, ?_, Own.nil _, fun g hg => by simp [Value.ownBlock] at hg, ho, fun g hg => ?_, fun g _ => by simp [Value.ownBlock], Nat.le_refl _, Nat.zero_le _⟩
  · rw [Below.heap_alloc _ _ _ (by simp)]
    exact heap_alloc_new w _
  · have : w.heap.size + 1 = g := by simpa [Value.ownBlock] using hg
    omega

/-- The end's bytes as far as the cache. -/
def pre1 (s : EncSt) : List Int := 0 :: (s.out ++ (if s.started then [s.cache] else []))
theorem pre1_no {s : EncSt} (h : s.started = false) : pre1 s = 0 :: s.out := by simp [pre1, h]
theorem pre1_yes {s : EncSt} (h : s.started = true) : pre1 s = (0 :: s.out) ++ [s.cache] := by simp [pre1, h]
theorem pre1_length (s : EncSt) : (pre1 s).length + s.pending + 4 = moved s + 5 := by
  unfold pre1 moved; cases s.started <;> simp <;> omega
theorem pre1_pre (s : EncSt) : pre1 s ++ List.replicate s.pending 255 = pre s := by simp [pre1, pre]

theorem pre_bytes {s : EncSt} {n : List Int} (h : Tells s n) : Bytes (pre s ++ [0, 0, 0, 0]) := by
  refine bytes_append ?_ (by unfold Bytes; decide)
  intro b hb
  rcases List.mem_cons.1 hb with rfl | hb
  · decide
  · refine bytes_append h.bo (bytes_append ?_ (bytes_rep (by decide) (by decide))) b hb
    cases hs : s.started
    · intro b hb; simp at hb
    · intro b hb
      have : b = s.cache := by simpa using hb
      rw [this]; exact ⟨h.c0, h.c1⟩

/-- While the end's bytes are put together, in a row G of their own. -/
structure Fin (B E : Nat) (w : World) (s : EncSt) (oa : Option Addr) (oc : Nat) (nv : Value) (nb : List Int) (G cap : Nat) (eb : List Int) (wx : World) : Prop where
  m : Main B E w s oa oc nv nb wx
  e : Own wx (.slice (some ⟨G, 0, none⟩) eb.length cap) eb
  g1 : nv.ownBlock ≠ some G
  g2 : Value.ownBlock (.slice oa s.out.length oc) ≠ some G
  gB : B ≤ G

theorem Main.other {B E : Nat} {w : World} {s : EncSt} {oa : Option Addr} {oc : Nat} {nv : Value} {nb : List Int} {wr w' : World} (h : Main B E w s oa oc nv nb wr) {S : Nat → Prop} (hT : Touch S wr w') (h1 : ¬ S E) (h2 : ∀ g, nv.ownBlock = some g → ¬ S g) (h3 : ∀ g, Value.ownBlock (.slice oa s.out.length oc) = some g → ¬ S g) (h4 : ∀ k, S k → B ≤ k) :
    Main B E w s oa oc nv nb w' :=
  ⟨hT.below h.bel h.size (fun k _ hk => h4 k hk), by rw [hT.block E (lt_of_block h.blk) h1]; exact h.blk, h.own.kept hT h3, h.ob, h.nown.kept hT h2, h.nbk, h.dis, h.hE, h.cap⟩
theorem Fin.neE {B E : Nat} {w : World} {s : EncSt} {oa : Option Addr} {oc : Nat} {nv : Value} {nb : List Int} {G cap : Nat} {eb : List Int} {wx : World} (h : Fin B E w s oa oc nv nb G cap eb wx) : E ≠ G := by
  intro e
  subst e
  rcases h.e.cases with ⟨h1, _⟩ | ⟨g, c', cur, h1, hh, _⟩
  · simp at h1
  · simp only [Value.slice.injEq, Option.some.injEq, Addr.mk.injEq, and_true, true_and] at h1
    obtain ⟨rfl, _⟩ := h1
    have hb := h.m.blk
    rw [hh] at hb; simp at hb
theorem Fin.step {B E : Nat} {w : World} {s : EncSt} {oa : Option Addr} {oc : Nat} {nv : Value} {nb : List Int} {G cap : Nat} {eb eb' : List Int} {wx w' : World} (h : Fin B E w s oa oc nv nb G cap eb wx) (hT : Touch (fun k => k = G) wx w') (hO : Own w' (.slice (some ⟨G, 0, none⟩) eb'.length cap) eb') :
    Fin B E w s oa oc nv nb G cap eb' w' :=
  ⟨h.m.other hT h.neE (fun g hg e => h.g1 (by rw [← e]; exact hg)) (fun g hg e => h.g2 (by rw [← e]; exact hg)) (fun k e => by rw [e]; exact h.gB), hO, h.g1, h.g2, h.gB⟩
theorem Fin.alloc {B E : Nat} {w : World} {s : EncSt} {oa : Option Addr} {oc : Nat} {nv : Value} {nb : List Int} {G cap : Nat} {eb : List Int} {wx : World} (h : Fin B E w s oa oc nv nb G cap eb wx) (o : Obj) : Fin B E w s oa oc nv nb G cap eb (wx.alloc o) :=
  h.step ((Touch.refl _ _).alloc o) (h.e.kept ((Touch.refl (fun _ => False) _).alloc o) (fun _ _ f => f))
theorem fin_start {B E : Nat} {w : World} {s : EncSt} {oa : Option Addr} {oc : Nat} {nv : Value} {nb : List Int} {wx : World} (h : Main B E w s oa oc nv nb wx) (cap : Nat) (hc : cap ≤ maxLen) :
    Fin B E w s oa oc nv nb wx.heap.size cap [] (wx.alloc (.cells (madeCells #[Value.int IntKind.u8 0] cap) 5)) :=
  ⟨h.alloc _, Own.mk (bs := []) (heap_alloc_new wx _) (Nat.zero_le _) hc (made_size cap) rfl, fun e => by have := h.nown.lt _ e; omega, fun e => by have := h.own.lt _ e; omega, h.size⟩

theorem row_new (wx : World) (H : Nat) (hH : wx.heap.size = H) (cs : List Int) : Row .u8 (wx.alloc (.cells (cs.map (Value.int .u8)).toArray 5)) (some ⟨H, 0, none⟩) cs := fun i c hc => by
  subst hH
  refine ⟨_, _, rfl, ?_⟩
  rw [Nat.zero_add, cell_of_row _ _ _ _ _ _ (heap_alloc_new wx _)]
  simp [hc]
theorem own_none {w : World} {oa : Option Addr} {n oc : Nat} {bs : List Int} (h : Own w (.slice oa n oc) bs) : oa = none → n = 0 ∧ oc = 0 := by
  intro e
  subst e
  rcases h.cases with ⟨h1, _⟩ | ⟨g, c', _, h1, _⟩
  · simp only [Value.slice.injEq, true_and] at h1; exact h1
  · simp at h1

set_option maxRecDepth 100000 in
set_option maxHeartbeats 400000 in
theorem script_walk (a0 a1 : Option Addr) (c0 c1 : Nat) (P Q : List Int) (w : World) (hP : Hid (Row .u32 w a0 P)) (hQ : Hid (Row .u32 w a1 Q)) (h0 : P.length ≤ 65536) (h1 : Q.length ≤ 65536)
    (bP : Hid (∀ c ∈ P, 0 ≤ c ∧ c < 4294967296)) (bQ : Hid (∀ c ∈ Q, 0 ≤ c ∧ c < 4294967296)) :
    Calls Try.prog 4 #[.slice a0 P.length c0, .slice a1 Q.length c1] w fun e w' => e = .returned (.bool true) ∧ Below w.heap.size w w' := by
  go_enter Try.func4, Try.ntmps4
  go_upto_if 37 with (go_at_call 13; go_in)
  go_cut [5] (fun x wx => ∃ N : Nat, x = .int .i64 N ∧ N ≤ P.length ∧ N ≤ Q.length ∧ w = wx)
  case first =>
    by_cases hlt : Q.length < P.length
    · go_wp2_with fail
      go_meet
      case rel => exact ⟨Q.length, rfl, by omega, by omega, rfl⟩
    · go_wp2_with fail
      go_meet
      case rel => exact ⟨P.length, rfl, by omega, by omega, rfl⟩
  case rest =>
    obtain ⟨N, rfl, hNP, hNQ, rfl⟩ := hcut
    go_upto_block 0 with fail
    go_cut [6] (fun _ wx => Hid (∀ j c, j < N → P[j]? = some c → okP c) ∧ w = wx)
    case first =>
      go_wp2_with fail
      go_loop [6] (fun i => ∃ k : Nat, i = .int .i64 k ∧ k ≤ N ∧ Hid (∀ j c, j < k → P[j]? = some c → okP c)) (fun i => N - (intOf i).toNat)
      case atStart => exact ⟨0, rfl, Nat.zero_le _, fun j c hj _ => absurd hj (Nat.not_lt_zero _)⟩
      case round =>
        obtain ⟨k, rfl, hk, hok⟩ := hrel
        by_cases hlt : k < N
        · obtain ⟨c, hx⟩ : ∃ c, P[k]? = some c := ⟨P[k], List.getElem?_eq_getElem (by omega)⟩
          obtain ⟨b, off, rfl⟩ := hP.out.addr (by omega)
          have hcell := hP.out.cell hx
          have hb := bP.out c (List.mem_of_getElem? hx)
          have HX := hide hx
          clear hx
          go_wp2_with fail
          · go_ret
            exact ⟨rfl, Below.refl _ _⟩
          · go_ret
            exact ⟨rfl, Below.refl _ _⟩
          · have h2 : (c == 0) = false ∧ c < 4096 := by assumption
            have h3 : ¬ c = 0 := by assumption
            go_round
            case rel => exact ⟨k + 1, by go_num, by omega, okP_step hok.out HX.out ⟨by omega, h2.2⟩⟩
            case measure => simp [intOf]; omega
        · go_wp2_with fail
          go_meet
          case rel => exact ⟨by obtain rfl : k = N := by omega
                                exact hok, rfl⟩
    case rest =>
      obtain ⟨hok, rfl⟩ := hcut
      go_wp2_with fail
      refine (new_any _ _ _ _ _ _ _ _ _).mono ?_
      rintro e w' ⟨rfl, rfl⟩
      have hmk : ∀ wx, (Instr.makeSlice 24 (.int .i64 5) (.int .i64 5)).run Try.prog wx = .ok (.slice (some ⟨wx.heap.size, 0, none⟩) 5 5) (wx.alloc (.cells (madeCells #[Value.int IntKind.u8 0] 5) 5)) := by
        obtain ⟨i0, hi, hz0, hz1, hz2⟩ := info_parts info5
        intro wx
        rw [run_make (P := Try.prog) wx 24 5 i0 (.int .u8 0) Try.underlying24 hi hz0 .i64 .i64 5 5 (by omega) (by omega) (by rw [hz2]; omega) (by omega), hz1]
        rfl
      go_wp2_with fail
      clear hmk
      have HM := hide (main_start w)
      go_loopw [8, 9, 10, 11, 12, 13] (fun nv wd i _ _ _ wr => ∃ (k : Nat) (s : EncSt) (oa : Option Addr) (oc : Nat) (na : Option Addr) (nc : Nat) (nb : List Int), nv = .slice na nb.length nc ∧ wd = .int .u32 s.rng ∧ i = .int .i64 k ∧ k ≤ N ∧ Hid (Main w.heap.size w.heap.size w s oa oc (.slice na nb.length nc) nb wr) ∧ Hid (Tells s nb) ∧ 16777216 ≤ s.rng ∧ moved s ≤ 2 * k) (fun _ _ i _ _ _ _ => N - (intOf i).toNat)
      case atStart => exact ⟨0, s0, none, 0, _, _, [0, 0, 0, 0, 0], rfl, rfl, rfl, Nat.zero_le _, HM, tells_start, by decide, by decide⟩
      case round =>
        clear HM
        obtain ⟨k, s, oa, oc, na, nc, nb, rfl, rfl, rfl, hk, hM, hT, hr, hmv⟩ := hrel
        by_cases hlt : k < N
        · obtain ⟨p, hx⟩ : ∃ c, P[k]? = some c := ⟨P[k], List.getElem?_eq_getElem (by omega)⟩
          obtain ⟨b, hy⟩ : ∃ c, Q[k]? = some c := ⟨Q[k], List.getElem?_eq_getElem (by omega)⟩
          obtain ⟨b0, off0, rfl⟩ := hP.out.addr (by omega)
          obtain ⟨b1, off1, rfl⟩ := hQ.out.addr (by omega)
          have hc1 := (hP.out.later hM.out.bel).cell hx
          have hc2 := (hQ.out.later hM.out.bel).cell hy
          have hpk := hok.out k p hlt hx
          have hbb := bQ.out b (List.mem_of_getElem? hy)
          have hsz : s.out.length + s.pending ≤ moved s := by unfold moved; omega
          have HB := hide (bit_any w.heap.size wr (.slice oa s.out.length oc) s oa oc wr p b hM.out.enc hM.out.cap hT.out.l0 hT.out.sum hr hT.out.r1 hpk.1 hpk.2 (by omega) (by omega))
          have hp1 := hpk.1
          have hp2 := hpk.2
          have hr1 := hT.out.r1
          have hq := cut_bd s.rng p hr hr1 hp1 hp2
          clear hx hy hpk
          go_wp2_with fail
          refine (unhide HB).mono ?_
          rintro e w1 ⟨rfl, oa1, oc1, hE1, hc1'⟩
          have hM1 := hide (hM.out.bit hE1 hc1')
          clear hE1 hc1' HB hM hc1 hc2
          go_upto_if 83 with fail
          go_cut [8, 9] (fun nv wd wx => ∃ (na : Option Addr) (nc : Nat) (nb : List Int), nv = .slice na nb.length nc ∧ wd = .int .u32 (narrow s p b).rng ∧ Hid (Main w.heap.size w.heap.size w (bitSt s p b) oa1 oc1 (.slice na nb.length nc) nb wx) ∧ Hid (Tells (narrow s p b) nb))
          case first =>
            by_cases hb0 : b = 0
            · subst hb0
              go_wp2_with fail
              go_meet
              case rel => exact ⟨na, nc, nb, rfl, by rw [narrow_zero], hM1, tells_zero hT.out p hr hp1 hp2⟩
            · have hb0' : (b == 0) = false := by simpa using hb0
              have HB0 := hide hb0
              have HA := hide (add_any (.slice na nb.length nc) nb (s.rng / 4096 * p) w1 hM1.out.nown hT.out.bn (by rw [hT.out.len]; omega) (by omega) (by omega))
              clear hb0
              go_wp2_with fail
              refine (unhide HA).mono ?_
              rintro e w2 ⟨rfl, nb', hO2, hl2, hB2, hv2, ht2⟩
              have HX : Hid (Main w.heap.size w.heap.size w (bitSt s p b) oa1 oc1 (.slice na nb'.length nc) nb' w2 ∧ Tells (narrow s p b) nb' ∧ nb'.length = nb.length) := by
                refine ⟨?_, tells_one hT.out p b HB0.out hr hp1 hp2 hl2 hB2 hv2, hl2⟩
                rw [hl2]
                exact hM1.out.newNum ht2 hO2 (fun g hg => .inl hg)
              clear hO2 hl2 hB2 hv2 ht2 HA
              go_wp2_with fail
              go_meet
              case rel => exact ⟨na, nc, nb', by rw [HX.out.2.2], by rw [narrow_one s p HB0.out], HX.out.1, HX.out.2.1⟩
          case rest =>
            clear hM1 
            obtain ⟨na1, nc1, nb1, rfl, rfl, hM1, hT1⟩ := hcut
            have H4 : Hid (16777216 ≤ (narrow s p b).rng * p256 2) := by
              have h := (narrow_sane (bit := b) hT.out.l0 hT.out.sum hr hr1 hp1 hp2).2
              show 16777216 ≤ (narrow s p b).rng * 65536
              omega
            have HMV : Hid (moved (narrow s p b) + 2 ≤ 2 * (k + 1)) := by rw [Hid, moved_narrow]; omega
            clear hT
            go_wp2_with fail
            go_loopg [8, 9] 2 (fun g nv wd wx => ∃ (t : EncSt) (na : Option Addr) (nc : Nat) (nb : List Int), nv = .slice na nb.length nc ∧ wd = .int .u32 t.rng ∧ Hid (Main w.heap.size w.heap.size w (bitSt s p b) oa1 oc1 (.slice na nb.length nc) nb wx) ∧ Hid (Tells t nb) ∧ Hid (lifts g t = bitSt s p b) ∧ 16777216 ≤ t.rng * p256 g ∧ moved t + g ≤ 2 * (k + 1))
            case atStart => exact ⟨narrow s p b, na1, nc1, nb1, rfl, rfl, hM1, hT1, rfl, H4.out, HMV.out⟩
            case round =>
              clear hM1 hT1 H4 HMV
              obtain ⟨t, na2, nc2, nb2, rfl, rfl, hM2, hT2, hL2, hr2, hmv2⟩ := hrel
              have ht0 := hT2.out.r0
              by_cases hlow : t.rng < 16777216
              · rcases gk with _ | g
                · exact absurd hr2 (by show ¬ 16777216 ≤ t.rng * 1; omega)
                · have hnl : nb2.length ≤ 16777216 := by rw [hT2.out.len]; omega
                  have HX : Hid (16777216 ≤ (lift1 t).rng * p256 g ∧ moved (lift1 t) + g ≤ 2 * (k + 1) ∧ lifts g (lift1 t) = bitSt s p b ∧ (lift1 t).rng = t.rng * 256) := by
                    have h1 : (lift1 t).rng = t.rng * 256 := shift_rng { t with rng := t.rng * 256 }
                    refine ⟨by rw [h1, Int.mul_assoc]; exact hr2, by rw [moved_lift]; omega, by rw [← hL2.out, lifts_succ hlow], h1⟩
                  clear hr2 
                  go_wp2_with (at_builtin; refine wpList_push _ rfl _ _ rfl (.slice na2 nb2.length nc2) nb2 rfl (hM2.out.alloc _).nown wr.heap.size rfl 0 (cell_of_one (heap_alloc_new wr _)) hnl ?_; intro g1 cap1 w3 hO3 hT3 hg3)
                  have HY : Hid (Main w.heap.size w.heap.size w (bitSt s p b) oa1 oc1 (.slice (some ⟨g1, 0, none⟩) (nb2 ++ [0]).length cap1) (nb2 ++ [0]) w3) := by
                    rw [Hid, List.length_append]
                    refine (hM2.out.alloc _).newNum hT3 hO3 (fun g hg => ?_)
                    have : g1 = g := by simpa [Value.ownBlock] using hg
                    subst this
                    rcases hg3 with h | h
                    · exact .inl h
                    · exact .inr (by omega)
                  clear hO3 hT3 hg3
                  go_wp2_with fail
                  go_roundg g
                  case measure => omega
                  case rel => exact ⟨lift1 t, _, _, nb2 ++ [0], by rw [List.length_append]; rfl, by rw [HX.out.2.2.2], HY, tells_lift hT2.out hlow, HX.out.2.2.1, HX.out.1, HX.out.2.1⟩
              · have HQ : Hid (t = bitSt s p b) := (lifts_done hlow).symm.trans hL2.out
                go_wp2_with fail
                go_roundw
                case rel => exact ⟨k + 1, bitSt s p b, oa1, oc1, na2, nc2, nb2, rfl, by rw [HQ.out], by go_num, by omega, hM2, by rw [← HQ.out]; exact hT2, by rw [← HQ.out]; omega, by rw [← HQ.out]; omega⟩
                case measure => simp [intOf]; omega
        · obtain rfl : k = N := by omega
          have HS := hide (state_any w.heap.size wr (.slice oa s.out.length oc) s oa oc wr hM.out.enc)
          have hsz : s.out.length + s.pending ≤ moved s := by unfold moved; omega
          have HNL := hide hT.out.len
          have hn1 : s.pending ≤ nb.length := by have := HNL.out; omega
          have hn2 : s.out.length ≤ nb.length := by have := HNL.out; omega
          have hn3 : nb.length ≤ 262144 := by have := HNL.out; omega
          have hmk : ∀ wx, (Instr.makeSlice 24 (.int .i64 0) (.int .i64 ((nb.length : Int) + 8))).run Try.prog wx = .ok (.slice (some ⟨wx.heap.size, 0, none⟩) 0 (nb.length + 8)) (wx.alloc (.cells (madeCells #[Value.int IntKind.u8 0] (nb.length + 8)) 5)) := by
            obtain ⟨i0, hi, hz0, hz1, hz2⟩ := info_parts info5
            intro wx
            rw [run_make (P := Try.prog) wx 24 5 i0 (.int .u8 0) Try.underlying24 hi hz0 .i64 .i64 0 ((nb.length : Int) + 8) (by omega) (by omega) (by rw [hz2]; omega) (by omega), hz1, Nat.mul_one, show ((nb.length : Int) + 8).toNat = nb.length + 8 from by omega]
            rfl
          clear hlt hk
          go_wp2_with fail
          refine (unhide HS).mono ?_
          rintro e w1 ⟨rfl, hw1⟩
          have HM : Hid (Main w.heap.size w.heap.size w s oa oc (.slice na nb.length nc) nb w1) := by
            obtain ⟨nq, rfl⟩ := hw1
            exact hM.out.drewN nq
          clear hM HS hw1
          go_upto_region 39 with fail
          clear hmk
          have HF := hide (fin_start HM.out (nb.length + 8) (by unfold maxLen; omega))
          go_upto_region 40 with (at_builtin; refine wpList_fits _ rfl _ _ rfl w1.heap.size 0 (nb.length + 8) [] rfl (HF.out.alloc _).e rfl (some ⟨w1.heap.size + 1, 0, none⟩) 1 1 [0] rfl rfl (by simp) (row_new _ _ (by simp) [0]) (by omega) ?_; intro w2 hO2 hT2)
          have HF2 := hide ((HF.out.alloc _).step (eb' := [0]) hT2 hO2)
          clear hO2 hT2 HF HM
          have hno := own_none HF2.out.m.own
          go_upto_region 41 with (at_builtin; refine wpList_fits _ rfl _ _ rfl w1.heap.size 1 (nb.length + 8) [0] rfl HF2.out.e rfl oa s.out.length oc s.out rfl rfl hno HF2.out.m.own.row (by omega) ?_; intro w3 hO3 hT3)
          have HF3 : Hid (Fin w.heap.size w.heap.size w s oa oc (.slice na nb.length nc) nb w1.heap.size (nb.length + 8) (0 :: s.out) w3) := HF2.out.step (eb' := 0 :: s.out) hT3 (by rw [List.length_cons, Nat.add_comm]; exact hO3)
          clear hO3 hT3 HF2 hno
          go_upto_if 136 with fail
          go_cut [18, 20] (fun _ x wx => x = .slice (some ⟨w1.heap.size, 0, none⟩) (pre1 s).length (nb.length + 8) ∧ Hid (Fin w.heap.size w.heap.size w s oa oc (.slice na nb.length nc) nb w1.heap.size (nb.length + 8) (pre1 s) wx))
          case first =>
            rcases hst : s.started with _ | _
            · have e1 := hide (pre1_no hst)
              go_wp2_with fail
              go_meet
              case rel => rw [e1.out, List.length_cons, Nat.add_comm]; exact ⟨rfl, HF3⟩
            · have e1 := hide (pre1_yes hst)
              have hl3 : (0 :: s.out).length = 1 + s.out.length := by rw [List.length_cons, Nat.add_comm]
              have HE3 := hide HF3.out.e
              rw [hl3] at HE3
              have hx3 : s.out.length + 5 ≤ nb.length := by have := HNL.out; unfold moved at this; omega
              go_wp2_with (at_builtin; refine wpList_fits _ rfl _ _ rfl w1.heap.size (1 + s.out.length) (nb.length + 8) (0 :: s.out) rfl (by have h := (HF3.out.alloc (.cells #[.int .u8 s.cache] 5)).e; rw [hl3] at h; exact h) hl3.symm (some ⟨w3.heap.size, 0, none⟩) 1 1 [s.cache] rfl rfl (by simp) (row_new _ _ rfl [s.cache]) (by omega) ?_; intro w4 hO4 hT4)
              have HF4 : Hid (Fin w.heap.size w.heap.size w s oa oc (.slice na nb.length nc) nb w1.heap.size (nb.length + 8) (pre1 s) w4) := by
                rw [Hid, e1.out]
                exact (HF3.out.alloc _).step hT4 (by rw [List.length_append, hl3]; exact hO4)
              clear hO4 hT4 HE3
              go_wp2_with fail
              go_meet
              case rel => exact ⟨by rw [e1.out, List.length_append, hl3]; rfl, HF4⟩
          case rest =>
            clear HF3
            obtain ⟨rfl, HF⟩ := hcut
            have hpl : (pre1 s).length + s.pending + 4 = nb.length := by rw [HNL.out]; exact pre1_length s
            have HPL := hide hpl
            have hp9 : (pre1 s).length + s.pending + 4 ≤ nb.length := by omega
            clear hpl
            go_wp2_with fail
            go_loopw [20, 21] (fun x j wr => ∃ k : Nat, j = .int .i64 k ∧ k ≤ s.pending ∧ x = .slice (some ⟨w1.heap.size, 0, none⟩) ((pre1 s).length + k) (nb.length + 8) ∧ Hid (Fin w.heap.size w.heap.size w s oa oc (.slice na nb.length nc) nb w1.heap.size (nb.length + 8) (pre1 s ++ List.replicate k 255) wr)) (fun _ j _ => s.pending - (intOf j).toNat)
            case atStart => exact ⟨0, rfl, Nat.zero_le _, rfl, by simpa [Hid] using HF.out⟩
            case round =>
              clear HF
              obtain ⟨j, rfl, hj, rfl, HF⟩ := hrel
              have hlj : (pre1 s ++ List.replicate j (255 : Int)).length = (pre1 s).length + j := by simp
              by_cases hlt : j < s.pending
              · have HO := fun o => hide (HF.out.alloc o).e
                rw [hlj] at HO
                go_wp2_with (at_builtin; refine wpList_fits _ rfl _ _ rfl w1.heap.size ((pre1 s).length + j) (nb.length + 8) (pre1 s ++ List.replicate j 255) rfl (HO _).out hlj.symm (some ⟨wr.heap.size, 0, none⟩) 1 1 [255] rfl rfl (by simp) (row_new _ _ rfl [255]) (by omega) ?_; intro w4 hO4 hT4)
                have HF4 : Hid (Fin w.heap.size w.heap.size w s oa oc (.slice na nb.length nc) nb w1.heap.size (nb.length + 8) (pre1 s ++ List.replicate (j + 1) 255) w4) := by
                  rw [Hid, List.replicate_succ', ← List.append_assoc]
                  exact (HF.out.alloc _).step hT4 (by rw [List.length_append, hlj]; exact hO4)
                clear hO4 hT4 HO
                go_wp2_with fail
                go_roundw
                case rel => exact ⟨j + 1, by go_num, by omega, rfl, HF4⟩
                case measure => simp [intOf]; omega
              · obtain rfl : j = s.pending := by omega
                have HO := fun o => hide (HF.out.alloc o).e
                rw [hlj] at HO
                go_upto_region 48 with (at_builtin; refine wpList_fits _ rfl _ _ rfl w1.heap.size ((pre1 s).length + s.pending) (nb.length + 8) (pre1 s ++ List.replicate s.pending 255) rfl (HO _).out hlj.symm (some ⟨wr.heap.size, 0, none⟩) 4 4 [0, 0, 0, 0] rfl rfl (by simp) (row_new _ _ rfl [0, 0, 0, 0]) (by omega) ?_; intro w4 hO4 hT4)
                have HF4 : Hid (Fin w.heap.size w.heap.size w s oa oc (.slice na nb.length nc) nb w1.heap.size (nb.length + 8) (pre s ++ [0, 0, 0, 0]) w4) := by
                  rw [Hid, ← pre1_pre]
                  exact (HF.out.alloc _).step hT4 (by rw [List.length_append, hlj]; exact hO4)
                have hle : (pre s ++ [0, 0, 0, 0]).length = (pre1 s).length + s.pending + 4 := by rw [List.length_append, ← pre1_pre, hlj]; rfl
                have HE4 : Hid (Own w4 (.slice (some ⟨w1.heap.size, 0, none⟩) ((pre1 s).length + s.pending + 4) (nb.length + 8)) (pre s ++ [0, 0, 0, 0])) := by
                  have h := HF4.out.e
                  rw [hle] at h
                  exact h
                have hs33 := hT.out.sum
                have hs0 := hT.out.l0
                have hsr := hT.out.r0
                have HA := hide (add_any _ (pre s ++ [0, 0, 0, 0]) s.low w4 HE4 (pre_bytes hT.out) (by rw [hle]; omega) hs0 (by omega))
                clear hO4 hT4 HO HF hs33 hs0 hsr
                go_wp2_with fail
                refine (unhide HA).mono ?_
                rintro e w5 ⟨rfl, eb, hO5, hl5, hB5, hv5, ht5⟩
                obtain rfl : eb = nb := tells_end hT.out hl5 hB5 hv5
                have HF5 : Hid (Main w.heap.size w.heap.size w s oa oc (.slice na eb.length nc) eb w5) := by
                  refine HF4.out.m.other ht5 ?_ ?_ ?_ ?_
                  · intro hk
                    have : w1.heap.size = w.heap.size := by simpa [Value.ownBlock] using hk
                    exact HF4.out.neE this.symm
                  · intro g hg hk
                    have : w1.heap.size = g := by simpa [Value.ownBlock] using hk
                    subst this; exact HF4.out.g1 hg
                  · intro g hg hk
                    have : w1.heap.size = g := by simpa [Value.ownBlock] using hk
                    subst this; exact HF4.out.g2 hg
                  · intro g hk
                    have : w1.heap.size = g := by simpa [Value.ownBlock] using hk
                    subst this; exact HF4.out.gB
                have HQ := hide (eq_any _ _ eb eb w5 hO5 HF5.out.nown (by omega) (by omega))
                clear hO5 hl5 hB5 hv5 ht5 HA HE4 HF4
                go_wp2_with fail
                refine (unhide HQ).mono ?_
                rintro e w6 ⟨rfl, hw6⟩
                have HB : Hid (Below w.heap.size w w6) := by
                  obtain ⟨n6, rfl⟩ := hw6
                  exact (HF5.out.drewN n6).bel
                clear hw6
                go_wp2_with fail
                go_ret
                exact ⟨ret_bool (by unfold eqB; simp), HB.out⟩
end Go.Proofs.Qxb6618439a
