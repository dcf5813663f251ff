import Derived.Test.Qxb6618439aW11
namespace Go.Proofs.Qxb6618439a
open Go.RowKit

theorem ownNone {w : World} {oa : Option Addr} {n oc : Nat} {bs : List Int} (h : Own w (.slice oa n oc) bs) : oa = none → n = 0 ∧ oc = 0 := by
  intro e
  subst e
  rcases h.cases with ⟨h1, _⟩ | ⟨g, c', _, h1, _⟩
  · simp only [Value.slice.injEq, true_and] at h1; exact h1
  · simp at h1
/-- Where the encoder is called: its own row and the other clone. -/
structure Set0 (w : World) (s : EncSt) (v1 : Value) (E : Nat) (oa : Option Addr) (oc : Nat) (w3 : World) : Prop where
  enc : Enc E w3 (.slice oa s.out.length oc) s oa oc w3
  cap : oc ≤ 2 * (s.out.length + s.pending) + 2
  own : Own w3 v1 s.out
  dis : ∀ g, v1.ownBlock = some g → g ≠ E ∧ Value.ownBlock (.slice oa s.out.length oc) ≠ some g
  bel : Below w.heap.size w w3
  new : ∀ k, k = E ∨ Value.ownBlock (.slice oa s.out.length oc) = some k → w.heap.size ≤ k
theorem settle_start {w w1 w2 w3 : World} {s : EncSt} {oa1 oa2 : Option Addr} {oc1 oc2 : Nat} (h1 : Cloned w s.out (.slice oa1 s.out.length oc1) w1) (h2 : Cloned w1 s.out (.slice oa2 s.out.length oc2) w2)
    (hw : w3 = w2.alloc (.cells #[.int .u64 s.low, .int .u32 s.rng, .int .u8 s.cache, .int .i64 s.pending, .bool s.started, .slice oa2 s.out.length oc2] 40)) : Set0 w s (.slice oa1 s.out.length oc1) w2.heap.size oa2 oc2 w3 := by
  subst hw
  obtain ⟨o1, c1, b1, f1⟩ := h1
  obtain ⟨o2, c2, b2, f2⟩ := h2
  have hw12 := b1.size
  have hw23 := b2.size
  have o1' : Own w2 (.slice oa1 s.out.length oc1) s.out := o1.kept (Touch.of_below b2 (fun _ => False)) (fun _ _ f => f)
  have hc : oc2 = s.out.length := c2
  refine ⟨⟨heap_alloc_new w2 _, o2.kept ((Touch.refl (fun _ => False) _).alloc _) (fun _ _ f => f), Touch.refl _ _, .inl rfl⟩, by omega, o1'.kept ((Touch.refl (fun _ => False) _).alloc _) (fun _ _ f => f), ?_, ?_, ?_⟩
  · intro g hg
    have h := o1.lt g hg
    refine ⟨by omega, fun e => ?_⟩
    have := f2 g e
    omega
  · exact (b1.trans (b2.mono hw12)).alloc (by omega) _
  · rintro k (rfl | hk)
    · omega
    · have := f2 k hk; omega
/-- What the call has left. -/
structure Got (w : World) (s t : EncSt) (v1 gv : Value) (w5 : World) : Prop where
  g : Own w5 gv t.out
  o : Own w5 v1 s.out
  bel : Below w.heap.size w w5
theorem drewN_touch (w : World) (n : Nat) : Touch (fun _ => False) w (w.drewN n) := by
  have e : (w.drewN n).heap = w.heap := by induction n with
    | zero => rfl
    | succ n ih => exact ih
  refine ⟨?_, ?_, ?_, by rw [e]; exact Nat.le_refl _, fun k _ _ => by rw [e]⟩
  · induction n with
    | zero => rfl
    | succ n ih => rfl
  · induction n with
    | zero => rfl
    | succ n ih => rfl
  · induction n with
    | zero => rfl
    | succ n ih => rfl
theorem settle_got {w w3 w4 w5 : World} {s t : EncSt} {v1 : Value} {E : Nat} {oa oa4 : Option Addr} {oc oc4 : Nat} (h : Set0 w s v1 E oa oc w3) (hE : Enc E w3 (.slice oa s.out.length oc) t oa4 oc4 w4) (hw : ∃ n, w5 = w4.drewN n) :
    Got w s t v1 (.slice oa4 t.out.length oc4) w5 := by
  obtain ⟨n, rfl⟩ := hw
  have hT := drewN_touch w4 n
  have hsz : w.heap.size ≤ w3.heap.size := h.bel.size
  have hb4 : Below w.heap.size w w4 := hE.tch.below h.bel hsz (fun k _ hk => h.new k hk)
  refine ⟨hE.own.kept hT (fun _ _ f => f), (h.own.kept hE.tch ?_).kept hT (fun _ _ f => f), hT.below hb4 (Nat.le_trans hsz hE.tch.size) (fun _ _ f => f.elim)⟩
  rintro g hg (rfl | hk)
  · exact (h.dis _ hg).1 rfl
  · exact (h.dis g hg).2 hk

theorem lift_cases {t u : EncSt} (h : 4096 ≤ t.rng) (hu : u = lifts 2 t) :
    (16777216 ≤ t.rng ∧ kOf t.rng = 0 ∧ u = t) ∨ ((65536 ≤ t.rng ∧ t.rng < 16777216) ∧ kOf t.rng = 1 ∧ u = lift1 t) ∨ (t.rng < 65536 ∧ kOf t.rng = 2 ∧ u = lift1 (lift1 t)) := by
  have hr : (lift1 t).rng = t.rng * 256 := shift_rng { t with rng := t.rng * 256 }
  by_cases h1 : 16777216 ≤ t.rng
  · exact .inl ⟨h1, kOf_0 h1, by rw [hu, lifts_done (by omega)]⟩
  · by_cases h2 : 65536 ≤ t.rng
    · exact .inr (.inl ⟨⟨h2, by omega⟩, kOf_1 (by omega) h2, by rw [hu, lifts_succ (by omega), lifts_done (by omega)]⟩)
    · exact .inr (.inr ⟨by omega, kOf_2 (by omega), by rw [hu, lifts_succ (by omega), lifts_succ (by omega)]; rfl⟩)
theorem lift2_rng (t : EncSt) : (lift1 (lift1 t)).rng = t.rng * 65536 := by
  have h1 : (lift1 (lift1 t)).rng = (lift1 t).rng * 256 := shift_rng _
  have h2 : (lift1 t).rng = t.rng * 256 := shift_rng _
  rw [h1, h2]; omega

theorem lifts_len {s t u : EncSt} (h : 4096 ≤ t.rng) (hu : u = lifts 2 t) (h1 : t.out = s.out) (h2 : t.pending = s.pending) : u.out.length + u.pending ≤ s.out.length + s.pending + 2 := by
  have a1 := (shift_total { t with rng := t.rng * 256 }).1
  have a1' : (lift1 t).out.length + (lift1 t).pending ≤ t.out.length + t.pending + 1 := a1
  have a2 := (shift_total { lift1 t with rng := (lift1 t).rng * 256 }).1
  have a2' : (lift1 (lift1 t)).out.length + (lift1 (lift1 t)).pending ≤ (lift1 t).out.length + (lift1 t).pending + 1 := a2
  rw [h1, h2] at a1'
  rcases lift_cases h hu with ⟨_, _, rfl⟩ | ⟨_, _, rfl⟩ | ⟨_, _, rfl⟩
  · rw [h1, h2]; omega
  · omega
  · omega
theorem last_one {low : Int} {x c : Bool} (h0 : 0 ≤ low) (hb : (low / 16777216 % 256 != 255) = x) (hc : (low / 4294967296 != 0) = c) : lastOf 1 low = if (x || c) = true then 1 else 0 := by
  have e : settles low = (x || c) := by rw [settles_byte low h0, ← hb, ← hc]; rfl
  simp [lastOf, e]
theorem last_two {low : Int} {x c y : Bool} (h0 : 0 ≤ low) (hb : (low / 16777216 % 256 != 255) = x) (hc : (low / 4294967296 != 0) = c) (hy : (low / 65536 % 256 != 255) = y) : lastOf 2 low = if y = true then 2 else if (x || c) = true then 1 else 0 := by
  have e : settles low = (x || c) := by rw [settles_byte low h0, ← hb, ← hc]; rfl
  have e2 : (¬ low / 65536 % 256 = 255) ↔ y = true := by rw [← hy]; simp
  simp [lastOf, e, e2]

/-- The tail while it is filled. -/
def tl (c : Int) (n k : Nat) : List Int := c :: (List.replicate k 255 ++ List.replicate (n - k) 0)
theorem tl_start {w : World} {g n : Nat} (c : Int) (h : Own w (.slice (some ⟨g, 0, none⟩) (n + 1) (n + 1)) (List.replicate (n + 1) 0)) : Own (w.setCell ⟨g, 0, none⟩ (.int .u8 c)) (.slice (some ⟨g, 0, none⟩) (n + 1) (n + 1)) (tl c n 0) := by
  have e : tl c n 0 = (List.replicate (n + 1) 0).set 0 c := by simp [tl, List.replicate_succ]
  rw [e]; exact h.set 0 c
theorem tl_at (c : Int) {n k : Nat} (h : k < n) : (tl c n k)[k + 1]? = some 0 := by
  unfold tl
  rw [List.getElem?_cons_succ, List.getElem?_append_right (by simp), List.length_replicate, Nat.sub_self, List.getElem?_replicate, if_pos (by omega)]
theorem tl_step (c : Int) {n k : Nat} (h : k < n) : (tl c n k).set (k + 1) 255 = tl c n (k + 1) := by
  unfold tl
  have e : n - k = (n - (k + 1)) + 1 := by omega
  rw [List.set_cons_succ, List.set_append_right _ _ (by simp), List.length_replicate, Nat.sub_self, e, List.replicate_succ, List.set_cons_zero, List.replicate_succ', List.append_assoc]
  rfl
theorem tl_end (c : Int) (n : Nat) : tl c n n = c :: List.replicate n 255 := by simp [tl]
theorem tl_bytes {c : Int} {n : Nat} (h0 : 0 ≤ c) (h1 : c < 256) : Bytes (c :: List.replicate n 255) := fun b hb => by
  rcases List.mem_cons.1 hb with rfl | hb
  · exact ⟨h0, h1⟩
  · rw [(List.mem_replicate.1 hb).2]; decide

/-- The four moved-out bytes and four zeros. -/
def shArr (low : Int) : Array Value := #[.int .u8 (low / 16777216 % 256), .int .u8 (low / 65536 % 256), .int .u8 (low / 256 % 256), .int .u8 (low % 256), .int .u8 0, .int .u8 0, .int .u8 0, .int .u8 0]
def shCells (low : Int) : Obj := .cells (shArr low) 35
theorem settle_row {w w5 w8 : World} {s u : EncSt} {v1 gv : Value} (h : Got w s u v1 gv w5) (hb : Below w5.heap.size w5 w8) (o : Obj) : Own (w8.alloc o) v1 s.out :=
  (h.o.kept (Touch.of_below hb (fun _ => False)) (fun _ _ f => f)).kept ((Touch.refl (fun _ => False) _).alloc o) (fun _ _ f => f)
/-- Where the test on k stands: all rows, each below H but for the new copy. -/
structure Nine (w : World) (s t u : EncSt) (gv wov : Value) (ob : List Int) (T S : Nat) (w9 : World) : Prop where
  sh : w9.heap[S]? = some (.cells (shArr t.low) 35 (0, 0))
  tail : Own w9 (.slice (some ⟨T, 0, none⟩) (s.pending + 1) (s.pending + 1)) (tailL s.cache t.low s.pending)
  g : Own w9 gv u.out
  o : Own w9 wov ob
  nT : wov.ownBlock ≠ some T
  nS : wov.ownBlock ≠ some S
  nG : ∀ k, gv.ownBlock = some k → wov.ownBlock ≠ some k
  bel : Below w.heap.size w w9
  new : ∀ k, wov.ownBlock = some k → w.heap.size ≤ k
theorem settle_nine {w w6 w8 w9 : World} {s t u : EncSt} {v1 gv wov : Value} (h : Got w s u v1 gv w6) (hT : Own w8 (.slice (some ⟨w6.heap.size, 0, none⟩) (s.pending + 1) (s.pending + 1)) (tailL s.cache t.low s.pending)) (hb : Below w6.heap.size w6 w8)
    (hc : Cloned (w8.alloc (shCells t.low)) s.out wov w9) : Nine w s t u gv wov s.out w6.heap.size w8.heap.size w9 := by
  obtain ⟨o, _, b, f⟩ := hc
  rw [World.size_alloc] at f
  have hw := h.bel.size
  have hw6 : w6.heap.size < w8.heap.size := hT.lt _ rfl
  have ht9 : Touch (fun _ => False) (w8.alloc (shCells t.low)) w9 := Touch.of_below b _
  have ht8 : Touch (fun _ => False) w8 (w8.alloc (shCells t.low)) := (Touch.refl _ _).alloc _
  have hg8 : Own w8 gv u.out := h.g.kept (Touch.of_below hb (fun _ => False)) (fun _ _ f => f)
  refine ⟨?_, (hT.kept ht8 (fun _ _ f => f)).kept ht9 (fun _ _ f => f), (hg8.kept ht8 (fun _ _ f => f)).kept ht9 (fun _ _ f => f), o, fun e => ?_, fun e => ?_, fun k hk e => ?_, ?_, fun k hk => ?_⟩
  · rw [b.block w8.heap.size (by simp)]; exact heap_alloc_new w8 _
  · have := f _ e; omega
  · have := f _ e; omega
  · have h1 := f _ e
    have h2 := hg8.lt k hk
    omega
  · have hb8 : Below w.heap.size w w8 := h.bel.trans (hb.mono hw)
    exact (hb8.alloc (by omega) _).trans (b.mono (by simp; omega))
  · have := f _ hk; omega
theorem sh_cells {w : World} {s t u : EncSt} {gv wov : Value} {ob : List Int} {T S : Nat} {w9 : World} (h : Nine w s t u gv wov ob T S w9) :
    w9.cell? ⟨S, 0, none⟩ = some (.int .u8 (t.low / 16777216 % 256)) ∧ w9.cell? ⟨S, 1, none⟩ = some (.int .u8 (t.low / 65536 % 256)) ∧ w9.cell? ⟨S, 2, none⟩ = some (.int .u8 (t.low / 256 % 256)) ∧ w9.cell? ⟨S, 3, none⟩ = some (.int .u8 (t.low % 256)) ∧
    w9.cell? ⟨S, 4, none⟩ = some (.int .u8 0) ∧ w9.cell? ⟨S, 5, none⟩ = some (.int .u8 0) := by
  refine ⟨?_, ?_, ?_, ?_, ?_, ?_⟩ <;> (rw [cell_of_row _ _ _ _ _ _ h.sh]; rfl)

section
variable {w : World} {s t u : EncSt} {gv wov : Value} {ob : List Int} {T S : Nat} {w9 : World}
theorem Nine.drewN (h : Nine w s t u gv wov ob T S w9) (n : Nat) : Nine w s t u gv wov ob T S (w9.drewN n) := by
  have hT := drewN_touch w9 n
  have hlt : S < w9.heap.size := lt_of_block h.sh
  have hB : w.heap.size ≤ w9.heap.size := h.bel.size
  exact ⟨by rw [hT.block S hlt (fun f => f)]; exact h.sh, h.tail.kept hT (fun _ _ f => f), h.g.kept hT (fun _ _ f => f), h.o.kept hT (fun _ _ f => f), h.nT, h.nS, h.nG, hT.below h.bel hB (fun _ _ f => f.elim), h.new⟩
theorem Nine.alloc (h : Nine w s t u gv wov ob T S w9) (x : Obj) : Nine w s t u gv wov ob T S (w9.alloc x) := by
  have hT : Touch (fun _ => False) w9 (w9.alloc x) := (Touch.refl _ _).alloc x
  have hlt : S < w9.heap.size := lt_of_block h.sh
  have hB : w.heap.size ≤ w9.heap.size := h.bel.size
  exact ⟨by rw [hT.block S hlt (fun f => f)]; exact h.sh, h.tail.kept hT (fun _ _ f => f), h.g.kept hT (fun _ _ f => f), h.o.kept hT (fun _ _ f => f), h.nT, h.nS, h.nG, hT.below h.bel hB (fun _ _ f => f.elim), h.new⟩
/-- The copy has grown. -/
theorem Nine.push (h : Nine w s t u gv wov ob T S w9) {g cap n : Nat} {ob' : List Int} {w' : World} (hO : Own w' (.slice (some ⟨g, 0, none⟩) n cap) ob') (hT : Touch (fun k => wov.ownBlock = some k) w9 w') (hg : wov.ownBlock = some g ∨ g = w9.heap.size) :
    Nine w s t u gv (.slice (some ⟨g, 0, none⟩) n cap) ob' T S w' := by
  have hlt : S < w9.heap.size := lt_of_block h.sh
  have hB : w.heap.size ≤ w9.heap.size := h.bel.size
  have hTl : T < w9.heap.size := h.tail.lt T rfl
  refine ⟨by rw [hT.block S hlt h.nS]; exact h.sh, h.tail.kept hT ?_, h.g.kept hT h.nG, hO, ?_, ?_, ?_, hT.below h.bel hB (fun k _ hk => h.new k hk), ?_⟩
  · intro k hk
    have : T = k := by simpa [Value.ownBlock] using hk
    subst this; exact h.nT
  · intro e
    have : g = T := by simpa [Value.ownBlock] using e
    subst this
    rcases hg with hg | hg
    · exact h.nT hg
    · omega
  · intro e
    have : g = S := by simpa [Value.ownBlock] using e
    subst this
    rcases hg with hg | hg
    · exact h.nS hg
    · omega
  · intro k hk e
    have : g = k := by simpa [Value.ownBlock] using e
    subst this
    rcases hg with hg | hg
    · exact h.nG g hk hg
    · have := h.g.lt g hk; omega
  · intro k hk
    have : g = k := by simpa [Value.ownBlock] using hk
    subst this
    rcases hg with hg | hg
    · exact h.new g hg
    · omega
end
theorem join64 (i : Nat) (x y : Int) (hx₀ : 0 ≤ x) (hx : x % 2 ^ i = 0) (hx₁ : x < 18446744073709551616) (hy₀ : 0 ≤ y) (hy : y < 2 ^ i) (hy₁ : y < 18446744073709551616) : bits .or .u64 x y = x + y :=
  bits_join .u64 64 (by decide) wraps_u64 i x y hx₀ hx hx₁ hy₀ hy hy₁
theorem low1_or (x : Int) : bits .or .u64 (bits .or .u64 (bits .or .u64 (x / 65536 % 256 * 16777216) (x / 256 % 256 * 65536)) (x % 256 * 256)) 0 = x % 16777216 * 256 := by
  rw [join64 24 (x / 65536 % 256 * 16777216) (x / 256 % 256 * 65536) (by omega) (by omega) (by omega) (by omega) (by omega) (by omega),
    join64 16 (x / 65536 % 256 * 16777216 + x / 256 % 256 * 65536) (x % 256 * 256) (by omega) (by omega) (by omega) (by omega) (by omega) (by omega),
    join64 8 _ 0 (by omega) (by omega) (by omega) (by omega) (by omega) (by omega)]
  omega
theorem low2_or (x : Int) : bits .or .u64 (bits .or .u64 (bits .or .u64 (x / 256 % 256 * 16777216) (x % 256 * 65536)) 0) 0 = x % 65536 * 65536 := by
  rw [join64 24 (x / 256 % 256 * 16777216) (x % 256 * 65536) (by omega) (by omega) (by omega) (by omega) (by omega) (by omega),
    join64 16 (x / 256 % 256 * 16777216 + x % 256 * 65536) 0 (by omega) (by omega) (by omega) (by omega) (by omega) (by omega),
    join64 8 _ 0 (by omega) (by omega) (by omega) (by omega) (by omega) (by omega)]
  omega

set_option maxRecDepth 100000 in
set_option maxHeartbeats 8000000 in
theorem settle_walk (s : EncSt) (ao : Option Addr) (cap : Nat) (p bit : Int) (w : World) (hR : Hid (Row .u8 w ao s.out)) (hnone : Hid (ao = none → s.out.length = 0 ∧ cap = 0)) (hl : s.out.length ≤ 1048576) (hpe : s.pending ≤ 65536)
    (l0 : 0 ≤ s.low) (l1 : s.low + s.rng < 8589934592) (r0 : 16777216 ≤ s.rng) (r1 : s.rng < 4294967296) (hp : 1 ≤ p) (hp2 : p < 4096) (hc0 : 0 ≤ s.cache) (hc1 : s.cache < 256) :
    Calls Try.prog 3 #[.int .u64 s.low, .int .u32 s.rng, .int .u8 s.cache, .int .i64 s.pending, .bool s.started, .slice ao s.out.length cap, .int .u32 p, .int .u32 bit] w fun e w' => e = .returned (.bool true) ∧ Below w.heap.size w w' := by
  have hq := cut_bd s.rng p r0 r1 hp hp2
  have hp0 : (p == 0) = false := by rw [beq_eq_false_iff_ne]; omega
  have HC1 := hide (clone_any ao s.out.length cap s.out w rfl hnone.out hR.out (by omega))
  go_enter Try.func3, Try.ntmps3
  go_wp2_with (go_at_call 5; go_in)
  refine (unhide HC1).mono ?_
  rintro e w1 ⟨oa1, oc1, rfl, hcl1⟩
  have HC2 := hide (clone_any oa1 s.out.length oc1 s.out w1 rfl (ownNone hcl1.1) hcl1.1.row (by omega))
  have H1 := hide hcl1
  clear hcl1 HC1 hR hnone
  go_wp2_with fail
  refine (unhide HC2).mono ?_
  rintro e w2 ⟨oa2, oc2, rfl, hcl2⟩
  have H2 := hide hcl2
  clear hcl2 HC2
  go_wp2_with fail
  refine (new_any _ _ _ _ _ _ _ _ _).mono ?_
  rintro e w3 ⟨rfl, hw3⟩
  have HE := hide (settle_start H1.out H2.out hw3)
  clear hw3 H1 H2
  have HB := hide (bit_any w2.heap.size w3 (.slice oa2 s.out.length oc2) s oa2 oc2 w3 p bit HE.out.enc HE.out.cap l0 (by omega) r0 r1 hp hp2 (by omega) (by omega))
  go_wp2_with fail
  refine (unhide HB).mono ?_
  rintro e w4 ⟨rfl, oa4, oc4, hE4, hc4⟩
  have HS := hide (state_any _ _ _ _ _ _ _ hE4)
  have HE4 := hide hE4
  clear hE4 hc4 HB
  go_wp2_with fail
  refine (unhide HS).mono ?_
  rintro e w5 ⟨rfl, hw5⟩
  have HG := hide (settle_got HE.out HE4.out hw5)
  clear hw5 HE4 HE HS
  go_upto_if 110 with fail
  go_cut [27, 28] (fun x y wx => x = .int .u64 (narrow s p bit).low ∧ y = .int .u32 (narrow s p bit).rng ∧ w5 = wx)
  case first => as_aux_lemma =>
    by_cases hb : bit = 0
    · subst hb
      go_wp2_with fail
      go_meet
      case rel => exact ⟨by rw [narrow_zero], by rw [narrow_zero], rfl⟩
    · have hb' : (bit != 0) = true := by simpa using hb
      have HX := hide (narrow_one s p hb)
      clear hb
      go_wp2_with fail
      go_meet
      case rel => exact ⟨by rw [HX.out], by rw [HX.out], rfl⟩
  case rest =>
    obtain ⟨rfl, rfl, rfl⟩ := hcut
    have hsn := narrow_sane (bit := bit) l0 (by omega) r0 r1 hp hp2
    have ht4 := hsn.2
    have ht0 := hsn.1.l0
    have ht1 := hsn.1.l1
    have ht2 := hsn.1.r1
    have HK := hide (lift_any (narrow s p bit).rng w5 ht4)
    have HNO := hide (narrow_out s p bit)
    have HU : Hid (bitSt s p bit = lifts 2 (narrow s p bit)) := rfl
    clear hsn hq
    generalize bitSt s p bit = u at *
    generalize narrow s p bit = t at *
    have HK3 := hide (lift_cases ht4 HU.out)
    have HUL := hide (lifts_len ht4 HU.out HNO.out.1 HNO.out.2.1)
    go_wp2_with fail
    refine (unhide HK).mono ?_
    rintro e w6 ⟨rfl, rfl⟩
    clear HK
    go_upto_region 27 with fail
    go_cut [29, 30] (fun x y wx => x = .int .i64 (kOf t.rng : Nat) ∧ y = .int .u32 u.rng ∧ w6 = wx)
    case first => as_aux_lemma =>
      rcases HK3.out with ⟨h1, h2, h3⟩ | ⟨h1, h2, h3⟩ | ⟨h1, h2, h3⟩
      · have HX : Hid (u.rng = t.rng) := by rw [h3]; rfl
        have hk : kOf t.rng = 0 := h2
        clear h3 h2
        go_wp2_with fail
        go_meet
        case rel => exact ⟨by rw [hk], by rw [HX.out], rfl⟩
      · have HX : Hid (u.rng = t.rng * 256) := by rw [h3]; exact (shift_rng _)
        have hk : kOf t.rng = 1 := h2
        clear h3 h2
        go_wp2_with fail
        go_meet
        case rel => exact ⟨by rw [hk], by rw [HX.out], rfl⟩
      · have HX : Hid (u.rng = t.rng * 65536) := by rw [h3]; exact lift2_rng t
        have hk : kOf t.rng = 2 := h2
        clear h3 h2
        go_wp2_with fail
        go_meet
        case rel => exact ⟨by rw [hk], by rw [HX.out], rfl⟩
    case rest =>
      obtain ⟨rfl, rfl, rfl⟩ := hcut
      have hmk : ∀ wx, (Instr.makeSlice 24 (.int .i64 (1 + (s.pending : Int))) (.int .i64 (1 + (s.pending : Int)))).run Try.prog wx = .ok (.slice (some ⟨wx.heap.size, 0, none⟩) (s.pending + 1) (s.pending + 1)) (wx.alloc (.cells (madeCells #[Value.int IntKind.u8 0] (s.pending + 1)) 5)) := by
        obtain ⟨i0, hi, hz0, hz1, hz2⟩ := info_parts info5
        intro wx
        rw [run_make (P := Try.prog) wx 24 5 i0 (.int .u8 0) Try.underlying24 hi hz0 .i64 .i64 (1 + (s.pending : Int)) (1 + (s.pending : Int)) (by omega) (by omega) (by rw [hz2]; omega) (by omega), hz1, Nat.mul_one, show (1 + (s.pending : Int)).toNat = s.pending + 1 from by omega]
        rfl
      have HO6 := hide (made_own w6 (s.pending + 1) (by unfold maxLen; omega))
      have HB6 := hide ((Below.refl w6.heap.size w6).alloc (Nat.le_refl _) (.cells (madeCells #[Value.int IntKind.u8 0] (s.pending + 1)) 5))
      go_upto_region 30 with fail
      clear hmk
      generalize w6.alloc (.cells (madeCells #[Value.int IntKind.u8 0] (s.pending + 1)) 5) = w7 at *
      have hx0 := HO6.out.cell (i := 0) (c := 0) (by rw [List.getElem?_replicate, if_pos (by omega)])
      have hf0 := HO6.out.free 0
      have HO7 := hide (tl_start s.cache HO6.out)
      have HB7 := hide (HB6.out.setCell (p := ⟨w6.heap.size, 0, none⟩) (Nat.le_refl _) (.int .u8 s.cache))
      clear HO6 HB6
      go_wp2_with fail
      clear hx0 hf0
      go_loopw [33] (fun j wr => ∃ k : Nat, j = .int .i64 ((k : Int) + 1) ∧ k ≤ s.pending ∧ Hid (Own wr (.slice (some ⟨w6.heap.size, 0, none⟩) (s.pending + 1) (s.pending + 1)) (tl s.cache s.pending k)) ∧ Hid (Below w6.heap.size w6 wr)) (fun j _ => s.pending + 1 - (intOf j).toNat)
      case atStart => exact ⟨0, rfl, Nat.zero_le _, HO7, HB7⟩
      case round =>
        clear HO7 HB7
        obtain ⟨k, rfl, hk, hO, hB⟩ := hrel
        by_cases hlt : k < s.pending
        · have hx1 := hO.out.cell (tl_at s.cache hlt)
          have hf1 := hO.out.free (k + 1)
          go_wp2_with fail
          go_roundw
          case rel => exact ⟨k + 1, by go_num, by omega, by rw [Hid, ← tl_step s.cache hlt]; exact hO.out.set (k + 1) 255, hB.out.setCell (Nat.le_refl _) _⟩
          case measure => simp [intOf]; omega
        · obtain rfl : k = s.pending := by omega
          rw [tl_end] at hO
          have HA := hide (add_any (.slice (some ⟨w6.heap.size, 0, none⟩) (s.pending + 1) (s.pending + 1)) (s.cache :: List.replicate s.pending 255) (t.low / 4294967296) wr hO (tl_bytes hc0 hc1) (by simp; omega) (by omega) (by omega))
          clear hlt hk
          go_wp2_with fail
          refine (unhide HA).mono ?_
          rintro e w8 ⟨rfl, tb, hO8, hl8, hB8, hv8, ht8⟩
          have HT8 : Hid (Own w8 (.slice (some ⟨w6.heap.size, 0, none⟩) (s.pending + 1) (s.pending + 1)) (tailL s.cache t.low s.pending) ∧ Below w6.heap.size w6 w8) := by
            have e1 : tb = tailL s.cache t.low s.pending := tail_added hc0 hc1 ht0 ht1 hB8 (by rw [hl8]; simp) (by rw [hv8]; simp)
            rw [← e1]
            exact ⟨hO8, ht8.below hB.out hB.out.size (fun k _ hk => by
              have : w6.heap.size = k := by simpa [Value.ownBlock] using hk
              omega)⟩
          clear hO8 hl8 hB8 hv8 ht8 HA hO hB
          go_wp2_with fail
          have HC := hide (clone_any oa1 s.out.length oc1 s.out _ rfl (ownNone HG.out.o) (settle_row HG.out HT8.out.2 (shCells t.low)).row (by omega))
          refine (unhide HC).mono ?_
          rintro e w9 ⟨oa9, oc9, rfl, hcl9⟩
          have H9 := hide (settle_nine HG.out HT8.out.1 HT8.out.2 hcl9)
          clear HC HT8 HG hcl9
          go_upto_if 167 with fail
          go_cut [29, 35, 36, 37, 38, 39] (fun _ x1 x2 x3 x4 x5 wx => x1 = .int .u64 u.low ∧ x2 = .int .u8 u.cache ∧ x3 = .int .i64 u.pending ∧ x4 = .bool u.started ∧ ∃ wa wc, x5 = .slice wa u.out.length wc ∧ Hid (Own wx (.slice wa u.out.length wc) u.out ∧ Own wx (.slice oa4 u.out.length oc4) u.out ∧ Below w.heap.size w wx))
          
          case first =>
            by_cases hk0 : kOf t.rng = 0
            · have HUT : Hid (u = t) := by
                rcases HK3.out with ⟨_, _, h3⟩ | ⟨_, h2, _⟩ | ⟨_, h2, _⟩
                · exact h3
                · omega
                · omega
              go_wp2_with fail
              go_meet
              case rel =>
                have h := HNO.out
                rw [HUT.out] at H9 ⊢
                exact ⟨rfl, by rw [h.2.2.1], by rw [h.2.1], by rw [h.2.2.2], oa9, oc9, by rw [h.1], by rw [h.1]; exact H9.out.o, H9.out.g, H9.out.bel⟩
            · have hk1 : 1 ≤ kOf t.rng := by omega
              go_upto_region 47 with fail
              go_cut [35] (fun x wx => x = .int .u64 u.low ∧ ∃ n, wx = w9.drewN n)
              case first => as_aux_lemma =>
                have hsh := sh_cells H9.out
                have sh1 := hsh.2.1
                have sh2 := hsh.2.2.1
                have sh3 := hsh.2.2.2.1
                have sh4 := hsh.2.2.2.2.1
                have sh5 := hsh.2.2.2.2.2
                clear hsh
                rcases HK3.out with ⟨_, h2, _⟩ | ⟨h1, h2, h3⟩ | ⟨h1, h2, h3⟩
                · omega
                · have HX : Hid (u.low = t.low % 16777216 * 256) := by rw [h3]; exact low_one t
                  have hk : kOf t.rng = 1 := h2
                  clear h3 h2 sh5
                  go_quiet (fail)
                  go_wp2_with fail
                  go_meet
                  case rel => exact ⟨by rw [HX.out, low1_or], nq, rfl⟩
                · have HX : Hid (u.low = t.low % 65536 * 65536) := by rw [h3]; exact low_two t
                  have hk : kOf t.rng = 2 := h2
                  clear h3 h2 sh1
                  go_quiet (fail)
                  go_wp2_with fail
                  go_meet
                  case rel => exact ⟨by rw [HX.out, low2_or], nq, rfl⟩
              case rest =>
                obtain ⟨rfl, hwn⟩ := hcut
                have HTen : Hid (Nine w s t u (.slice oa4 u.out.length oc4) (.slice oa9 s.out.length oc9) s.out w6.heap.size w8.heap.size wc) := by
                  obtain ⟨n, rfl⟩ := hwn
                  exact H9.out.drewN n
                clear hwn H9
                have HK2 : Hid (kOf t.rng = 1 ∨ kOf t.rng = 2) := by
                  rcases HK3.out with ⟨_, h2, _⟩ | ⟨_, h2, _⟩ | ⟨_, h2, _⟩
                  · omega
                  · exact .inl h2
                  · exact .inr h2
                have HSum : Hid (Sums t u (kOf t.rng) (lastOf (kOf t.rng) t.low)) := by
                  rcases HK3.out with ⟨_, h2, _⟩ | ⟨_, h2, h3⟩ | ⟨_, h2, h3⟩
                  · omega
                  · rw [h2, h3]; exact sums_one t
                  · rw [h2, h3]; exact sums_two t ht0 (by rw [HNO.out.2.2.1]; exact hc0) (by rw [HNO.out.2.2.1]; exact hc1)
                clear HK3
                go_upto_block 2 with fail
                go_cut [29, 40, 41] (fun a x _ wx => a = .int .i64 (kOf t.rng : Nat) ∧ x = .int .i64 (lastOf (kOf t.rng) t.low : Nat) ∧ wc = wx)
                
                case first => as_aux_lemma =>
                  have hsh := sh_cells HTen.out
                  have sh0 := hsh.1
                  have sh1 := hsh.2.1
                  clear hsh
                  rcases hb0 : (t.low / 16777216 % 256 != 255) with _ | _
                  · rcases hcy : (t.low / 4294967296 != 0) with _ | _
                    · rcases HK2.out with h2 | h2
                      · have HX := hide (last_one ht0 hb0 hcy)
                        go_wp2_with fail
                        refine wp_loop_rounds 2 ?_
                        rw [rounds_succ]
                        go_wp2_with fail
                        rw [rounds_succ]
                        go_wp2_with fail
                        go_meet
                        case rel => exact ⟨by rw [h2], by rw [h2, HX.out]; rfl, rfl⟩
                      · rcases hb1 : (t.low / 65536 % 256 != 255) with _ | _
                        all_goals
                          have HX := hide (last_two ht0 hb0 hcy hb1)
                          go_wp2_with fail
                          refine wp_loop_rounds 3 ?_
                          rw [rounds_succ]
                          go_wp2_with fail
                          rw [rounds_succ]
                          go_wp2_with fail
                          rw [rounds_succ]
                          go_wp2_with fail
                          go_meet
                          case rel => exact ⟨by rw [h2] <;> rfl, by rw [h2, HX.out]; rfl, rfl⟩
                    · rcases HK2.out with h2 | h2
                      · have HX := hide (last_one ht0 hb0 hcy)
                        go_wp2_with fail
                        refine wp_loop_rounds 2 ?_
                        rw [rounds_succ]
                        go_wp2_with fail
                        rw [rounds_succ]
                        go_wp2_with fail
                        go_meet
                        case rel => exact ⟨by rw [h2], by rw [h2, HX.out]; rfl, rfl⟩
                      · rcases hb1 : (t.low / 65536 % 256 != 255) with _ | _
                        all_goals
                          have HX := hide (last_two ht0 hb0 hcy hb1)
                          go_wp2_with fail
                          refine wp_loop_rounds 3 ?_
                          rw [rounds_succ]
                          go_wp2_with fail
                          rw [rounds_succ]
                          go_wp2_with fail
                          rw [rounds_succ]
                          go_wp2_with fail
                          go_meet
                          case rel => exact ⟨by rw [h2] <;> rfl, by rw [h2, HX.out]; rfl, rfl⟩
                  · rcases HK2.out with h2 | h2
                    · have HX := hide (last_one (c := t.low / 4294967296 != 0) ht0 hb0 rfl)
                      go_wp2_with fail
                      refine wp_loop_rounds 2 ?_
                      rw [rounds_succ]
                      go_wp2_with fail
                      rw [rounds_succ]
                      go_wp2_with fail
                      go_meet
                      case rel => exact ⟨by rw [h2], by rw [h2, HX.out]; rfl, rfl⟩
                    · rcases hb1 : (t.low / 65536 % 256 != 255) with _ | _
                      all_goals
                        have HX := hide (last_two (c := t.low / 4294967296 != 0) ht0 hb0 rfl hb1)
                        go_wp2_with fail
                        refine wp_loop_rounds 3 ?_
                        rw [rounds_succ]
                        go_wp2_with fail
                        rw [rounds_succ]
                        go_wp2_with fail
                        rw [rounds_succ]
                        go_wp2_with fail
                        go_meet
                        case rel => exact ⟨by rw [h2] <;> rfl, by rw [h2, HX.out]; rfl, rfl⟩
                case rest =>
                  obtain ⟨rfl, rfl, rfl⟩ := hcut
                  have hLk := last_le t.low hk1
                  generalize lastOf (kOf t.rng) t.low = L at *
                  generalize kOf t.rng = k at *
                  have hk2 : k ≤ 2 := by have := HK2.out; omega
                  go_upto_if 213 with fail
                  by_cases hL0 : L = 0
                  · as_aux_lemma =>
                      subst hL0
                      go_wp2_with fail
                      go_meet
                      case rel =>
                        have h := HNO.out
                        obtain ⟨e1, e2, e3, e4⟩ := HSum.out.none rfl
                        exact ⟨rfl, by rw [e2, h.2.2.1], by rw [e3, h.2.1]; rfl, by rw [e4, h.2.2.2], oa9, oc9, by rw [e1, h.1], by rw [e1, h.1]; exact HTen.out.o, HTen.out.g, HTen.out.bel⟩
                  · have hL1 : 1 ≤ L := by omega
                    clear hL0
                    go_upto_if 218 with fail
                    go_cut [4, 38, 42] (fun a b x wx => a = .bool s.started ∧ b = .bool s.started ∧ x = .int .i64 ((if s.started then 0 else 1 : Nat) : Nat) ∧ wc = wx)
                    case first => as_aux_lemma =>
                      rcases hst : s.started with _ | _
                      all_goals
                        go_wp2_with fail
                        go_meet
                        case rel => exact ⟨by rw [hst], by rw [hst], by rw [hst]; rfl, rfl⟩
                    case rest =>
                      obtain ⟨rfl, rfl, rfl, rfl⟩ := hcut
                      have HSet : Hid (t.out ++ settled t = s.out ++ (tailL s.cache t.low s.pending).drop (if s.started then 0 else 1)) := by
                        have h := HNO.out
                        rw [Hid, ← tail_settled t, h.1, h.2.1, h.2.2.1, h.2.2.2]
                      have hf1 : (if s.started then 0 else 1 : Nat) ≤ 1 := by split <;> omega
                      generalize (if s.started then 0 else 1 : Nat) = f at *
                      go_wp2_with fail
                      go_loopw [39, 43] (fun v i wr => ∃ (n : Nat) (ob : List Int) (wa : Option Addr) (wc0 : Nat), v = .slice wa ob.length wc0 ∧ i = .int .i64 (n : Nat) ∧ f ≤ n ∧ n ≤ s.pending + 1 ∧ Hid (ob = s.out ++ ((tailL s.cache t.low s.pending).take n).drop f) ∧ Hid (Nine w s t u (.slice oa4 u.out.length oc4) (.slice wa ob.length wc0) ob w6.heap.size w8.heap.size wr)) (fun _ i _ => s.pending + 1 - (intOf i).toNat)
                      case atStart => exact ⟨f, s.out, oa9, oc9, rfl, rfl, Nat.le_refl _, by omega, by rw [Hid, List.drop_eq_nil_of_le (by simp; omega), List.append_nil], HTen⟩
                      case round =>
                        clear HTen
                        obtain ⟨n, ob, wa, wc0, rfl, rfl, hn0, hn1, hob, hN⟩ := hrel
                        have HTl : Hid ((tailL s.cache t.low s.pending).length = s.pending + 1) := by simp [Hid, tailL]
                        by_cases hlt : n < s.pending + 1
                        · as_aux_lemma =>
                            obtain ⟨c, hcc⟩ : ∃ c, (tailL s.cache t.low s.pending)[n]? = some c := ⟨_, List.getElem?_eq_getElem (by rw [HTl.out]; exact hlt)⟩
                            have hx1 := hN.out.tail.cell hcc
                            have HCC := hide hcc
                            clear hcc
                            have hnl : ob.length ≤ 16777216 := by
                              rw [hob.out, List.length_append, List.length_drop, List.length_take, HTl.out]; omega
                            go_wp2_with (at_builtin; refine wpList_push _ rfl _ _ rfl (.slice wa ob.length wc0) ob rfl (hN.out.alloc _).o wr.heap.size rfl c (cell_of_one (heap_alloc_new wr _)) hnl ?_; intro g1 cap1 w3 hO3 hT3 hg3)
                            have HY : Hid (Nine w s t u (.slice oa4 u.out.length oc4) (.slice (some ⟨g1, 0, none⟩) (ob ++ [c]).length cap1) (ob ++ [c]) w6.heap.size w8.heap.size w3) := by
                              rw [Hid, List.length_append]
                              exact (hN.out.alloc _).push hO3 hT3 hg3
                            clear hO3 hT3 hg3 hx1
                            go_wp2_with fail
                            go_roundw
                            case rel =>
                              refine ⟨n + 1, ob ++ [c], _, _, by rw [List.length_append]; rfl, by go_num, by omega, by omega, ?_, HY⟩
                              rw [Hid, hob.out, List.take_add_one, HCC.out, List.drop_append_of_le_length (by rw [List.length_take, HTl.out]; omega), List.append_assoc]
                              rfl
                            case measure => simp [intOf]; omega
                        · obtain rfl : n = s.pending + 1 := by omega
                          have HOb : Hid (ob = t.out ++ settled t) := by
                            rw [Hid, hob.out, HSet.out, List.take_of_length_le (by rw [HTl.out]; exact Nat.le_refl _)]
                          have hnl : ob.length ≤ 16777216 := by
                            rw [hob.out, List.length_append, List.length_drop, List.length_take, HTl.out]; omega
                          clear hob HSet HTl hlt
                          have hsh := sh_cells hN.out
                          have sh0 := hsh.1
                          clear hsh
                          obtain rfl | rfl : L = 1 ∨ L = 2 := by omega
                          · as_aux_lemma =>
                              go_wp2_with fail
                              refine wp_loop_rounds 1 ?_
                              rw [rounds_succ]
                              go_wp2_with fail
                              go_meet
                              case rel =>
                                obtain ⟨e1, e2, e3, e4⟩ := HSum.out.some (by omega)
                                rw [if_neg (by omega), List.append_nil, ← HOb.out] at e1
                                exact ⟨rfl, by rw [e2]; rfl, by congr 1; omega, by rw [e4], wa, wc0, by rw [e1], by rw [e1]; exact hN.out.o, hN.out.g, hN.out.bel⟩
                          · as_aux_lemma =>
                              go_wp2_with fail
                              refine wp_loop_rounds 2 ?_
                              rw [rounds_succ]
                              go_wp2_with (at_builtin; refine wpList_push _ rfl _ _ rfl (.slice wa ob.length wc0) ob rfl (hN.out.alloc _).o wr.heap.size rfl _ (cell_of_one (heap_alloc_new wr _)) hnl ?_; intro g1 cap1 w3 hO3 hT3 hg3)
                              have HY : Hid (Nine w s t u (.slice oa4 u.out.length oc4) (.slice (some ⟨g1, 0, none⟩) (ob.length + 1) cap1) (ob ++ [t.low / 16777216 % 256]) w6.heap.size w8.heap.size w3) := (hN.out.alloc _).push hO3 hT3 hg3
                              have hsh := sh_cells HY.out
                              have sh1 := hsh.2.1
                              clear hO3 hT3 hg3 sh0 hsh
                              go_wp2_with fail
                              rw [rounds_succ]
                              go_wp2_with fail
                              go_meet
                              case rel =>
                                obtain ⟨e1, e2, e3, e4⟩ := HSum.out.some (by omega)
                                rw [if_pos rfl, ← HOb.out] at e1
                                exact ⟨rfl, by rw [e2]; rfl, by congr 1; omega, by rw [e4], _, cap1, by rw [e1, List.length_append]; rfl, by rw [e1, List.length_append]; exact HY.out.o, HY.out.g, HY.out.bel⟩
          case rest =>
            obtain ⟨rfl, rfl, rfl, rfl, wa, wc0, rfl, hF⟩ := hcut
            have HQ := hide (eq_any _ _ u.out u.out _ hF.out.2.1 hF.out.1 (by have := HUL.out; omega) (by have := HUL.out; omega))
            go_wp2_with fail
            refine (unhide HQ).mono ?_
            rintro e w10 ⟨rfl, hw10⟩
            have HB10 : Hid (Below w.heap.size w w10) := by
              obtain ⟨n, rfl⟩ := hw10
              exact (drewN_touch _ n).below hF.out.2.2 hF.out.2.2.size (fun _ _ f => f.elim)
            clear hw10
            go_wp2_with fail
            go_ret
            exact ⟨ret_bool (by unfold eqB; simp), HB10.out⟩
end Go.Proofs.Qxb6618439a
