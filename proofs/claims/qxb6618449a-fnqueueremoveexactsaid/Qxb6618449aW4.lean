import Derived.Test.Qxb6618449aW3
namespace Go.Proofs.Qxb6618449a
open Go.RowKit

/-- The three rows that come in. -/
structure Three (w : World) (gP gB gL : Nat) (P : List Int) (B L : List Bool) (n : Nat) : Prop where
  p : At w gP 2 (P.map (Value.int .i64))
  b : At w gB 4 (B.map Value.bool)
  l : At w gL 4 (L.map Value.bool)
  np : P.length = n
  nb : B.length = n
  nl : L.length = n
theorem Three.kept {w w' : World} {gP gB gL : Nat} {P : List Int} {B L : List Bool} {n : Nat} (h : Three w gP gB gL P B L n) (hb : Below w.heap.size w w') : Three w' gP gB gL P B L n :=
  ⟨h.p.kept (Touch.of_below hb (fun _ => False)) (fun f => f), h.b.kept (Touch.of_below hb (fun _ => False)) (fun f => f), h.l.kept (Touch.of_below hb (fun _ => False)) (fun f => f), h.np, h.nb, h.nl⟩

/-- The queue and the three rows that go out. -/
structure Outs (w0 w : World) (Q G p : Nat) (qs : List QE) (len N head : Nat) (base : Int) (XP XB XL : List Value) : Prop where
  q : Que w Q G qs len N head base
  rp : At w p 2 XP
  rb : At w (p + 1) 4 XB
  rl : At w (p + 1 + 1) 4 XL
  hQ : Q < p
  hG : G < p
  bel : Below w0.heap.size w0 w
  new : w0.heap.size ≤ p
section
variable {w0 w : World} {Q G p : Nat} {qs : List QE} {len N head : Nat} {base : Int} {XP XB XL : List Value}
theorem Outs.setP (h : Outs w0 w Q G p qs len N head base XP XB XL) (i : Nat) (v : Value) : Outs w0 (w.setCell ⟨p, i, none⟩ v) Q G p qs len N head base (XP.set i v) XB XL :=
  have h1 := h.hQ
  have h2 := h.hG
  ⟨⟨h.q.q.other (by show Q ≠ p; omega) v, h.q.g.other (by show G ≠ p; omega) v, h.q.ne, h.q.len⟩, h.rp.set i v, h.rb.other (by show p + 1 ≠ p; omega) v, h.rl.other (by show p + 1 + 1 ≠ p; omega) v, h1, h2, h.bel.setCell h.new v, h.new⟩
theorem Outs.setB (h : Outs w0 w Q G p qs len N head base XP XB XL) (i : Nat) (v : Value) : Outs w0 (w.setCell ⟨p + 1, i, none⟩ v) Q G p qs len N head base XP (XB.set i v) XL :=
  have h1 := h.hQ
  have h2 := h.hG
  have h3 := h.new
  ⟨⟨h.q.q.other (by show Q ≠ p + 1; omega) v, h.q.g.other (by show G ≠ p + 1; omega) v, h.q.ne, h.q.len⟩, h.rp.other (by show p ≠ p + 1; omega) v, h.rb.set i v, h.rl.other (by show p + 1 + 1 ≠ p + 1; omega) v, h1, h2, h.bel.setCell (by show _ ≤ p + 1; omega) v, h.new⟩
theorem Outs.setL (h : Outs w0 w Q G p qs len N head base XP XB XL) (i : Nat) (v : Value) : Outs w0 (w.setCell ⟨p + 1 + 1, i, none⟩ v) Q G p qs len N head base XP XB (XL.set i v) :=
  have h1 := h.hQ
  have h2 := h.hG
  have h3 := h.new
  ⟨⟨h.q.q.other (by show Q ≠ p + 1 + 1; omega) v, h.q.g.other (by show G ≠ p + 1 + 1; omega) v, h.q.ne, h.q.len⟩, h.rp.other (by show p ≠ p + 1 + 1; omega) v, h.rb.other (by show p + 1 ≠ p + 1 + 1; omega) v, h.rl.set i v, h1, h2, h.bel.setCell (by show _ ≤ p + 1 + 1; omega) v, h.new⟩
end
/-- A row as it is filled. -/
def fill (X : List Value) (z : Value) (i : Nat) : List Value := X.take i ++ List.replicate (X.length - i) z
theorem fill_at (X : List Value) (z : Value) {i : Nat} (h : i < X.length) : (fill X z i)[i]? = some z := by
  unfold fill
  rw [List.getElem?_append_right (by rw [List.length_take]; omega), List.getElem?_replicate, if_pos (by rw [List.length_take]; omega)]
theorem fill_set (X : List Value) (z v : Value) {i : Nat} (h : X[i]? = some v) : (fill X z i).set i v = fill X z (i + 1) := by
  have hi := (List.getElem?_eq_some_iff.1 h).1
  unfold fill
  rw [List.set_append_right _ _ (by rw [List.length_take]; omega), List.length_take, Nat.min_eq_left (by omega), Nat.sub_self, show X.length - i = (X.length - (i + 1)) + 1 by omega, List.replicate_succ, List.set_cons_zero, List.take_add_one, h, List.append_assoc]
  rfl
theorem fill_end (X : List Value) (z : Value) : fill X z X.length = X := by simp [fill]
theorem fill_zero (X : List Value) (z : Value) : fill X z 0 = List.replicate X.length z := by simp [fill]

theorem Part.outs {P : List Int} {B L : List Bool} {es : List QE} {n k : Nat} {e : QE} (h : Part P B L es n) (hP : P.length = n) (hB : B.length = n) (hL : L.length = n) (he : es[k]? = some e) :
    (es.set k (gone e)).map QE.p = P ∧ (es.set k (gone e)).map (fun e => e.b.isSome) = B.set k false ∧ (es.set k (gone e)).map QE.l = L.set k false := by
  have hk := (List.getElem?_eq_some_iff.1 he).1
  refine ⟨?_, ?_, ?_⟩
  · rw [List.map_set, ← List.take_of_length_le (Nat.le_of_eq hP), ← h.p]
    have h1 : (es.map QE.p)[k]? = some e.p := by rw [List.getElem?_map, he]; rfl
    have h2 := (List.getElem?_eq_some_iff.1 h1).2
    have h3 : (gone e).p = (es.map QE.p)[k]'(by rw [List.length_map]; exact hk) := h2.symm
    rw [h3, List.set_getElem_self]
  · rw [List.map_set, h.b, List.take_of_length_le (Nat.le_of_eq hB)]; rfl
  · rw [List.map_set, h.l, List.take_of_length_le (Nat.le_of_eq hL)]; rfl
theorem mapP (qs : List QE) : (qs.map QE.p).map (Value.int .i64) = qs.map (fun e => Value.int .i64 e.p) := by rw [List.map_map]; rfl
theorem mapB (qs : List QE) : (qs.map (fun e => e.b.isSome)).map Value.bool = qs.map (fun e => Value.bool e.b.isSome) := by rw [List.map_map]; rfl
theorem mapL (qs : List QE) : (qs.map QE.l).map Value.bool = qs.map (fun e => Value.bool e.l) := by rw [List.map_map]; rfl
theorem fill_end' (X : List Value) (z : Value) {i : Nat} (h : X.length = i) : fill X z i = X := by rw [← h, fill_end]

theorem Que.drew1 {w : World} {Q G : Nat} {qs : List QE} {n N head : Nat} {base : Int} (h : Que w Q G qs n N head base) : Que w.drew Q G qs n N head base := h.drewN 1

set_option maxRecDepth 100000 in
set_option maxHeartbeats 2000000 in
theorem zz_any (gP gB gL : Nat) (P : List Int) (B L : List Bool) (n head : Nat) (base slot : Int) (k f m : Nat) (w : World) (h3 : Hid (Three w gP gB gL P B L n)) (hn : n ≤ 65536) (hk : k < n) (hks : Hid (IntKind.i64.wrap (slot - base) = k))
    (hsp : Hid (Span (L.set k false) f m)) (hh : head ≤ f) :
    Calls Try.prog 5 #[.slice (some ⟨gP, 0, none⟩) n n, .slice (some ⟨gB, 0, none⟩) n n, .slice (some ⟨gL, 0, none⟩) n n, .int .i64 head, .int .i64 base, .int .i64 slot] w fun r w' => ∃ (p b l off len head' : Nat) (base' : Int),
      r = .returned (.tuple #[.slice (some ⟨p, 0, none⟩) len len, .slice (some ⟨b, 0, none⟩) len len, .slice (some ⟨l, 0, none⟩) len len, .int .i64 head', .int .i64 base']) ∧ off + len ≤ n ∧
      At w' p 2 (((P.drop off).take len).map (Value.int .i64)) ∧ At w' b 4 ((((B.set k false).drop off).take len).map Value.bool) ∧ At w' l 4 ((((L.set k false).drop off).take len).map Value.bool) ∧ Left n f m base off len head' base' ∧ Below w.heap.size w w' := by
  have hmk := make38 n hn
  go_enter Try.func5, Try.ntmps5
  go_upto_block 0 with fail
  clear hmk
  have H0 : Hid (Que ((w.alloc (.cells (flat (List.replicate n zeroE)).toArray 38)).alloc (.cells #[.slice (some ⟨w.heap.size, 0, none⟩) n n, .int .i64 head, .int .i64 base] 30)) (w.heap.size + 1) w.heap.size ([] ++ List.replicate (n - 0) zeroE) n n head base) := by
    refine ⟨?_, (At.new w 38 _).alloc _, by omega, by simp⟩
    have h := heap_alloc_new (w.alloc (.cells (flat (List.replicate n zeroE)).toArray 38)) (.cells #[.slice (some ⟨w.heap.size, 0, none⟩) n n, .int .i64 head, .int .i64 base] 30)
    rw [World.size_alloc] at h
    exact h
  have HB0 : Hid (Below w.heap.size w ((w.alloc (.cells (flat (List.replicate n zeroE)).toArray 38)).alloc (.cells #[.slice (some ⟨w.heap.size, 0, none⟩) n n, .int .i64 head, .int .i64 base] 30))) := ((Below.refl _ w).alloc (Nat.le_refl _) _).alloc (by simp) _
  have hgQ : w.heap.size ≤ w.heap.size + 1 := by omega
  have hgG : w.heap.size ≤ w.heap.size := Nat.le_refl _
  generalize ((w.alloc (.cells (flat (List.replicate n zeroE)).toArray 38)).alloc (.cells #[.slice (some ⟨w.heap.size, 0, none⟩) n n, .int .i64 head, .int .i64 base] 30)) = w1 at *
  generalize w.heap.size + 1 = Q at *
  obtain ⟨G, hG⟩ : ∃ G, G = w.heap.size := ⟨_, rfl⟩
  rw [← hG] at H0 ⊢
  rw [show (w.heap.size ≤ w.heap.size) = (w.heap.size ≤ G) by rw [hG]] at hgG
  clear hG
  go_wp2_with fail
  go_loopw [18, 19] (fun i _ wr => ∃ (j : Nat) (es : List QE), i = .int .i64 (j : Nat) ∧ j ≤ n ∧ Hid (Part P B L es j) ∧ Hid (Que wr Q G (es ++ List.replicate (n - j) zeroE) n n head base) ∧ Hid (Below w.heap.size w wr)) (fun i _ _ => n - (intOf i).toNat)
  case atStart => exact ⟨0, [], rfl, Nat.zero_le _, ⟨rfl, rfl, rfl, rfl⟩, H0, HB0⟩
  case round =>
    clear H0 HB0
    obtain ⟨j, es, rfl, hj, hE, hQ, hB⟩ := hrel
    by_cases hlt : j < n
    · have h3w := h3.out.kept hB.out
      obtain ⟨pv, hpv⟩ : ∃ v, P[j]? = some v := ⟨_, List.getElem?_eq_getElem (by rw [h3w.np]; exact hlt)⟩
      obtain ⟨bv, hbv⟩ : ∃ v, B[j]? = some v := ⟨_, List.getElem?_eq_getElem (by rw [h3w.nb]; exact hlt)⟩
      obtain ⟨lv, hlv⟩ : ∃ v, L[j]? = some v := ⟨_, List.getElem?_eq_getElem (by rw [h3w.nl]; exact hlt)⟩
      have hxb := h3w.b.cell (i := j) (v := .bool bv) (by rw [List.getElem?_map, hbv]; rfl)
      have HV : Hid (P[j]? = some pv ∧ B[j]? = some bv ∧ L[j]? = some lv) := ⟨hpv, hbv, hlv⟩
      clear hpv hbv hlv h3w
      go_upto_if 40 with fail
      go_cut [19] (fun x wx => ∃ o : Option Addr, x = .pointer o ∧ Hid (o.isSome = bv) ∧ Hid (Que wx Q G (es ++ List.replicate (n - j) zeroE) n n head base) ∧ Hid (Below w.heap.size w wx))
      case first =>
        clear hxb
        cases bv
        · go_wp2_with fail
          go_meet
          case rel => exact ⟨none, rfl, rfl, hQ, hB⟩
        · go_wp2_with fail
          go_meet
          case rel => exact ⟨some ⟨wr.heap.size, 0, none⟩, rfl, rfl, ⟨hQ.out.q.alloc _, hQ.out.g.alloc _, hQ.out.ne, hQ.out.len⟩, hB.out.alloc hB.out.size _⟩
      case rest =>
        obtain ⟨o, rfl, ho, hQ2, hB2⟩ := hcut
        clear hxb hQ hB
        have h3w := h3.out.kept hB2.out
        have hxp := h3w.p.cell (i := j) (v := .int .i64 pv) (by rw [List.getElem?_map, HV.out.1]; rfl)
        have hxl := h3w.l.cell (i := j) (v := .bool lv) (by rw [List.getElem?_map, HV.out.2.2]; rfl)
        have e0 : (es ++ List.replicate (n - j) zeroE)[j]? = some zeroE := by
          rw [List.getElem?_append_right (by rw [hE.out.len]; omega), List.getElem?_replicate, if_pos (by rw [hE.out.len]; omega)]
        have hc0 := hQ2.out.c0
        have hx0 := hQ2.out.p e0
        have hx1 := hQ2.out.b e0
        have hx2 := hQ2.out.l e0
        have hf0 := hQ2.out.freeG (j * 3)
        have hf1 := hQ2.out.freeG (j * 3 + 1)
        have hf2 := hQ2.out.freeG (j * 3 + 2)
        clear h3w e0
        go_wp2_with fail
        go_region
        go_wp2_with fail
        go_roundw
        case measure => simp [intOf]; omega
        case rel => exact ⟨j + 1, es ++ [{ p := pv, b := o, l := lv }], by go_num, by omega, hide (hE.out.push (o := o) HV.out.1 (by rw [HV.out.2.1, ho.out]) HV.out.2.2), hide (Que.put hE.out.len hlt hQ2.out pv o lv).drew1, (((hB2.out.setCell hgG _).setCell hgG _).setCell hgG _).drew⟩
    · obtain rfl : j = n := by omega
      have hQ' : Hid (Que wr Q G es j j head base) := by
        have := hQ.out
        rwa [Nat.sub_self, List.replicate_zero, List.append_nil] at this
      obtain ⟨e, he⟩ : ∃ e, es[k]? = some e := ⟨_, List.getElem?_eq_getElem (by rw [hE.out.len]; exact hk)⟩
      have HE := hide he
      have HM : Hid ((es.set k (gone e)).map QE.l = L.set k false) := by
        rw [Hid, List.map_set, hE.out.l, List.take_of_length_le (by rw [h3.out.nl]; exact Nat.le_refl _)]; rfl
      have HR := hide (remove_any Q G j es head base slot k f m e wr hQ' hn hk he hks.out (by rw [HM.out]; exact hsp) hh)
      clear hQ he hlt hj hQ'
      go_wp2_with fail
      refine (unhide HR).mono ?_
      rintro r w2 ⟨rfl, qs', off, len, head', base', hQ3, hol, htk, hLf, hT3⟩
      have HQ3 := hide hQ3
      have HTK := hide htk
      have HLF := hide hLf
      have HB3 : Hid (Below w.heap.size w w2) := hT3.below hB.out hB.out.size (fun k _ h => by rcases h with rfl | rfl <;> assumption)
      clear hQ3 htk hLf hT3 HR hB
      have hm2 := make2 len (by omega)
      have hm4 := make4 len (by omega)
      have hc0 := HQ3.out.c0
      have hQlt := HQ3.out.q.lt
      go_upto_block 2 with fail
      clear hm2 hm4 hc0
      have HLen : Hid ((qs'.take len).length = len) := by rw [Hid, List.length_take, HQ3.out.len]; omega
      have HO : Hid (Outs w (((w2.alloc (.cells (Array.replicate len (Value.int IntKind.i64 0)) 2)).alloc (.cells (Array.replicate len (Value.bool false)) 4)).alloc (.cells (Array.replicate len (Value.bool false)) 4)) Q G w2.heap.size qs' len j head' base'
          (fill ((qs'.take len).map (fun e => Value.int .i64 e.p)) (.int .i64 0) 0) (fill ((qs'.take len).map (fun e => Value.bool e.b.isSome)) (.bool false) 0) (fill ((qs'.take len).map (fun e => Value.bool e.l)) (.bool false) 0)) := by
        rw [Hid, fill_zero, fill_zero, fill_zero, List.length_map, List.length_map, List.length_map, HLen.out]
        have s1 : (w2.alloc (.cells (Array.replicate len (Value.int IntKind.i64 0)) 2)).heap.size = w2.heap.size + 1 := World.size_alloc _ _
        have s2 : ((w2.alloc (.cells (Array.replicate len (Value.int IntKind.i64 0)) 2)).alloc (.cells (Array.replicate len (Value.bool false)) 4)).heap.size = w2.heap.size + 1 + 1 := by rw [World.size_alloc, s1]
        have a1 : At (w2.alloc (.cells (Array.replicate len (Value.int IntKind.i64 0)) 2)) w2.heap.size 2 (List.replicate len (.int .i64 0)) := by
          rw [At, heap_alloc_new]; simp
        have a2 : At ((w2.alloc (.cells (Array.replicate len (Value.int IntKind.i64 0)) 2)).alloc (.cells (Array.replicate len (Value.bool false)) 4)) (w2.heap.size + 1) 4 (List.replicate len (.bool false)) := by
          rw [At, ← s1, heap_alloc_new]; simp
        have a3 : At (((w2.alloc (.cells (Array.replicate len (Value.int IntKind.i64 0)) 2)).alloc (.cells (Array.replicate len (Value.bool false)) 4)).alloc (.cells (Array.replicate len (Value.bool false)) 4)) (w2.heap.size + 1 + 1) 4 (List.replicate len (.bool false)) := by
          rw [At, ← s2, heap_alloc_new]; simp
        have hsz := HB3.out.size
        exact ⟨⟨((HQ3.out.q.alloc _).alloc _).alloc _, ((HQ3.out.g.alloc _).alloc _).alloc _, HQ3.out.ne, HQ3.out.len⟩, (a1.alloc _).alloc _, a2.alloc _, a3, hQlt, HQ3.out.g.lt, ((HB3.out.alloc hsz _).alloc (by rw [s1]; omega) _).alloc (by rw [s2]; omega) _, hsz⟩
      clear HQ3 HB3 hQlt
      generalize (((w2.alloc (.cells (Array.replicate len (Value.int IntKind.i64 0)) 2)).alloc (.cells (Array.replicate len (Value.bool false)) 4)).alloc (.cells (Array.replicate len (Value.bool false)) 4)) = w5 at *
      generalize w2.heap.size = p at *
      go_wp2_with fail
      go_loopw [23] (fun x wr => ∃ i : Nat, x = .int .i64 (i : Nat) ∧ i ≤ len ∧ Hid (Outs w wr Q G p qs' len j head' base'
          (fill ((qs'.take len).map (fun e => Value.int .i64 e.p)) (.int .i64 0) i) (fill ((qs'.take len).map (fun e => Value.bool e.b.isSome)) (.bool false) i) (fill ((qs'.take len).map (fun e => Value.bool e.l)) (.bool false) i))) (fun x _ => len - (intOf x).toNat)
      case atStart => exact ⟨0, rfl, Nat.zero_le _, HO⟩
      case round =>
        clear HO
        obtain ⟨i, rfl, hi, hO⟩ := hrel
        by_cases hlt : i < len
        · obtain ⟨e1, he1⟩ : ∃ e, qs'[i]? = some e := ⟨_, List.getElem?_eq_getElem (by rw [hO.out.q.len]; omega)⟩
          have HE1 : Hid (qs'[i]? = some e1) := he1
          have HT1 : Hid ((qs'.take len)[i]? = some e1) := by rw [Hid, List.getElem?_take, if_pos hlt]; exact he1
          clear he1
          have hc0 := hO.out.q.c0
          have hx := hO.out.q.p HE1.out
          have hy := hO.out.rp.cell (fill_at _ _ (by rw [List.length_map, HLen.out]; exact hlt))
          have hf := hO.out.rp.free i
          go_upto_region 17 with fail
          have hO1 := hide (hO.out.setP i (.int .i64 e1.p))
          rw [fill_set _ _ (Value.int .i64 e1.p) (by rw [List.getElem?_map, HT1.out]; rfl)] at hO1
          clear hO hc0 hx hy hf
          generalize wr.setCell ⟨p, i, none⟩ (.int .i64 e1.p) = wr1 at *
          have hc0 := hO1.out.q.c0
          have hx := hO1.out.q.b HE1.out
          have hy := hO1.out.rb.cell (fill_at _ _ (by rw [List.length_map, HLen.out]; exact hlt))
          have hf := hO1.out.rb.free i
          go_upto_region 18 with fail
          have hO2 := hide (hO1.out.setB i (.bool e1.b.isSome))
          rw [fill_set _ _ (Value.bool e1.b.isSome) (by rw [List.getElem?_map, HT1.out]; rfl)] at hO2
          clear hO1 hc0 hx hy hf
          generalize wr1.setCell ⟨p + 1, i, none⟩ (.bool e1.b.isSome) = wr2 at *
          have hc0 := hO2.out.q.c0
          have hx := hO2.out.q.l HE1.out
          have hy := hO2.out.rl.cell (fill_at _ _ (by rw [List.length_map, HLen.out]; exact hlt))
          have hf := hO2.out.rl.free i
          go_wp2_with fail
          go_roundw
          case measure => simp [intOf]; omega
          case rel =>
            have hO3 := hide (hO2.out.setL i (.bool e1.l))
            rw [fill_set _ _ (Value.bool e1.l) (by rw [List.getElem?_map, HT1.out]; rfl)] at hO3
            exact ⟨i + 1, by go_num, by omega, hO3⟩
        · obtain rfl : i = len := by omega
          have hc0 := hO.out.q.c0
          have hc1 := hO.out.q.c1
          have hc2 := hO.out.q.c2
          have HX := hide (hE.out.outs h3.out.np h3.out.nb h3.out.nl HE.out)
          go_wp2_with fail
          go_quiet (fail)
          go_wp2_with fail
          refine bodyPost_ret (v := .tuple #[.slice (some ⟨p, 0, none⟩) i i, .slice (some ⟨p + 1, 0, none⟩) i i, .slice (some ⟨p + 1 + 1, 0, none⟩) i i, .int .i64 head', .int .i64 base']) (by simp [results, Try.results5, go_sem]) rfl ⟨p, p + 1, p + 1 + 1, off, i, head', base', rfl, hol, ?_, ?_, ?_, HLF.out, ?_⟩
          · have h := hO.out.rp.drewN nq
            rw [fill_end' _ _ (by rw [List.length_map, HLen.out]), HTK.out, ← mapP, List.map_take, List.map_drop, HX.out.1] at h
            exact h
          · have h := hO.out.rb.drewN nq
            rw [fill_end' _ _ (by rw [List.length_map, HLen.out]), HTK.out, ← mapB, List.map_take, List.map_drop, HX.out.2.1] at h
            exact h
          · have h := hO.out.rl.drewN nq
            rw [fill_end' _ _ (by rw [List.length_map, HLen.out]), HTK.out, ← mapL, List.map_take, List.map_drop, HX.out.2.2] at h
            exact h
          · exact ((Touch.refl (fun _ => False) _).drewN nq).below hO.out.bel hO.out.bel.size (fun _ _ f => f.elim)
end Go.Proofs.Qxb6618449a
