/- The reference's integers by their worth: Of, Small, Cmp, Minus, Power, digit. The reference's integers: Power, digit. The reference's integers: Mul. -/
import Derived.Test.YtloloifngbmibaaGreatDoorM19
import Derived.Test.YtloloifngbmibaaGreatDoorM20
set_option linter.unusedVariables false
set_option linter.unusedSimpArgs false
set_option maxRecDepth 4000
namespace Go.Proofs.YtloloifngbmibaaGreatDoor
open Go.RowKit

/-- An integer of the reference worth x, of L bytes at most, in blocks from B on. -/
def HI (L B : Nat) (x : Int) (v : Value) (W : World) : Prop := ∃ neg mag, (∃ S : Nat → Prop, SpI W S v neg mag ∧ ∀ k, S k → B ≤ k ∧ k < W.heap.size) ∧ ByL mag ∧ Lead mag ∧ (neg = true → mag ≠ []) ∧ iv neg mag = x ∧ mag.length ≤ L
theorem HI.up {L B : Nat} {x : Int} {v : Value} {W W' : World} (h : HI L B x v W) (hb : Below W.heap.size W W') : HI L B x v W' := by
  obtain ⟨neg, mag, ⟨S, h1, h2⟩, h3⟩ := h
  exact ⟨neg, mag, ⟨S, h1.keep (still_below hb (fun k hk => (h2 k hk).2)), fun k hk => ⟨(h2 k hk).1, Nat.lt_of_lt_of_le (h2 k hk).2 hb.size⟩⟩, h3⟩
theorem HI.low {L L' B B' : Nat} {x : Int} {v : Value} {W : World} (h : HI L B x v W) (hB : B' ≤ B) (hL : L ≤ L') : HI L' B' x v W := by
  obtain ⟨neg, mag, ⟨S, h1, h2⟩, h3, h4, h5, h6, h7⟩ := h
  exact ⟨neg, mag, ⟨S, h1, fun k hk => ⟨Nat.le_trans hB (h2 k hk).1, (h2 k hk).2⟩⟩, h3, h4, h5, h6, Nat.le_trans h7 hL⟩
theorem HI.set {L B : Nat} {x : Int} {v : Value} {W : World} (h : HI L B x v W) {g : Nat} (hg : g < B) (i : Nat) (u : Value) : HI L B x v (W.setCell ⟨g, i, none⟩ u) := by
  obtain ⟨neg, mag, ⟨S, h1, h2⟩, h3⟩ := h
  refine ⟨neg, mag, ⟨S, h1.keep ((Still.refl _ _).set (p := ⟨g, i, none⟩) (fun k hk => by have := (h2 k hk).1; show k ≠ g; omega) u), fun k hk => ⟨(h2 k hk).1, by simpa [World.setCell] using (h2 k hk).2⟩⟩, h3⟩
theorem HI.shape {L B : Nat} {x : Int} {v : Value} {W : World} (h : HI L B x v W) : ∃ neg A n c, v = .agg #[.bool neg, .slice A n c] := by
  obtain ⟨neg, mag, ⟨S, ⟨mv, rfl, A, c, rfl, _⟩, _⟩, _⟩ := h
  exact ⟨neg, A, _, c, rfl⟩
theorem HI.of {L : Nat} {neg : Bool} {l : List Int} {v : Value} {w W : World} (h : SpI W (Nw w W) v (sgn2 neg (strip l)) (strip l)) (hl : ByL l) (hL : (strip l).length ≤ L) : HI L w.heap.size (iv neg l) v W := by
  refine ⟨_, _, ⟨_, h, fun k hk => hk⟩, hl.strip, strip_lead l, ?_, ?_, hL⟩
  · unfold sgn2
    intro h1 h2
    rw [h2] at h1
    simp at h1
  · unfold iv sgn2
    rw [bv_strip]
    cases neg
    · simp
    · by_cases h0 : 0 < (strip l).length
      · simp [h0]
      · have : strip l = [] := List.eq_nil_of_length_eq_zero (by omega)
        have h2 := bv_strip l
        rw [this] at h2 ⊢
        simp [bv] at h2 ⊢
        omega

theorem ofI (S : Nat → Prop) (neg : Bool) (v : Value) (l : List Int) (hl : ByL l) (hn : l.length ≤ 140737488355328) (w : World) (h : SlV w S .u8 v l) (hS : ∀ k, S k → k < w.heap.size) :
    Calls Tryz.prog 23 #[.bool neg, v] w fun e w' => ∃ v', e = .returned v' ∧ HI l.length w.heap.size (iv neg l) v' w' ∧ Below w.heap.size w w' := by
  refine (of_any S neg v l hn w h hS).mono ?_
  rintro e w' ⟨v', rfl, h1, h2⟩
  exact ⟨v', rfl, HI.of h1 hl (strip_len l), h2⟩

theorem smallI (x : Int) (h0 : -9223372036854775808 ≤ x) (h1 : x ≤ 9223372036854775807) (w : World) :
    Calls Tryz.prog 8 #[.int .i64 x] w fun e w' => ∃ v', e = .returned v' ∧ HI 8 w.heap.size x v' w' ∧ Below w.heap.size w w' := by
  refine (small_any x h0 h1 w).mono ?_
  rintro e w' ⟨v', rfl, h2, h3⟩
  have h4 := HI.of (L := 8) h2 (be8_by _) (strip_len _)
  have h5 : iv (decide (x < 0)) (be8 (x.natAbs : Int)) = x := by
    unfold iv
    rw [bv_be8 _ (by omega) (by omega)]
    by_cases hx : x < 0
    · rw [if_pos (decide_eq_true hx)]; omega
    · rw [if_neg (by simpa using hx)]; omega
  rw [h5] at h4
  exact ⟨v', rfl, h4, h3⟩

theorem cmpII {L L' B B' : Nat} {x y : Int} {v v' : Value} {W : World} (hL : L ≤ 1000000) (hL' : L' ≤ 1000000) (h : HI L B x v W) (h' : HI L' B' y v' W) :
    Calls Tryz.prog 12 #[v, v'] W fun e w' => e = .returned (.int .i64 (sgnc x y)) ∧ Below W.heap.size W w' := by
  obtain ⟨n1, a, ⟨S, s1, s1'⟩, b1, l1, g1, rfl, k1⟩ := h
  obtain ⟨n2, b, ⟨S', s2, s2'⟩, b2, l2, g2, rfl, k2⟩ := h'
  rw [← cmpI_iv b1 b2 l1 l2 g1 g2]
  exact cmp_any S S' v v' n1 n2 a b (by omega) (by omega) W s1 s2 (fun k hk => (s1' k hk).2) (fun k hk => (s2' k hk).2)

/-- The end of a function whose result's block is g: what it holds. -/
theorem res2 {W : World} {g : Nat} {a b u0 u1 : Value} (h : Blk W g 32 #[u0, u1]) : Blk ((W.setCell ⟨g, 0, none⟩ a).setCell ⟨g, 1, none⟩ b) g 32 #[a, b] := by
  have := (h.set 0 a).set 1 b
  simpa using this

theorem minusI {L B : Nat} {x : Int} {v : Value} {w : World} (hL : L ≤ 1000000) (h : HI L B x v w) :
    Calls Tryz.prog 10 #[v] w fun e w' => ∃ v', e = .returned v' ∧ HI L w.heap.size (-x) v' w' ∧ Below w.heap.size w w' := by
  obtain ⟨neg, l, ⟨S, ⟨mv, rfl, hsl⟩, hS⟩, hb, hl, hn, rfl, hk⟩ := h
  have HC : Hid (∀ W : World, Below w.heap.size w W → Calls Tryz.prog 23 #[.bool (!neg), mv] W fun e w' => ∃ v', e = .returned v' ∧ HI l.length W.heap.size (iv (!neg) l) v' w' ∧ Below W.heap.size W w') :=
    Lib.hid fun W hW => ofI S (!neg) mv l hb (by omega) W (hsl.keep (still_below hW (fun k hk => (hS k hk).2))) (fun k hk => Nat.lt_of_lt_of_le (hS k hk).2 hW.size)
  have HE : Hid (iv (!neg) l = -(iv neg l)) := Lib.hid (by cases neg <;> simp [iv])
  have HK := Lib.hid hk
  obtain ⟨A0, c0, hv0, _⟩ := hsl
  subst hv0
  clear hS hb hl hn hk
  go_enter Tryz.func10, Tryz.ntmps10
  go_wp2_with fail
  refine (HC.out _ (((Below.refl _ _).alloc (Nat.le_refl _) _).alloc (by simp) _)).mono ?_
  rintro e w1 ⟨v', rfl, hv, hb⟩
  obtain ⟨n1, A1, m1, c1, rfl⟩ := hv.shape
  have hrow := (Blk.new (w.alloc (.cells #[.bool neg, .slice A0 l.length c0] 32)) 32 #[.bool false, .slice none 0 0]).below hb (by simp)
  rw [show (w.alloc (.cells #[.bool neg, .slice A0 l.length c0] 32)).heap.size = w.heap.size + 1 by simp] at hrow
  have hbe := Lib.hid (below_up (((Below.refl _ _).alloc (Nat.le_refl _) _).alloc (by simp) _) hb)
  have hv1 := hv.low (B' := w.heap.size + 2) (by simp) HK.out
  have hfin := Lib.hid ((hv1.set (g := w.heap.size + 1) (by omega) 0 (.bool n1)).set (g := w.heap.size + 1) (by omega) 1 (.slice A1 m1 c1))
  have hres := Lib.hid (res2 (a := .bool n1) (b := .slice A1 m1 c1) hrow)
  have k0 := hrow.cell 0
  have k1 := hrow.cell 1
  have f0 := hrow.frozen 0
  have f1 := hrow.frozen 1
  have hlt := hrow.lt
  simp at k0 k1
  clear hrow hb hv hv1
  go_wp2
  clear k0 k1
  have r0 := hres.out.cell 0
  have r1 := hres.out.cell 1
  simp at r0 r1
  exact bodyPost_ret (v := .agg #[.bool n1, .slice A1 m1 c1]) (by simp [results, Tryz.results10, go_sem, r0, r1]) rfl ⟨_, rfl, by have h := hfin.out; rw [HE.out] at h; exact h.low (by omega) (Nat.le_refl _), ((hbe.out.setCell (by simp) _).setCell (by simp) _)⟩
end Go.Proofs.YtloloifngbmibaaGreatDoor
set_option linter.unusedVariables false
set_option linter.unusedSimpArgs false
set_option maxRecDepth 4000
namespace Go.Proofs.YtloloifngbmibaaGreatDoor
open Go.RowKit

theorem digit_any (S : Nat → Prop) (A : Option Addr) (c i : Nat) (l : List Int) (hn : l.length ≤ 1000000) (hi : i ≤ 1000000) (hb : ByL l) (w : World) (hr : Rd w S A (ints .u8 l)) :
    Calls Tryz.prog 165 #[.slice A l.length c, .int .i64 i] w fun e w' => e = .returned (.int .i64 (l.reverse[i]?.getD 0)) ∧ w' = w := by
  by_cases h : i < l.length
  · obtain ⟨b, o, rfl, _, hc⟩ := rd_int hr (j := l.length - 1 - i) (by omega)
    have e : l.reverse[i]?.getD 0 = l[l.length - 1 - i]?.getD 0 := by
      rw [List.getElem?_reverse h]
    rw [e]
    have hbd := hb.at_ (l.length - 1 - i)
    obtain ⟨n, hnn⟩ : ∃ n, n = l.length := ⟨_, rfl⟩
    rw [← hnn] at hn h hc hbd ⊢
    generalize l[n - 1 - i]?.getD 0 = d at *
    have k1 : ((n : Int) - 1 - (i : Int)).toNat = n - 1 - i := by omega
    have k2 : 0 ≤ (n : Int) - 1 - (i : Int) := by omega
    clear hr hb e hnn
    go_enter Tryz.func165, Tryz.ntmps165
    go_wp2
    go_ret
    exact ⟨rfl, rfl⟩
  · have e : l.reverse[i]?.getD 0 = 0 := by
      rw [List.getElem?_eq_none (by simp; omega)]
      rfl
    rw [e]
    have h1 : (l.length : Int) ≤ (i : Int) := by omega
    clear hr hb e h
    go_enter Tryz.func165, Tryz.ntmps165
    go_wp2
    go_ret
    exact ⟨rfl, rfl⟩

theorem power_any (n : Nat) (hn : n ≤ 4000) (w : World) :
    Calls Tryz.prog 9 #[.int .i64 n] w fun e w' => ∃ v', e = .returned v' ∧ HI (n / 8 + 1) w.heap.size (2 ^ n) v' w' ∧ Below w.heap.size w w' := by
  obtain ⟨i0, hi, hz0, hz1, hz2⟩ := info_parts info_u8
  obtain ⟨q, hq⟩ : ∃ q, q = n / 8 := ⟨_, rfl⟩
  obtain ⟨r, hr⟩ : ∃ r, r = n % 8 := ⟨_, rfl⟩
  have f1 : (n : Int) / 8 = (q : Int) := by omega
  have f2 : (n : Int) % 8 = (r : Int) := by omega
  have hmk : ∀ w, (Instr.makeSlice 22 (.int .i64 ((q : Int) + 1)) (.int .i64 ((q : Int) + 1))).run Tryz.prog w = .ok (.slice (some ⟨w.heap.size, 0, none⟩) (q + 1) (q + 1)) (w.alloc (.cells (madeCells #[.int .u8 0] (q + 1)) 5)) := fun w => by
    have h := run_make (P := Tryz.prog) w 22 5 i0 (.int .u8 0) Tryz.underlying22 hi hz0 .i64 .i64 ((q : Int) + 1) ((q : Int) + 1) (by omega) (by omega) (by rw [hz2]; omega) (by omega)
    rw [hz1] at h
    have e : ((q : Int) + 1).toNat = q + 1 := by omega
    simpa [e, Value.cells] using h
  have f3 : IntKind.u64.wrap (r : Int) = (r : Int) := wrapN (by omega)
  have g1 : min r 64 = r := by omega
  have HQ := Lib.hid (And.intro hq hr)
  clear hq hr
  have hm0 : (madeCells #[.int .u8 0] (q + 1))[0]? = some (.int .u8 0) := by rw [madeCells_one]; simp
  have hm1 : Hid ((madeCells #[.int .u8 0] (q + 1)).setIfInBounds 0 (.int .u8 (2 ^ r % 256)) = (ints .u8 ((2 ^ r % 256) :: List.replicate q 0)).toArray) := Lib.hid (by
    rw [madeCells_one]
    simp [ints, List.replicate_succ])
  have hby : Hid (ByL ((2 ^ r % 256) :: List.replicate q 0)) := Lib.hid (ByL.cons.2 ⟨⟨Int.emod_nonneg _ (by decide), Int.emod_lt_of_pos _ (by decide)⟩, ByL.zeros q⟩)
  have hbv : Hid (iv false ((2 ^ r % 256) :: List.replicate q 0) = 2 ^ n) := Lib.hid (by
    have h8 := HQ.out
    have e0 : bv (List.replicate q 0) = 0 := by have := bv_zero q []; simpa [bv] using this
    have e1 : (2 : Int) ^ r % 256 = 2 ^ r := by
      have : r = 0 ∨ r = 1 ∨ r = 2 ∨ r = 3 ∨ r = 4 ∨ r = 5 ∨ r = 6 ∨ r = 7 := by omega
      rcases this with h | h | h | h | h | h | h | h <;> rw [h] <;> decide
    show bv _ = _
    simp only [bv, e0, e1, List.length_replicate, Int.add_zero]
    rw [show (256 : Int) = 2 ^ 8 from rfl, ← Int.pow_mul, ← Int.pow_add, show r + 8 * q = n by omega])
  go_enter Tryz.func9, Tryz.ntmps9
  go_wp2_with fail
  rw [hm1.out]
  have hnb := Blk.new (w.alloc (.cells #[.bool false, .slice none 0 0] 32)) 5 (ints .u8 ((2 ^ r % 256) :: List.replicate q 0)).toArray
  rw [show (w.alloc (.cells #[.bool false, .slice none 0 0] 32)).heap.size = w.heap.size + 1 by simp] at hnb
  have hlen : ((2 ^ r % 256 : Int) :: List.replicate q 0).length = q + 1 := by simp
  have hsl : SlV ((w.alloc (.cells #[.bool false, .slice none 0 0] 32)).alloc (.cells (ints .u8 ((2 ^ r % 256) :: List.replicate q 0)).toArray 5)) (fun k => k = w.heap.size + 1) .u8 (.slice (some ⟨w.heap.size + 1, 0, none⟩) (q + 1) (q + 1)) ((2 ^ r % 256) :: List.replicate q 0) :=
    ⟨_, _, by rw [hlen], by rw [hlen]; exact Nat.le_refl _, Rd.of_blk (ys := []) (by simpa using hnb) rfl⟩
  have HC := Lib.hid (ofI _ false _ _ hby.out (by rw [hlen]; have := HQ.out; omega) _ hsl (fun k hk => by have := hnb.lt; omega))
  have hb0 := Lib.hid (((Below.refl w.heap.size w).alloc (Nat.le_refl _) (.cells #[.bool false, .slice none 0 0] 32)).alloc (by simp) (.cells (ints .u8 ((2 ^ r % 256) :: List.replicate q 0)).toArray 5))
  have hr0 := Lib.hid ((Blk.new w 32 #[.bool false, .slice none 0 0]).alloc (.cells (ints .u8 ((2 ^ r % 256) :: List.replicate q 0)).toArray 5))
  clear hsl hnb hm0 hmk
  refine HC.out.mono ?_
  rintro e w1 ⟨v', rfl, hv, hb⟩
  obtain ⟨n1, A1, m1, c1, rfl⟩ := hv.shape
  have hrow := hr0.out.below hb hr0.out.lt
  have hbe := Lib.hid (below_up hb0.out hb)
  have hv1 := hv.low (B' := w.heap.size + 1) (L' := n / 8 + 1) (by simp) (by rw [hlen]; have := HQ.out; omega)
  rw [hbv.out] at hv1
  have hfin := Lib.hid ((hv1.set (g := w.heap.size) (by omega) 0 (.bool n1)).set (g := w.heap.size) (by omega) 1 (.slice A1 m1 c1))
  have hres := Lib.hid (res2 (a := .bool n1) (b := .slice A1 m1 c1) hrow)
  have k0 := hrow.cell 0
  have k1 := hrow.cell 1
  have f0 := hrow.frozen 0
  have z1 := hrow.frozen 1
  have hlt := hrow.lt
  simp at k0 k1
  clear hrow hb hv hv1 HC hb0 hr0 hbv hby hm1 hlen
  go_wp2
  clear k0 k1
  have r0 := hres.out.cell 0
  have r1 := hres.out.cell 1
  simp at r0 r1
  exact bodyPost_ret (v := .agg #[.bool n1, .slice A1 m1 c1]) (by simp [results, Tryz.results9, go_sem, r0, r1]) rfl ⟨_, rfl, hfin.out.low (by omega) (Nat.le_refl _), ((hbe.out.setCell (by simp) _).setCell (by simp) _)⟩
end Go.Proofs.YtloloifngbmibaaGreatDoor
set_option linter.unusedVariables false
set_option linter.unusedSimpArgs false
set_option maxRecDepth 4000
namespace Go.Proofs.YtloloifngbmibaaGreatDoor
open Go.RowKit

/-- A product, digit by digit, at row i, behind k digits. -/
structure MulR (a b ds : List Int) (i k : Nat) (cy : Int) : Prop where
  len : ds.length = a.length + b.length + 1
  by_ : ByL ds
  c0 : 0 ≤ cy
  c1 : cy < 256
  kl : k ≤ b.length + 1
  eq : dv ds + cy * 256 ^ (i + k) = dv (a.reverse.take i) * dv b.reverse + (a.reverse[i]?.getD 0) * 256 ^ i * dv (b.reverse.take k)
theorem mulR_start {a b ds : List Int} {i : Nat} (hl : ds.length = a.length + b.length + 1) (hb : ByL ds) (he : dv ds = dv (a.reverse.take i) * dv b.reverse) : MulR a b ds i 0 0 :=
  ⟨hl, hb, by decide, by decide, by omega, by simp [he, dv]⟩
theorem mulR_end {a b ds : List Int} {i k : Nat} (h : MulR a b ds i k 0) (hk : b.length ≤ k) : dv ds = dv (a.reverse.take (i + 1)) * dv b.reverse := by
  have e := h.eq
  rw [List.take_of_length_le (l := b.reverse) (by simpa using hk)] at e
  rw [dv_take, Int.add_mul]
  omega
theorem mulR_in {a b ds : List Int} {i k : Nat} {cy : Int} (ha : ByL a) (hb : ByL b) (h : MulR a b ds i k cy) (hi : i < a.length) (hgo : k < b.length ∨ 0 < cy) : i + k < ds.length ∧ k ≤ b.length := by
  have hl := h.len
  rcases Nat.lt_or_ge k b.length with hk | hk
  · omega
  · have hc : 0 < cy := by omega
    have e := h.eq
    rw [List.take_of_length_le (l := b.reverse) (by simpa using hk)] at e
    have e2 : dv (a.reverse.take i) * dv b.reverse + (a.reverse[i]?.getD 0) * 256 ^ i * dv b.reverse = dv (a.reverse.take (i + 1)) * dv b.reverse := by
      rw [dv_take, Int.add_mul]
    rw [e2] at e
    have b1 := dv_bd (ha.rev.take (i + 1))
    have b2 := dv_bd hb.rev
    have b3 := dv_bd h.by_
    rw [List.length_take, List.length_reverse, Nat.min_eq_left (by omega)] at b1
    rw [List.length_reverse] at b2
    have p1 : (0 : Int) < 256 ^ (i + k) := Int.pow_pos (by decide)
    have p2 : (0 : Int) < 256 ^ (i + 1) := Int.pow_pos (by decide)
    have m1 : 1 * 256 ^ (i + k) ≤ cy * 256 ^ (i + k) := Int.mul_le_mul_of_nonneg_right (by omega) (by omega)
    have m2 : dv (a.reverse.take (i + 1)) * dv b.reverse ≤ 256 ^ (i + 1) * dv b.reverse := Int.mul_le_mul_of_nonneg_right (by omega) b2.1
    have m3 : (256 : Int) ^ (i + 1) * dv b.reverse < 256 ^ (i + 1) * 256 ^ b.length := Int.mul_lt_mul_of_pos_left b2.2 p2
    rw [← Int.pow_add] at m3
    have hlt : i + k < i + 1 + b.length := by
      rcases Nat.lt_or_ge (i + k) (i + 1 + b.length) with h1 | h1
      · exact h1
      · have := pw256 h1
        omega
    omega
theorem mulR_step {a b ds : List Int} {i k : Nat} {cy s : Int} (ha : ByL a) (hb : ByL b) (h : MulR a b ds i k cy) (hin : i + k < ds.length) (hk : k ≤ b.length)
    (hs : s = ds[i + k]?.getD 0 + (a.reverse[i]?.getD 0) * (b.reverse[k]?.getD 0) + cy) (hp : 0 ≤ (a.reverse[i]?.getD 0) * (b.reverse[k]?.getD 0) ∧ (a.reverse[i]?.getD 0) * (b.reverse[k]?.getD 0) ≤ 65025) : MulR a b (ds.set (i + k) (s % 256)) i (k + 1) (s / 256) := by
  have hd := h.by_.at_ (i + k)
  have hc0 := h.c0
  have hc1 := h.c1
  refine ⟨by rw [List.length_set]; exact h.len, h.by_.set _ (by omega) (by omega), by omega, by omega, by omega, ?_⟩
  have e := h.eq
  rw [dv_set _ _ _ hin, dv_take, show i + (k + 1) = i + k + 1 by omega, Int.pow_succ]
  generalize ds[i + k]?.getD 0 = d at *
  generalize a.reverse[i]?.getD 0 = x at *
  generalize b.reverse[k]?.getD 0 = y at *
  have e1 : (s % 256 - d) * 256 ^ (i + k) + s / 256 * (256 ^ (i + k) * 256) = (x * y + cy) * 256 ^ (i + k) := by
    have e2 : s % 256 - d = x * y + cy - s / 256 * 256 := by omega
    rw [e2, Int.sub_mul, Int.mul_assoc (s / 256), Int.mul_comm 256 (256 ^ (i + k))]
    omega
  have e3 : x * 256 ^ i * (dv (b.reverse.take k) + y * 256 ^ k) = x * 256 ^ i * dv (b.reverse.take k) + x * y * 256 ^ (i + k) := by
    rw [Int.mul_add, Int.pow_add]
    congr 1
    rw [Int.mul_assoc, Int.mul_assoc, Int.mul_left_comm (256 ^ i)]
  rw [e3, Int.add_assoc, e1, Int.add_mul]
  omega
theorem prod_bd {x y : Int} (hx : 0 ≤ x ∧ x < 256) (hy : 0 ≤ y ∧ y < 256) : 0 ≤ x * y ∧ x * y ≤ 65025 := by
  refine ⟨Int.mul_nonneg hx.1 hy.1, ?_⟩
  have h1 := Int.mul_le_mul_of_nonneg_right (show x ≤ 255 by omega) hy.1
  omega
end Go.Proofs.YtloloifngbmibaaGreatDoor
