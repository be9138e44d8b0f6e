/- The reference's integers by their worth: Of, Small, Cmp, Minus, Power, digit. The reference's integers: Power, digit. The reference's integers: Mul. The reference's integers: the walk of Mul. -/
import Derived.Test.YtloloifngbmibaaGreatDoorM13
import Derived.Test.YtloloifngbmibaaGreatDoorM14
import Derived.BigQuiet
set_option linter.unusedVariables false
set_option linter.unusedSimpArgs false
set_option maxRecDepth 4000
namespace Go.Proofs.YtloloifngbmibaaGreatDoor
open Go.RowKit

/-- An integer of the reference worth x, of L bytes at most, in blocks from B on. -/
def HI (L B : Nat) (x : Int) (v : Value) (W : World) : Prop := ∃ neg mag, (∃ S : Nat → Prop, SpI W S v neg mag ∧ ∀ k, S k → B ≤ k ∧ k < W.heap.size) ∧ ByL mag ∧ Lead mag ∧ (neg = true → mag ≠ []) ∧ iv neg mag = x ∧ mag.length ≤ L
theorem HI.up {L B : Nat} {x : Int} {v : Value} {W W' : World} (h : HI L B x v W) (hb : Below W.heap.size W W') : HI L B x v W' := by
  obtain ⟨neg, mag, ⟨S, h1, h2⟩, h3⟩ := h
  exact ⟨neg, mag, ⟨S, h1.keep (still_below hb (fun k hk => (h2 k hk).2)), fun k hk => ⟨(h2 k hk).1, Nat.lt_of_lt_of_le (h2 k hk).2 hb.size⟩⟩, h3⟩
theorem HI.low {L L' B B' : Nat} {x : Int} {v : Value} {W : World} (h : HI L B x v W) (hB : B' ≤ B) (hL : L ≤ L') : HI L' B' x v W := by
  obtain ⟨neg, mag, ⟨S, h1, h2⟩, h3, h4, h5, h6, h7⟩ := h
  exact ⟨neg, mag, ⟨S, h1, fun k hk => ⟨Nat.le_trans hB (h2 k hk).1, (h2 k hk).2⟩⟩, h3, h4, h5, h6, Nat.le_trans h7 hL⟩
theorem HI.set {L B : Nat} {x : Int} {v : Value} {W : World} (h : HI L B x v W) {g : Nat} (hg : g < B) (i : Nat) (u : Value) : HI L B x v (W.setCell ⟨g, i, none⟩ u) := by
  obtain ⟨neg, mag, ⟨S, h1, h2⟩, h3⟩ := h
  refine ⟨neg, mag, ⟨S, h1.keep ((Still.refl _ _).set (p := ⟨g, i, none⟩) (fun k hk => by have := (h2 k hk).1; show k ≠ g; omega) u), fun k hk => ⟨(h2 k hk).1, by simpa [World.setCell] using (h2 k hk).2⟩⟩, h3⟩
theorem HI.shape {L B : Nat} {x : Int} {v : Value} {W : World} (h : HI L B x v W) : ∃ neg A n c, v = .agg #[.bool neg, .slice A n c] := by
  obtain ⟨neg, mag, ⟨S, ⟨mv, rfl, A, c, rfl, _⟩, _⟩, _⟩ := h
  exact ⟨neg, A, _, c, rfl⟩
theorem HI.of {L : Nat} {neg : Bool} {l : List Int} {v : Value} {w W : World} (h : SpI W (Nw w W) v (sgn2 neg (strip l)) (strip l)) (hl : ByL l) (hL : (strip l).length ≤ L) : HI L w.heap.size (iv neg l) v W := by
  refine ⟨_, _, ⟨_, h, fun k hk => hk⟩, hl.strip, strip_lead l, ?_, ?_, hL⟩
  · unfold sgn2
    intro h1 h2
    rw [h2] at h1
    simp at h1
  · unfold iv sgn2
    rw [bv_strip]
    cases neg
    · simp
    · by_cases h0 : 0 < (strip l).length
      · simp [h0]
      · have : strip l = [] := List.eq_nil_of_length_eq_zero (by omega)
        have h2 := bv_strip l
        rw [this] at h2 ⊢
        simp [bv] at h2 ⊢
        omega

theorem ofI (S : Nat → Prop) (neg : Bool) (v : Value) (l : List Int) (hl : ByL l) (hn : l.length ≤ 140737488355328) (w : World) (h : SlV w S .u8 v l) (hS : ∀ k, S k → k < w.heap.size) :
    Calls Tryz.prog 23 #[.bool neg, v] w fun e w' => ∃ v', e = .returned v' ∧ HI l.length w.heap.size (iv neg l) v' w' ∧ Below w.heap.size w w' := by
  refine (of_any S neg v l hn w h hS).mono ?_
  rintro e w' ⟨v', rfl, h1, h2⟩
  exact ⟨v', rfl, HI.of h1 hl (strip_len l), h2⟩

theorem smallI (x : Int) (h0 : -9223372036854775808 ≤ x) (h1 : x ≤ 9223372036854775807) (w : World) :
    Calls Tryz.prog 8 #[.int .i64 x] w fun e w' => ∃ v', e = .returned v' ∧ HI 8 w.heap.size x v' w' ∧ Below w.heap.size w w' := by
  refine (small_any x h0 h1 w).mono ?_
  rintro e w' ⟨v', rfl, h2, h3⟩
  have h4 := HI.of (L := 8) h2 (be8_by _) (strip_len _)
  have h5 : iv (decide (x < 0)) (be8 (x.natAbs : Int)) = x := by
    unfold iv
    rw [bv_be8 _ (by omega) (by omega)]
    by_cases hx : x < 0
    · rw [if_pos (decide_eq_true hx)]; omega
    · rw [if_neg (by simpa using hx)]; omega
  rw [h5] at h4
  exact ⟨v', rfl, h4, h3⟩

theorem cmpII {L L' B B' : Nat} {x y : Int} {v v' : Value} {W : World} (hL : L ≤ 1000000) (hL' : L' ≤ 1000000) (h : HI L B x v W) (h' : HI L' B' y v' W) :
    Calls Tryz.prog 12 #[v, v'] W fun e w' => e = .returned (.int .i64 (sgnc x y)) ∧ Below W.heap.size W w' := by
  obtain ⟨n1, a, ⟨S, s1, s1'⟩, b1, l1, g1, rfl, k1⟩ := h
  obtain ⟨n2, b, ⟨S', s2, s2'⟩, b2, l2, g2, rfl, k2⟩ := h'
  rw [← cmpI_iv b1 b2 l1 l2 g1 g2]
  exact cmp_any S S' v v' n1 n2 a b (by omega) (by omega) W s1 s2 (fun k hk => (s1' k hk).2) (fun k hk => (s2' k hk).2)

/-- The end of a function whose result's block is g: what it holds. -/
theorem res2 {W : World} {g : Nat} {a b u0 u1 : Value} (h : Blk W g 32 #[u0, u1]) : Blk ((W.setCell ⟨g, 0, none⟩ a).setCell ⟨g, 1, none⟩ b) g 32 #[a, b] := by
  have := (h.set 0 a).set 1 b
  simpa using this

theorem minusI {L B : Nat} {x : Int} {v : Value} {w : World} (hL : L ≤ 1000000) (h : HI L B x v w) :
    Calls Tryz.prog 10 #[v] w fun e w' => ∃ v', e = .returned v' ∧ HI L w.heap.size (-x) v' w' ∧ Below w.heap.size w w' := by
  obtain ⟨neg, l, ⟨S, ⟨mv, rfl, hsl⟩, hS⟩, hb, hl, hn, rfl, hk⟩ := h
  have HC : Hid (∀ W : World, Below w.heap.size w W → Calls Tryz.prog 23 #[.bool (!neg), mv] W fun e w' => ∃ v', e = .returned v' ∧ HI l.length W.heap.size (iv (!neg) l) v' w' ∧ Below W.heap.size W w') :=
    Lib.hid fun W hW => ofI S (!neg) mv l hb (by omega) W (hsl.keep (still_below hW (fun k hk => (hS k hk).2))) (fun k hk => Nat.lt_of_lt_of_le (hS k hk).2 hW.size)
  have HE : Hid (iv (!neg) l = -(iv neg l)) := Lib.hid (by cases neg <;> simp [iv])
  have HK := Lib.hid hk
  obtain ⟨A0, c0, hv0, _⟩ := hsl
  subst hv0
  clear hS hb hl hn hk
  go_enter Tryz.func10, Tryz.ntmps10
  go_wp2_with fail
  refine (HC.out _ (((Below.refl _ _).alloc (Nat.le_refl _) _).alloc (by simp) _)).mono ?_
  rintro e w1 ⟨v', rfl, hv, hb⟩
  obtain ⟨n1, A1, m1, c1, rfl⟩ := hv.shape
  have hrow := (Blk.new (w.alloc (.cells #[.bool neg, .slice A0 l.length c0] 32)) 32 #[.bool false, .slice none 0 0]).below hb (by simp)
  rw [show (w.alloc (.cells #[.bool neg, .slice A0 l.length c0] 32)).heap.size = w.heap.size + 1 by simp] at hrow
  have hbe := Lib.hid (below_up (((Below.refl _ _).alloc (Nat.le_refl _) _).alloc (by simp) _) hb)
  have hv1 := hv.low (B' := w.heap.size + 2) (by simp) HK.out
  have hfin := Lib.hid ((hv1.set (g := w.heap.size + 1) (by omega) 0 (.bool n1)).set (g := w.heap.size + 1) (by omega) 1 (.slice A1 m1 c1))
  have hres := Lib.hid (res2 (a := .bool n1) (b := .slice A1 m1 c1) hrow)
  have k0 := hrow.cell 0
  have k1 := hrow.cell 1
  have f0 := hrow.frozen 0
  have f1 := hrow.frozen 1
  have hlt := hrow.lt
  simp at k0 k1
  clear hrow hb hv hv1
  go_wp2
  clear k0 k1
  have r0 := hres.out.cell 0
  have r1 := hres.out.cell 1
  simp at r0 r1
  exact bodyPost_ret (v := .agg #[.bool n1, .slice A1 m1 c1]) (by simp [results, Tryz.results10, go_sem, r0, r1]) rfl ⟨_, rfl, by have h := hfin.out; rw [HE.out] at h; exact h.low (by omega) (Nat.le_refl _), ((hbe.out.setCell (by simp) _).setCell (by simp) _)⟩
end Go.Proofs.YtloloifngbmibaaGreatDoor
set_option linter.unusedVariables false
set_option linter.unusedSimpArgs false
set_option maxRecDepth 4000
namespace Go.Proofs.YtloloifngbmibaaGreatDoor
open Go.RowKit

theorem digit_any (S : Nat → Prop) (A : Option Addr) (c i : Nat) (l : List Int) (hn : l.length ≤ 1000000) (hi : i ≤ 1000000) (hb : ByL l) (w : World) (hr : Rd w S A (ints .u8 l)) :
    Calls Tryz.prog 165 #[.slice A l.length c, .int .i64 i] w fun e w' => e = .returned (.int .i64 (l.reverse[i]?.getD 0)) ∧ w' = w := by
  by_cases h : i < l.length
  · obtain ⟨b, o, rfl, _, hc⟩ := rd_int hr (j := l.length - 1 - i) (by omega)
    have e : l.reverse[i]?.getD 0 = l[l.length - 1 - i]?.getD 0 := by
      rw [List.getElem?_reverse h]
    rw [e]
    have hbd := hb.at_ (l.length - 1 - i)
    obtain ⟨n, hnn⟩ : ∃ n, n = l.length := ⟨_, rfl⟩
    rw [← hnn] at hn h hc hbd ⊢
    generalize l[n - 1 - i]?.getD 0 = d at *
    have k1 : ((n : Int) - 1 - (i : Int)).toNat = n - 1 - i := by omega
    have k2 : 0 ≤ (n : Int) - 1 - (i : Int) := by omega
    clear hr hb e hnn
    go_enter Tryz.func165, Tryz.ntmps165
    go_wp2
    go_ret
    exact ⟨rfl, rfl⟩
  · have e : l.reverse[i]?.getD 0 = 0 := by
      rw [List.getElem?_eq_none (by simp; omega)]
      rfl
    rw [e]
    have h1 : (l.length : Int) ≤ (i : Int) := by omega
    clear hr hb e h
    go_enter Tryz.func165, Tryz.ntmps165
    go_wp2
    go_ret
    exact ⟨rfl, rfl⟩

theorem power_any (n : Nat) (hn : n ≤ 4000) (w : World) :
    Calls Tryz.prog 9 #[.int .i64 n] w fun e w' => ∃ v', e = .returned v' ∧ HI (n / 8 + 1) w.heap.size (2 ^ n) v' w' ∧ Below w.heap.size w w' := by
  obtain ⟨i0, hi, hz0, hz1, hz2⟩ := info_parts info_u8
  obtain ⟨q, hq⟩ : ∃ q, q = n / 8 := ⟨_, rfl⟩
  obtain ⟨r, hr⟩ : ∃ r, r = n % 8 := ⟨_, rfl⟩
  have f1 : (n : Int) / 8 = (q : Int) := by omega
  have f2 : (n : Int) % 8 = (r : Int) := by omega
  have hmk : ∀ w, (Instr.makeSlice 22 (.int .i64 ((q : Int) + 1)) (.int .i64 ((q : Int) + 1))).run Tryz.prog w = .ok (.slice (some ⟨w.heap.size, 0, none⟩) (q + 1) (q + 1)) (w.alloc (.cells (madeCells #[.int .u8 0] (q + 1)) 5)) := fun w => by
    have h := run_make (P := Tryz.prog) w 22 5 i0 (.int .u8 0) Tryz.underlying22 hi hz0 .i64 .i64 ((q : Int) + 1) ((q : Int) + 1) (by omega) (by omega) (by rw [hz2]; omega) (by omega)
    rw [hz1] at h
    have e : ((q : Int) + 1).toNat = q + 1 := by omega
    simpa [e, Value.cells] using h
  have f3 : IntKind.u64.wrap (r : Int) = (r : Int) := wrapN (by omega)
  have g1 : min r 64 = r := by omega
  have HQ := Lib.hid (And.intro hq hr)
  clear hq hr
  have hm0 : (madeCells #[.int .u8 0] (q + 1))[0]? = some (.int .u8 0) := by rw [madeCells_one]; simp
  have hm1 : Hid ((madeCells #[.int .u8 0] (q + 1)).setIfInBounds 0 (.int .u8 (2 ^ r % 256)) = (ints .u8 ((2 ^ r % 256) :: List.replicate q 0)).toArray) := Lib.hid (by
    rw [madeCells_one]
    simp [ints, List.replicate_succ])
  have hby : Hid (ByL ((2 ^ r % 256) :: List.replicate q 0)) := Lib.hid (ByL.cons.2 ⟨⟨Int.emod_nonneg _ (by decide), Int.emod_lt_of_pos _ (by decide)⟩, ByL.zeros q⟩)
  have hbv : Hid (iv false ((2 ^ r % 256) :: List.replicate q 0) = 2 ^ n) := Lib.hid (by
    have h8 := HQ.out
    have e0 : bv (List.replicate q 0) = 0 := by have := bv_zero q []; simpa [bv] using this
    have e1 : (2 : Int) ^ r % 256 = 2 ^ r := by
      have : r = 0 ∨ r = 1 ∨ r = 2 ∨ r = 3 ∨ r = 4 ∨ r = 5 ∨ r = 6 ∨ r = 7 := by omega
      rcases this with h | h | h | h | h | h | h | h <;> rw [h] <;> decide
    show bv _ = _
    simp only [bv, e0, e1, List.length_replicate, Int.add_zero]
    rw [show (256 : Int) = 2 ^ 8 from rfl, ← Int.pow_mul, ← Int.pow_add, show r + 8 * q = n by omega])
  go_enter Tryz.func9, Tryz.ntmps9
  go_wp2_with fail
  rw [hm1.out]
  have hnb := Blk.new (w.alloc (.cells #[.bool false, .slice none 0 0] 32)) 5 (ints .u8 ((2 ^ r % 256) :: List.replicate q 0)).toArray
  rw [show (w.alloc (.cells #[.bool false, .slice none 0 0] 32)).heap.size = w.heap.size + 1 by simp] at hnb
  have hlen : ((2 ^ r % 256 : Int) :: List.replicate q 0).length = q + 1 := by simp
  have hsl : SlV ((w.alloc (.cells #[.bool false, .slice none 0 0] 32)).alloc (.cells (ints .u8 ((2 ^ r % 256) :: List.replicate q 0)).toArray 5)) (fun k => k = w.heap.size + 1) .u8 (.slice (some ⟨w.heap.size + 1, 0, none⟩) (q + 1) (q + 1)) ((2 ^ r % 256) :: List.replicate q 0) :=
    ⟨_, _, by rw [hlen], by rw [hlen]; exact Nat.le_refl _, Rd.of_blk (ys := []) (by simpa using hnb) rfl⟩
  have HC := Lib.hid (ofI _ false _ _ hby.out (by rw [hlen]; have := HQ.out; omega) _ hsl (fun k hk => by have := hnb.lt; omega))
  have hb0 := Lib.hid (((Below.refl w.heap.size w).alloc (Nat.le_refl _) (.cells #[.bool false, .slice none 0 0] 32)).alloc (by simp) (.cells (ints .u8 ((2 ^ r % 256) :: List.replicate q 0)).toArray 5))
  have hr0 := Lib.hid ((Blk.new w 32 #[.bool false, .slice none 0 0]).alloc (.cells (ints .u8 ((2 ^ r % 256) :: List.replicate q 0)).toArray 5))
  clear hsl hnb hm0 hmk
  refine HC.out.mono ?_
  rintro e w1 ⟨v', rfl, hv, hb⟩
  obtain ⟨n1, A1, m1, c1, rfl⟩ := hv.shape
  have hrow := hr0.out.below hb hr0.out.lt
  have hbe := Lib.hid (below_up hb0.out hb)
  have hv1 := hv.low (B' := w.heap.size + 1) (L' := n / 8 + 1) (by simp) (by rw [hlen]; have := HQ.out; omega)
  rw [hbv.out] at hv1
  have hfin := Lib.hid ((hv1.set (g := w.heap.size) (by omega) 0 (.bool n1)).set (g := w.heap.size) (by omega) 1 (.slice A1 m1 c1))
  have hres := Lib.hid (res2 (a := .bool n1) (b := .slice A1 m1 c1) hrow)
  have k0 := hrow.cell 0
  have k1 := hrow.cell 1
  have f0 := hrow.frozen 0
  have z1 := hrow.frozen 1
  have hlt := hrow.lt
  simp at k0 k1
  clear hrow hb hv hv1 HC hb0 hr0 hbv hby hm1 hlen
  go_wp2
  clear k0 k1
  have r0 := hres.out.cell 0
  have r1 := hres.out.cell 1
  simp at r0 r1
  exact bodyPost_ret (v := .agg #[.bool n1, .slice A1 m1 c1]) (by simp [results, Tryz.results9, go_sem, r0, r1]) rfl ⟨_, rfl, hfin.out.low (by omega) (Nat.le_refl _), ((hbe.out.setCell (by simp) _).setCell (by simp) _)⟩
end Go.Proofs.YtloloifngbmibaaGreatDoor
set_option linter.unusedVariables false
set_option linter.unusedSimpArgs false
set_option maxRecDepth 4000
namespace Go.Proofs.YtloloifngbmibaaGreatDoor
open Go.RowKit

/-- A product, digit by digit, at row i, behind k digits. -/
structure MulR (a b ds : List Int) (i k : Nat) (cy : Int) : Prop where
  len : ds.length = a.length + b.length + 1
  by_ : ByL ds
  c0 : 0 ≤ cy
  c1 : cy < 256
  kl : k ≤ b.length + 1
  eq : dv ds + cy * 256 ^ (i + k) = dv (a.reverse.take i) * dv b.reverse + (a.reverse[i]?.getD 0) * 256 ^ i * dv (b.reverse.take k)
theorem mulR_start {a b ds : List Int} {i : Nat} (hl : ds.length = a.length + b.length + 1) (hb : ByL ds) (he : dv ds = dv (a.reverse.take i) * dv b.reverse) : MulR a b ds i 0 0 :=
  ⟨hl, hb, by decide, by decide, by omega, by simp [he, dv]⟩
theorem mulR_end {a b ds : List Int} {i k : Nat} (h : MulR a b ds i k 0) (hk : b.length ≤ k) : dv ds = dv (a.reverse.take (i + 1)) * dv b.reverse := by
  have e := h.eq
  rw [List.take_of_length_le (l := b.reverse) (by simpa using hk)] at e
  rw [dv_take, Int.add_mul]
  omega
theorem mulR_in {a b ds : List Int} {i k : Nat} {cy : Int} (ha : ByL a) (hb : ByL b) (h : MulR a b ds i k cy) (hi : i < a.length) (hgo : k < b.length ∨ 0 < cy) : i + k < ds.length ∧ k ≤ b.length := by
  have hl := h.len
  rcases Nat.lt_or_ge k b.length with hk | hk
  · omega
  · have hc : 0 < cy := by omega
    have e := h.eq
    rw [List.take_of_length_le (l := b.reverse) (by simpa using hk)] at e
    have e2 : dv (a.reverse.take i) * dv b.reverse + (a.reverse[i]?.getD 0) * 256 ^ i * dv b.reverse = dv (a.reverse.take (i + 1)) * dv b.reverse := by
      rw [dv_take, Int.add_mul]
    rw [e2] at e
    have b1 := dv_bd (ha.rev.take (i + 1))
    have b2 := dv_bd hb.rev
    have b3 := dv_bd h.by_
    rw [List.length_take, List.length_reverse, Nat.min_eq_left (by omega)] at b1
    rw [List.length_reverse] at b2
    have p1 : (0 : Int) < 256 ^ (i + k) := Int.pow_pos (by decide)
    have p2 : (0 : Int) < 256 ^ (i + 1) := Int.pow_pos (by decide)
    have m1 : 1 * 256 ^ (i + k) ≤ cy * 256 ^ (i + k) := Int.mul_le_mul_of_nonneg_right (by omega) (by omega)
    have m2 : dv (a.reverse.take (i + 1)) * dv b.reverse ≤ 256 ^ (i + 1) * dv b.reverse := Int.mul_le_mul_of_nonneg_right (by omega) b2.1
    have m3 : (256 : Int) ^ (i + 1) * dv b.reverse < 256 ^ (i + 1) * 256 ^ b.length := Int.mul_lt_mul_of_pos_left b2.2 p2
    rw [← Int.pow_add] at m3
    have hlt : i + k < i + 1 + b.length := by
      rcases Nat.lt_or_ge (i + k) (i + 1 + b.length) with h1 | h1
      · exact h1
      · have := pw256 h1
        omega
    omega
theorem mulR_step {a b ds : List Int} {i k : Nat} {cy s : Int} (ha : ByL a) (hb : ByL b) (h : MulR a b ds i k cy) (hin : i + k < ds.length) (hk : k ≤ b.length)
    (hs : s = ds[i + k]?.getD 0 + (a.reverse[i]?.getD 0) * (b.reverse[k]?.getD 0) + cy) (hp : 0 ≤ (a.reverse[i]?.getD 0) * (b.reverse[k]?.getD 0) ∧ (a.reverse[i]?.getD 0) * (b.reverse[k]?.getD 0) ≤ 65025) : MulR a b (ds.set (i + k) (s % 256)) i (k + 1) (s / 256) := by
  have hd := h.by_.at_ (i + k)
  have hc0 := h.c0
  have hc1 := h.c1
  refine ⟨by rw [List.length_set]; exact h.len, h.by_.set _ (by omega) (by omega), by omega, by omega, by omega, ?_⟩
  have e := h.eq
  rw [dv_set _ _ _ hin, dv_take, show i + (k + 1) = i + k + 1 by omega, Int.pow_succ]
  generalize ds[i + k]?.getD 0 = d at *
  generalize a.reverse[i]?.getD 0 = x at *
  generalize b.reverse[k]?.getD 0 = y at *
  have e1 : (s % 256 - d) * 256 ^ (i + k) + s / 256 * (256 ^ (i + k) * 256) = (x * y + cy) * 256 ^ (i + k) := by
    have e2 : s % 256 - d = x * y + cy - s / 256 * 256 := by omega
    rw [e2, Int.sub_mul, Int.mul_assoc (s / 256), Int.mul_comm 256 (256 ^ (i + k))]
    omega
  have e3 : x * 256 ^ i * (dv (b.reverse.take k) + y * 256 ^ k) = x * 256 ^ i * dv (b.reverse.take k) + x * y * 256 ^ (i + k) := by
    rw [Int.mul_add, Int.pow_add]
    congr 1
    rw [Int.mul_assoc, Int.mul_assoc, Int.mul_left_comm (256 ^ i)]
  rw [e3, Int.add_assoc, e1, Int.add_mul]
  omega
theorem prod_bd {x y : Int} (hx : 0 ≤ x ∧ x < 256) (hy : 0 ≤ y ∧ y < 256) : 0 ≤ x * y ∧ x * y ≤ 65025 := by
  refine ⟨Int.mul_nonneg hx.1 hy.1, ?_⟩
  have h1 := Int.mul_le_mul_of_nonneg_right (show x ≤ 255 by omega) hy.1
  omega
end Go.Proofs.YtloloifngbmibaaGreatDoor
set_option linter.unusedVariables false
set_option linter.unusedSimpArgs false
set_option maxRecDepth 4000
namespace Go.Proofs.YtloloifngbmibaaGreatDoor
open Go.RowKit

theorem info_i64 : (Tryz.prog.info? 3).map (fun i => (i.zero, i.size, i.bytes)) = some (some (.int .i64 0), 1, 8) := by kernel_rfl
theorem mk_ints (m : Nat) (hm : m ≤ 100000) : ∀ w, (Instr.makeSlice 57 (.int .i64 (m : Int)) (.int .i64 (m : Int))).run Tryz.prog w = .ok (.slice (some ⟨w.heap.size, 0, none⟩) m m) (w.alloc (.cells (ints .i64 (List.replicate m 0)).toArray 3)) := fun w => by
  obtain ⟨i0, hi, hz0, hz1, hz2⟩ := info_parts info_i64
  have h := run_make (P := Tryz.prog) w 57 3 i0 (.int .i64 0) Tryz.underlying57 hi hz0 .i64 .i64 (m : Int) (m : Int) (by omega) (by omega) (by rw [hz2]; omega) (by omega)
  rw [hz1] at h
  simp [Value.cells, madeCells_one] at h
  rw [h]
  simp [ints]
theorem mk_bytes (m : Nat) (hm : m ≤ 100000) : ∀ w, (Instr.makeSlice 22 (.int .i64 (m : Int)) (.int .i64 (m : Int))).run Tryz.prog w = .ok (.slice (some ⟨w.heap.size, 0, none⟩) m m) (w.alloc (.cells (ints .u8 (List.replicate m 0)).toArray 5)) := fun w => by
  obtain ⟨i0, hi, hz0, hz1, hz2⟩ := info_parts info_u8
  have h := run_make (P := Tryz.prog) w 22 5 i0 (.int .u8 0) Tryz.underlying22 hi hz0 .i64 .i64 (m : Int) (m : Int) (by omega) (by omega) (by rw [hz2]; omega) (by omega)
  rw [hz1] at h
  simp [Value.cells, madeCells_one] at h
  rw [h]
  simp [ints]

theorem digitQ (S : Nat → Prop) (A : Option Addr) (c : Nat) (l : List Int) (hn : l.length ≤ 1000000) (hb : ByL l) (w : World) (hr : Rd w S A (ints .u8 l)) (i : Nat) (hi : i ≤ 1000000) (m : Nat) :
    Calls Tryz.prog 165 #[.slice A l.length c, .int .i64 i] (w.drewN m) fun e w' => e = .returned (.int .i64 (l.reverse[i]?.getD 0)) ∧ ∃ m', w' = w.drewN m' := by
  refine (digit_any S A c i l hn hi hb (w.drewN m) (hr.keep (fun k _ => rfl))).mono ?_
  rintro e w' ⟨rfl, rfl⟩
  exact ⟨rfl, m, rfl⟩

/-- What Mul has in memory. -/
structure MulS (w : World) (x y : Value) (nx ny : Bool) (ds : List Int) (W : World) : Prop where
  bx : Blk W w.heap.size 32 #[.bool nx, x]
  by_ : Blk W (w.heap.size + 1) 32 #[.bool ny, y]
  bz : Blk W (w.heap.size + 2) 32 #[.bool false, .slice none 0 0]
  bd : Blk W (w.heap.size + 3) 3 (ints .i64 ds).toArray
  lo : Below w.heap.size w W
theorem MulS.drewN {w : World} {x y : Value} {nx ny : Bool} {ds : List Int} {W : World} (h : MulS w x y nx ny ds W) (n : Nat) : MulS w x y nx ny ds (W.drewN n) :=
  ⟨h.bx.drewN n, h.by_.drewN n, h.bz.drewN n, h.bd.drewN n, below_drewN' h.lo n⟩
theorem MulS.set {w : World} {x y : Value} {nx ny : Bool} {ds : List Int} {W : World} (h : MulS w x y nx ny ds W) (j : Nat) (v : Int) : MulS w x y nx ny (ds.set j v) (W.setCell ⟨w.heap.size + 3, j, none⟩ (.int .i64 v)) :=
  ⟨h.bx.far (by show w.heap.size ≠ w.heap.size + 3; omega) _, h.by_.far (by show w.heap.size + 1 ≠ w.heap.size + 3; omega) _, h.bz.far (by show w.heap.size + 2 ≠ w.heap.size + 3; omega) _, by have := h.bd.set j (.int .i64 v); simpa [ints, List.map_set] using this, h.lo.setCell (by show w.heap.size ≤ w.heap.size + 3; omega) _⟩
theorem MulS.far {w : World} {x y : Value} {nx ny : Bool} {ds : List Int} {W : World} (h : MulS w x y nx ny ds W) {g : Nat} (hg : w.heap.size + 4 ≤ g) (j : Nat) (u : Value) : MulS w x y nx ny ds (W.setCell ⟨g, j, none⟩ u) :=
  ⟨h.bx.far (by show w.heap.size ≠ g; omega) _, h.by_.far (by show w.heap.size + 1 ≠ g; omega) _, h.bz.far (by show w.heap.size + 2 ≠ g; omega) _, h.bd.far (by show w.heap.size + 3 ≠ g; omega) _, h.lo.setCell (by show w.heap.size ≤ g; omega) _⟩
theorem MulS.up {w : World} {x y : Value} {nx ny : Bool} {ds : List Int} {W W' : World} (h : MulS w x y nx ny ds W) (hb : Below W.heap.size W W') : MulS w x y nx ny ds W' :=
  ⟨h.bx.below hb h.bx.lt, h.by_.below hb h.by_.lt, h.bz.below hb h.bz.lt, h.bd.below hb h.bd.lt, below_up h.lo hb⟩
theorem iv_mul (n1 n2 : Bool) (a b l : List Int) (h : bv l = bv a * bv b) : iv (n1 != n2) l = iv n1 a * iv n2 b := by
  unfold iv
  cases n1 <;> cases n2 <;> simp [h, Int.neg_mul, Int.mul_neg]
theorem out_step {ds os : List Int} {N q : Nat} (hd : N < ds.length) (ho : os.length = N) (hq : q < N) (h : os.drop (N - q) = (ds.take q).reverse) : (os.set (N - 1 - q) (ds[q]?.getD 0)).drop (N - (q + 1)) = (ds.take (q + 1)).reverse := by
  rw [take_rev (by omega), show N - (q + 1) = N - 1 - q by omega, List.drop_eq_getElem_cons (by rw [List.length_set]; omega), List.getElem_set_self, List.drop_set_of_lt (by omega), show N - 1 - q + 1 = N - q by omega, h]
theorem mul_fin {a b ds : List Int} {N : Nat} (ya : ByL a) (yb : ByL b) (hN : N = a.length + b.length) (hl : ds.length = N + 1) (hb : ByL ds) (h1 : dv ds = dv (a.reverse.take a.length) * dv b.reverse) : bv (ds.take N).reverse = bv a * bv b ∧ ByL (ds.take N).reverse := by
  rw [List.take_of_length_le (by simp), dv_rev, dv_rev] at h1
  have h2 := dv_take ds N
  rw [List.take_of_length_le (by omega)] at h2
  have h3 := dv_bd (hb.take N)
  have h4 := hb.at_ N
  have h5 := bv_bd ya
  have h6 := bv_bd yb
  have h7 : bv a * bv b < 256 ^ N := by
    rw [hN, Int.pow_add]
    have p1 : (0 : Int) < 256 ^ a.length := Int.pow_pos (by decide)
    have m1 : bv a * bv b ≤ 256 ^ a.length * bv b := Int.mul_le_mul_of_nonneg_right (Int.le_of_lt h5.2) h6.1
    have m2 := Int.mul_lt_mul_of_pos_left h6.2 p1
    exact Int.lt_of_le_of_lt m1 m2
  have p2 : (0 : Int) < 256 ^ N := Int.pow_pos (by decide)
  have h8 : ds[N]?.getD 0 = 0 := by
    rcases Int.lt_or_eq_of_le h4.1 with h9 | h9
    · have := Int.mul_le_mul_of_nonneg_right (show 1 ≤ ds[N]?.getD 0 from h9) (Int.le_of_lt p2)
      generalize ds[N]?.getD 0 * 256 ^ N = z at *
      generalize bv a * bv b = z2 at *
      generalize (256 : Int) ^ N = z3 at *
      omega
    · exact h9.symm
  rw [h8, Int.zero_mul, Int.add_zero] at h2
  refine ⟨?_, (hb.take _).rev⟩
  have h10 := dv_rev (ds.take N).reverse
  rw [List.reverse_reverse] at h10
  rw [← h10, ← h2, h1]
theorem wr_sub (N q : Nat) (hq : q < N) (hN : N ≤ 1000000) : wrap64 ((N : Int) - 1 - (q : Int)) = (N : Int) - 1 - (q : Int) ∧ ((N : Int) - 1 - (q : Int)).toNat = N - 1 - q ∧ 0 ≤ (N : Int) - 1 - (q : Int) := by unfold wrap64; omega
theorem MulS.start (w : World) (x y : Value) (nx ny : Bool) (ds : List Int) : MulS w x y nx ny ds ((((w.alloc (.cells #[.bool nx, x] 32)).alloc (.cells #[.bool ny, y] 32)).alloc (.cells #[.bool false, .slice none 0 0] 32)).alloc (.cells (ints .i64 ds).toArray 3)) := by
  have h0 := Blk.new w 32 #[.bool nx, x]
  have h1 := Blk.new (w.alloc (.cells #[.bool nx, x] 32)) 32 #[.bool ny, y]
  have h2 := Blk.new ((w.alloc (.cells #[.bool nx, x] 32)).alloc (.cells #[.bool ny, y] 32)) 32 #[.bool false, .slice none 0 0]
  have h3 := Blk.new (((w.alloc (.cells #[.bool nx, x] 32)).alloc (.cells #[.bool ny, y] 32)).alloc (.cells #[.bool false, .slice none 0 0] 32)) 3 (ints .i64 ds).toArray
  refine ⟨((h0.alloc _).alloc _).alloc _, ?_, ?_, ?_, ((((Below.refl _ _).alloc (Nat.le_refl _) _).alloc (by simp) _).alloc (by simp; omega) _).alloc (by simp; omega) _⟩
  · have := (h1.alloc (.cells #[.bool false, .slice none 0 0] 32)).alloc (.cells (ints .i64 ds).toArray 3)
    simpa using this
  · have := h2.alloc (.cells (ints .i64 ds).toArray 3)
    simpa using this
  · simpa using h3
theorem MulS.at_ {w : World} {x y : Value} {nx ny : Bool} {ds : List Int} {W : World} (h : MulS w x y nx ny ds W) {j : Nat} (hj : j < ds.length) : W.cell? ⟨w.heap.size + 3, j, none⟩ = some (.int .i64 (ds[j]?.getD 0)) := by
  rw [h.bd.cell j]
  simp [ints, hj]

theorem wr_add (i k : Nat) (h : i + k ≤ 1000000) : wrap64 ((i : Int) + (k : Int)) = (i : Int) + (k : Int) := by unfold wrap64; omega
theorem wr_suc (k : Nat) (h : k ≤ 1000000) : wrap64 ((k : Int) + 1) = (k : Int) + 1 := by unfold wrap64; omega
theorem toN_add (i k : Nat) : ((i : Int) + (k : Int)).toNat = i + k := by omega
theorem ms_lt {a k : Nat} (h : k < a) : a - (k + 1) < a - k := by omega

theorem mul_walk (S S' : Nat → Prop) (n1 n2 : Bool) (A A' : Option Addr) (c c' : Nat) (a b : List Int) (ha : a.length ≤ 1000) (hb : b.length ≤ 1000) (ya : ByL a) (yb : ByL b) (w : World) (hr : Rd w S A (ints .u8 a)) (hr' : Rd w S' A' (ints .u8 b)) (hS : ∀ k, S k → k < w.heap.size) (hS' : ∀ k, S' k → k < w.heap.size) :
    Calls Tryz.prog 156 #[.agg #[.bool n1, .slice A a.length c], .agg #[.bool n2, .slice A' b.length c']] w fun e w' => ∃ v', e = .returned v' ∧ HI (a.length + b.length) w.heap.size (iv n1 a * iv n2 b) v' w' ∧ Below w.heap.size w w' := by
  have HDA : Hid (∀ W : World, Below w.heap.size w W → ∀ (i : Nat), i ≤ 1000000 → ∀ m, Calls Tryz.prog 165 #[.slice A a.length c, .int .i64 i] (W.drewN m) fun e w' => e = .returned (.int .i64 (a.reverse[i]?.getD 0)) ∧ ∃ m', w' = W.drewN m') :=
    Lib.hid fun W hW i hi m => digitQ S A c a (by omega) ya W (hr.keep (still_below hW hS)) i hi m
  have HDB : Hid (∀ W : World, Below w.heap.size w W → ∀ (i : Nat), i ≤ 1000000 → ∀ m, Calls Tryz.prog 165 #[.slice A' b.length c', .int .i64 i] (W.drewN m) fun e w' => e = .returned (.int .i64 (b.reverse[i]?.getD 0)) ∧ ∃ m', w' = W.drewN m') :=
    Lib.hid fun W hW i hi m => digitQ S' A' c' b (by omega) yb W (hr'.keep (still_below hW hS')) i hi m
  obtain ⟨la, hla⟩ : ∃ la, la = a.length := ⟨_, rfl⟩
  obtain ⟨lb, hlb⟩ : ∃ lb, lb = b.length := ⟨_, rfl⟩
  have hmk := mk_ints (la + lb + 1) (by omega)
  rw [show ((la + lb + 1 : Nat) : Int) = (la : Int) + (lb : Int) + 1 by omega] at hmk
  have hmk2 := mk_bytes (la + lb) (by omega)
  rw [show ((la + lb : Nat) : Int) = (la : Int) + (lb : Int) by omega] at hmk2
  have HMK2 := Lib.hid hmk2
  have HY := Lib.hid (And.intro ya yb)
  rw [← hla, ← hlb]
  rw [← hla] at ha
  rw [← hlb] at hb
  rw [← hla] at HDA
  rw [← hlb] at HDB
  have HL := Lib.hid (And.intro hla hlb)
  clear hr hr' hS hS' ya yb hla hlb hmk2
  have H0 := Lib.hid (MulS.start w (.slice A la c) (.slice A' lb c') n1 n2 (List.replicate (la + lb + 1) 0))
  go_enter Tryz.func156, Tryz.ntmps156
  go_wp2
  clear hmk
  go_loopw [7] (fun iv wr => ∃ (i : Nat) (ds : List Int), i ≤ la ∧ iv = .int .i64 i ∧ Hid (ds.length = la + lb + 1 ∧ ByL ds ∧ dv ds = dv (a.reverse.take i) * dv b.reverse) ∧ Hid (MulS w (.slice A la c) (.slice A' lb c') n1 n2 ds wr)) (fun iv _ => la - (intOf iv).toNat)
  case atStart => exact ⟨0, _, Nat.zero_le _, rfl, Lib.hid ⟨by simp, ByL.zeros _, by rw [dv_zeros]; simp [dv]⟩, H0⟩
  case round =>
    obtain ⟨i, ds, hi, rfl, hds, hM⟩ := hrel
    have x1 := hM.out.bx.cell 1
    have y1 := hM.out.by_.cell 1
    have lz := hM.out.bd.lt
    simp at x1 y1
    by_cases hlt : i < la
    · have HR0 : Hid (MulR a b ds i 0 0) := Lib.hid (mulR_start (by rw [hds.out.1, HL.out.1, HL.out.2]) hds.out.2.1 hds.out.2.2)
      have HI' := Lib.hid hlt
      have w1k := wr_suc i (by omega)
      have HME := Lib.hid (ms_lt hlt)
      have hi6 : i ≤ 1000000 := Nat.le_trans hi (Nat.le_trans ha (by decide))
      obtain ⟨wo, rfl⟩ : ∃ wo : World, wo = wr := ⟨_, rfl⟩
      go_wp2
      clear x1 y1 hlt
      go_loopw [8, 9] (fun cv kv wp => ∃ (k : Nat) (cy : Int) (es : List Int), cv = .int .i64 cy ∧ kv = .int .i64 k ∧ Hid (MulR a b es i k cy) ∧ Hid (MulS w (.slice A la c) (.slice A' lb c') n1 n2 es wp)) (fun _ kv _ => lb + 2 - (intOf kv).toNat)
      case atStart => exact ⟨0, 0, ds, rfl, rfl, HR0, hM⟩
      case round =>
        obtain ⟨k, cy, es, rfl, rfl, hR, hE⟩ := hrel
        have x1 := hE.out.bx.cell 1
        have y1 := hE.out.by_.cell 1
        have lz := hE.out.bd.lt
        simp at x1 y1
        have hc0 := hR.out.c0
        have hc1 := hR.out.c1
        have hkl := hR.out.kl
        rw [← HL.out.2] at hkl
        by_cases hgo : k < lb ∨ 0 < cy
        · have hin := mulR_in HY.out.1 HY.out.2 hR.out (by rw [← HL.out.1]; exact HI'.out) (by rw [← HL.out.2]; exact hgo)
          have hin1 := hin.1
          have hlen : es.length = la + lb + 1 := by rw [hR.out.len, HL.out.1, HL.out.2]
          rw [hlen] at hin1
          have hd := hE.out.at_ hin.1
          have hf := hE.out.bd.frozen (i + k)
          have hbd := hR.out.by_.at_ (i + k)
          have hax := HY.out.1.rev.at_ i
          have hby := HY.out.2.rev.at_ k
          have hp := prod_bd hax hby
          have hklb : k ≤ lb := by rw [HL.out.2]; exact hin.2
          have hk6 : k ≤ 1000000 := Nat.le_trans hklb (Nat.le_trans hb (by decide))
          have HMM := Lib.hid (ms_lt (a := lb + 2) (k := k) (Nat.lt_of_le_of_lt hklb (Nat.lt_add_of_pos_right (by decide))))
          have e1 := wr_add i k (Nat.le_trans (Nat.lt_succ_iff.1 hin1) (Nat.le_trans (Nat.add_le_add ha hb) (by decide)))
          have w2k := Lib.hid (wr_suc k hk6)
          have e2 := toN_add i k
          have HDa := Lib.hid (HDA.out _ hE.out.lo i hi6)
          have HDb := Lib.hid (HDB.out _ hE.out.lo k hk6)
          have HST := Lib.hid (fun s hs => mulR_step (s := s) HY.out.1 HY.out.2 hR.out hin.1 hin.2 hs hp)
          generalize es[i + k]?.getD 0 = d at *
          generalize a.reverse[i]?.getD 0 = ax at *
          generalize b.reverse[k]?.getD 0 = bx at *
          have hgo2 : k < lb ∨ (¬ k < lb ∧ 0 < cy) := (Nat.lt_or_ge k lb).imp id (fun h => ⟨Nat.not_lt.2 h, hgo.resolve_left (Nat.not_lt.2 h)⟩)
          clear hin hlen hax hby hgo
          rcases hgo2 with hg | ⟨hg, hg2⟩
          all_goals
            go_wp2_with fail
            go_quiet (first | (with_reducible exact HDa.out _) | (with_reducible exact HDb.out _))
            have hE2 := Lib.hid (hE.out.drewN nq)
            have hd2 : (wr.drewN nq).cell? ⟨w.heap.size + 3, i + k, none⟩ = some (.int .i64 d) := hd
            have hf2 : (wr.drewN nq).frozen? ⟨w.heap.size + 3, i + k, none⟩ = false := hf
            generalize wr.drewN nq = wq at *
            have HST2 := Lib.hid (HST.out _ rfl)
            have HE3 := Lib.hid (hE2.out.set (i + k) ((d + ax * bx + cy) % 256))
            clear hd hf hE HDa HDb x1 y1
            go_wp2
            go_roundw
            case rel => exact ⟨k + 1, _, _, rfl, by first | rfl | (rw [w2k.out]; rfl), HST2, HE3⟩
            case measure => first | exact HMM.out | (rw [w2k.out]; exact HMM.out)
        · have hcz : cy = 0 := by omega
          have hklb : lb ≤ k := Nat.not_lt.1 (fun h => hgo (.inl h))
          subst hcz
          have HEND := Lib.hid (mulR_end hR.out (by rw [← HL.out.2]; exact hklb))
          have HLEN := Lib.hid (show es.length = la + lb + 1 by rw [hR.out.len, HL.out.1, HL.out.2])
          have HBY := Lib.hid hR.out.by_
          clear hgo hc0 hc1 hkl HDA HDB hR
          go_wp2
          go_roundw
          case rel => exact ⟨i + 1, es, HI'.out, by first | rfl | (rw [w1k]; rfl), Lib.hid ⟨HLEN.out, HBY.out, HEND.out⟩, hE⟩
          case measure => first | exact HME.out | (rw [w1k]; exact HME.out)
    · have hie : i = la := Nat.le_antisymm hi (Nat.not_lt.1 hlt)
      subst hie
      have hmk2 := HMK2.out
      have x0 := hM.out.bx.cell 0
      have y0 := hM.out.by_.cell 0
      simp at x0 y0
      have HFIN := Lib.hid (mul_fin (N := i + lb) HY.out.1 HY.out.2 (by rw [HL.out.1, HL.out.2]) hds.out.1 hds.out.2.1 (by rw [← HL.out.1]; exact hds.out.2.2))
      have HDL := Lib.hid hds.out.1
      clear HDA HDB hlt hds hi H0
      go_wp2
      have hg4 : w.heap.size + 4 ≤ wr.heap.size := hM.out.bd.lt
      have HMo := Lib.hid (hM.out.up (below_al (Below.refl _ _) (.cells (ints .u8 (List.replicate (i + lb) 0)).toArray 5)))
      have hBo := Blk.new wr 5 (ints .u8 (List.replicate (i + lb) 0)).toArray
      generalize wr.heap.size = g at hBo hg4 ⊢
      have HBo := Lib.hid hBo
      have HG4 := Lib.hid hg4
      generalize wr.alloc (.cells (ints .u8 (List.replicate (i + lb) 0)).toArray 5) = wo at *
      clear hBo hM x0 y0 x1 y1 hmk2 HMK2 hg4
      go_loopw [12] (fun iv wr => ∃ (q : Nat) (os : List Int), q ≤ i + lb ∧ iv = .int .i64 q ∧ Hid (os.length = i + lb ∧ os.drop (i + lb - q) = (ds.take q).reverse) ∧ Hid (Blk wr g 5 (ints .u8 os).toArray) ∧ Hid (MulS w (.slice A i c) (.slice A' lb c') n1 n2 ds wr)) (fun iv _ => i + lb - (intOf iv).toNat)
      case atStart => exact ⟨0, _, Nat.zero_le _, rfl, Lib.hid ⟨by simp, by simp⟩, HBo, HMo⟩
      case round =>
        obtain ⟨q, os, hq, rfl, hos, hO, hM⟩ := hrel
        have lo := hO.out.lt
        have NE : ((i + lb : Nat) : Int) = (i : Int) + (lb : Int) := Int.natCast_add i lb
        by_cases hlt : q < i + lb
        · have hd := hM.out.at_ (j := q) (by rw [HDL.out]; omega)
          have ho1 : i + lb - 1 - q < os.length := by rw [hos.out.1]; omega
          obtain ⟨u, ho⟩ : ∃ u, wr.cell? ⟨g, i + lb - 1 - q, none⟩ = some (Value.int .u8 u) := ⟨_, (hO.out.cell (i + lb - 1 - q)).trans (show _ = some (Value.int .u8 (os[i + lb - 1 - q]'ho1)) by simp [ints, ho1])⟩
          have hf := hO.out.frozen (i + lb - 1 - q)
          have HST := Lib.hid (out_step (by rw [HDL.out]; omega) hos.out.1 hlt hos.out.2)
          have hw := wr_sub (i + lb) q hlt (by omega)
          rw [NE] at hw
          obtain ⟨e1, e2, e3⟩ := hw
          have HME := Lib.hid (ms_lt hlt)
          have w1k := Lib.hid (wr_suc q (by omega))
          have HM2 := Lib.hid (hM.out.far HG4.out (i + lb - 1 - q) (.int .u8 (ds[q]?.getD 0)))
          have HO2 : Hid (Blk (wr.setCell ⟨g, i + lb - 1 - q, none⟩ (.int .u8 (ds[q]?.getD 0))) g 5 (ints .u8 (os.set (i + lb - 1 - q) (ds[q]?.getD 0))).toArray) := Lib.hid (by
            have := hO.out.set (i + lb - 1 - q) (.int .u8 (ds[q]?.getD 0))
            simpa [ints, List.map_set] using this)
          have HLN : Hid ((os.set (i + lb - 1 - q) (ds[q]?.getD 0)).length = i + lb) := Lib.hid (by rw [List.length_set]; exact hos.out.1)
          have hbd : 0 ≤ ds[q]?.getD 0 ∧ ds[q]?.getD 0 < 256 := by
            have h := HFIN.out.2 (ds[q]?.getD 0)
            have hq2 : q < ds.length := by rw [HDL.out]; omega
            refine h (List.mem_reverse.2 ?_)
            rw [List.mem_take_iff_getElem]
            exact ⟨q, by rw [HDL.out]; omega, by simp [hq2]⟩
          have hwb : IntKind.u8.wrap (ds[q]?.getD 0) = ds[q]?.getD 0 := by
            have : ∀ z : Int, 0 ≤ z → z < 256 → IntKind.u8.wrap z = z := fun z h0 h1 => by simp [IntKind.wrap, IntKind.bits, IntKind.signed]; omega
            exact this _ hbd.1 hbd.2
          generalize ds[q]?.getD 0 = d at *
          clear hos hM hO ho1
          go_wp2
          go_roundw
          case rel => exact ⟨q + 1, _, hlt, by first | rfl | (rw [w1k.out]; rfl), Lib.hid ⟨HLN.out, HST.out⟩, HO2, HM2⟩
          case measure => first | exact HME.out | (rw [w1k.out]; exact HME.out)
        · have hqe : q = i + lb := Nat.le_antisymm hq (Nat.not_lt.1 hlt)
          subst hqe
          have hoe : os = (ds.take (i + lb)).reverse := by
            have := hos.out.2
            rwa [Nat.sub_self, List.drop_zero] at this
          have hol := hos.out.1
          subst hoe
          have x0 := hM.out.bx.cell 0
          have y0 := hM.out.by_.cell 0
          simp at x0 y0
          have hlw := hM.out.lo
          have HC := Lib.hid (ofI (fun k => k = g) (n1 != n2) (.slice (some ⟨g, 0, none⟩) (i + lb) (i + lb)) (ds.take (i + lb)).reverse HFIN.out.2 (by rw [hol]; omega) wr ⟨_, _, by rw [hol], by rw [hol]; exact Nat.le_refl _, Rd.of_blk (ys := []) (by simpa using hO.out) rfl⟩ (fun k hk => by rw [hk]; exact lo))
          have HL2 := Lib.hid hol
          have hz4 : w.heap.size + 4 ≤ wr.heap.size := hM.out.bd.lt
          have HLW := Lib.hid hlw
          have HZ4 := Lib.hid hz4
          clear hos hO hol hq hlt lz lo NE hlw hz4
          go_wp2_with fail
          refine HC.out.mono ?_
          rintro e w1 ⟨v', rfl, hv, hb⟩
          obtain ⟨k1, A1, m1, c1, rfl⟩ := hv.shape
          have hrow := (hM.out.up hb).bz
          have hbe := Lib.hid (below_up HLW.out hb)
          have hv1 := hv.low (B' := w.heap.size + 4) (L' := i + lb) HZ4.out (by rw [HL2.out]; exact Nat.le_refl _)
          rw [iv_mul n1 n2 a b _ HFIN.out.1] at hv1
          have hfin := Lib.hid ((hv1.set (g := w.heap.size + 2) (Nat.add_lt_add_left (by decide) _) 0 (.bool k1)).set (g := w.heap.size + 2) (Nat.add_lt_add_left (by decide) _) 1 (.slice A1 m1 c1))
          have hres := Lib.hid (res2 (a := .bool k1) (b := .slice A1 m1 c1) hrow)
          have q0 := hrow.cell 0
          have q1 := hrow.cell 1
          have z0 := hrow.frozen 0
          have z1 := hrow.frozen 1
          have hlt1 := hrow.lt
          simp at q0 q1
          clear hrow hb hv hv1 HC hM x0 y0
          go_wp2
          clear q0 q1
          have r0 := hres.out.cell 0
          have r1 := hres.out.cell 1
          simp at r0 r1
          exact bodyPost_ret (v := .agg #[.bool k1, .slice A1 m1 c1]) (by simp [results, Tryz.results156, go_sem, r0, r1]) rfl ⟨_, rfl, hfin.out.low (Nat.le_add_right _ _) (Nat.le_refl _), ((hbe.out.setCell (p := ⟨w.heap.size + 2, 0, none⟩) (Nat.le_add_right w.heap.size 2) _).setCell (p := ⟨w.heap.size + 2, 1, none⟩) (Nat.le_add_right w.heap.size 2) _)⟩

/-- Mul. -/
theorem mulII {L L' B B' : Nat} {x y : Int} {v v' : Value} {W : World} (hL : L ≤ 1000) (hL' : L' ≤ 1000) (h : HI L B x v W) (h' : HI L' B' y v' W) :
    Calls Tryz.prog 156 #[v, v'] W fun e w' => ∃ z, e = .returned z ∧ HI (L + L') W.heap.size (x * y) z w' ∧ Below W.heap.size W w' := by
  obtain ⟨n1, a, ⟨S, ⟨mv, rfl, A, c, rfl, hc, s1⟩, s1'⟩, b1, l1, g1, rfl, k1⟩ := h
  obtain ⟨n2, b, ⟨S', ⟨mv', rfl, A', c', rfl, hc', s2⟩, s2'⟩, b2, l2, g2, rfl, k2⟩ := h'
  refine (mul_walk S S' n1 n2 A A' c c' a b (by omega) (by omega) b1 b2 W s1 s2 (fun k hk => (s1' k hk).2) (fun k hk => (s2' k hk).2)).mono ?_
  rintro e w' ⟨z, rfl, h1, h2⟩
  exact ⟨z, rfl, h1.low (Nat.le_refl _) (by omega), h2⟩
end Go.Proofs.YtloloifngbmibaaGreatDoor
