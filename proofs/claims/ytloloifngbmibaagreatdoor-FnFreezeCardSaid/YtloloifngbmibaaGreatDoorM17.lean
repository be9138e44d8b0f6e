/- The reference's floats: floatParts, Whole. The reference's floats: the walks of Whole and CmpFloat. The reference's floats: the walks of CmpFloat and cmpNumbers. What a made value is; what it is worth as a key: plain facts. The reference's cmpNumbers. The reference's Equal at keys: the walk. -/
import Derived.Test.YtloloifngbmibaaGreatDoorM16
set_option linter.unusedVariables false
set_option linter.unusedSimpArgs false
set_option maxRecDepth 4000
namespace Go.Proofs.YtloloifngbmibaaGreatDoor
open Go.RowKit

theorem top_bit (u : Nat) (hu : u < 18446744073709551616) : ((u : Int) / 9223372036854775808 == 1) = decide (9223372036854775808 ≤ u) := by
  by_cases h : 9223372036854775808 ≤ u
  · rw [show (u : Int) / 9223372036854775808 = 1 by omega, decide_eq_true h]
    rfl
  · rw [show (u : Int) / 9223372036854775808 = 0 by omega, decide_eq_false h]
    rfl
theorem floatParts_any (u : Nat) (hu : u < 18446744073709551616) (w : World) :
    Calls Tryz.prog 146 #[.float .f64 u] w fun e w' => e = .returned (.tuple #[.bool (decide (9223372036854775808 ≤ u)), .int .u64 (fm u), .int .i64 (-(fs u))]) ∧ w' = w := by
  have hb := fun w => fbits_call u w
  have f1 := and52 u hu
  have f2 := and2047 u hu
  have f3 := or52 (u % 4503599627370496) (by omega)
  have f6 := top_bit u hu
  have lx : fex u < 2048 := Nat.mod_lt _ (by decide)
  have f4 : wrap64 (fex u : Int) = (fex u : Int) := by simp only [wrap64]; omega
  by_cases hx : fex u = 0
  · have g1 : ((fex u : Int) == 0) = true := by rw [hx]; rfl
    have e1 : Hid ((u : Int) % 4503599627370496 = (fm u : Int)) := Lib.hid (by unfold fm; rw [if_pos hx]; omega)
    have g2 : Hid (-1074 = -(fs u)) := Lib.hid (by unfold fs; rw [if_pos hx])
    clear hx
    go_enter Tryz.func146, Tryz.ntmps146
    go_wp2
    go_ret3
    exact ⟨by rw [← e1.out, ← g2.out]; rfl, rfl⟩
  · have g1 : ((fex u : Int) == 0) = false := beq_no (by omega)
    have e1 : Hid (bits .or .u64 ((u : Int) % 4503599627370496) 4503599627370496 = (fm u : Int)) := Lib.hid (by have h := f3; rw [show ((u % 4503599627370496 : Nat) : Int) = (u : Int) % 4503599627370496 by omega] at h; rw [h]; unfold fm; rw [if_neg hx])
    have g2 : Hid ((fex u : Int) - 1075 = -(fs u)) := Lib.hid (by unfold fs; rw [if_neg hx]; omega)
    clear hx
    go_enter Tryz.func146, Tryz.ntmps146
    go_wp2
    go_ret3
    exact ⟨by rw [← e1.out, ← g2.out]; rfl, rfl⟩

/-- The scale of the floats' worths. -/
def sc : Nat := 1074
theorem sc_eq : sc = 1074 := rfl
/-- A magnitude with its sign. -/
def sg (n : Bool) (m : Int) : Int := if n then -m else m
theorem fv_sg (u : Nat) : fv u = sg (decide (9223372036854775808 ≤ u)) (fabs u) := by
  unfold fv sg
  by_cases h : 9223372036854775808 ≤ u
  · rw [if_pos h, if_pos (decide_eq_true h)]
  · rw [if_neg h, if_neg (by simpa using h)]
theorem sg_mul (n : Bool) (m k : Int) : sg n (m * k) = sg n m * k := by unfold sg; cases n <;> simp [Int.neg_mul]
theorem iv_be8 (n : Bool) (m : Nat) (h : m < 18446744073709551616) : iv n (be8 (m : Int)) = sg n m := by
  unfold iv sg
  rw [bv_be8 _ (by omega) (by omega)]
theorem p2pos (k : Nat) : (0 : Int) < 2 ^ k := Int.pow_pos (by decide)
theorem whole_a (u p : Nat) (n : Int) (hp : -(fs u) = (p : Int)) (h : fv u = n * 2 ^ sc) : sg (decide (9223372036854775808 ≤ u)) (fm u) * 2 ^ p = n := by
  have e : fabs u = fm u * 2 ^ (p + sc) := by unfold fabs; congr 2; have := sc_eq; omega
  rw [fv_sg, e, Int.natCast_mul, sg_mul, Int.natCast_pow, Int.pow_add, ← Int.mul_assoc] at h
  exact Int.eq_of_mul_eq_mul_right (Int.ne_of_gt (p2pos sc)) h
theorem whole_b (u q : Nat) (n : Int) (hp : fs u = (q : Int)) (hq : 63 < q) (h : fv u = n * 2 ^ sc) : n = 0 ∧ fm u = 0 := by
  have hb := fs_bd u
  have hm := fm_lt u
  have e : fabs u * 2 ^ q = fm u * 2 ^ sc := by
    unfold fabs
    rw [Nat.mul_assoc, ← Nat.pow_add]
    congr 2
    have := sc_eq
    omega
  have h1 : sg (decide (9223372036854775808 ≤ u)) (fm u) * 2 ^ sc = n * 2 ^ q * 2 ^ sc := by
    have e' : (fabs u : Int) * 2 ^ q = (fm u : Int) * 2 ^ sc := by
      have := congrArg (fun z : Nat => (z : Int)) e
      simpa using this
    rw [fv_sg] at h
    rw [← sg_mul, ← e', sg_mul, h, Int.mul_assoc, Int.mul_assoc, Int.mul_comm (2 ^ q)]
  have h2 := Int.eq_of_mul_eq_mul_right (Int.ne_of_gt (p2pos sc)) h1
  have h3 : (2 : Int) ^ 64 ≤ 2 ^ q := by
    obtain ⟨k, rfl⟩ := Nat.exists_eq_add_of_le (show 64 ≤ q by omega)
    rw [Int.pow_add]
    have := Int.mul_le_mul_of_nonneg_left (show (1 : Int) ≤ 2 ^ k by have := p2pos k; omega) (show (0 : Int) ≤ 2 ^ 64 by decide)
    omega
  have h4 : n = 0 := by
    rcases Int.lt_trichotomy n 0 with h5 | h5 | h5
    · have := Int.mul_le_mul_of_nonneg_right (show n ≤ -1 by omega) (show (0 : Int) ≤ 2 ^ q by have := p2pos q; omega)
      unfold sg at h2
      generalize (2 : Int) ^ q = z at *
      generalize n * z = y at *
      split at h2 <;> omega
    · exact h5
    · have := Int.mul_le_mul_of_nonneg_right (show 1 ≤ n by omega) (show (0 : Int) ≤ 2 ^ q by have := p2pos q; omega)
      unfold sg at h2
      generalize (2 : Int) ^ q = z at *
      generalize n * z = y at *
      split at h2 <;> omega
  subst h4
  refine ⟨rfl, ?_⟩
  unfold sg at h2
  split at h2 <;> omega
theorem whole_c (u q : Nat) (n : Int) (hp : fs u = (q : Int)) (h : fv u = n * 2 ^ sc) : sg (decide (9223372036854775808 ≤ u)) ((fm u / 2 ^ q : Nat) : Int) = n ∧ fm u % 2 ^ q = 0 := by
  have hb := fs_bd u
  have e : fabs u * 2 ^ q = fm u * 2 ^ sc := by
    unfold fabs
    rw [Nat.mul_assoc, ← Nat.pow_add]
    congr 2
    have := sc_eq
    omega
  have h1 : sg (decide (9223372036854775808 ≤ u)) (fm u) * 2 ^ sc = n * 2 ^ q * 2 ^ sc := by
    have e' : (fabs u : Int) * 2 ^ q = (fm u : Int) * 2 ^ sc := by
      have := congrArg (fun z : Nat => (z : Int)) e
      simpa using this
    rw [fv_sg] at h
    rw [← sg_mul, ← e', sg_mul, h, Int.mul_assoc, Int.mul_assoc, Int.mul_comm (2 ^ q)]
  have h2 := Int.eq_of_mul_eq_mul_right (Int.ne_of_gt (p2pos sc)) h1
  have h3 : fm u = n.natAbs * 2 ^ q := by
    have := congrArg Int.natAbs h2
    rw [Int.natAbs_mul, Int.natAbs_pow] at this
    unfold sg at this
    split at this <;> simpa using this
  have hp2 := Nat.two_pow_pos q
  refine ⟨?_, by rw [h3]; exact Nat.mul_mod_left _ _⟩
  rw [h3, Nat.mul_div_cancel _ hp2]
  unfold sg at h2 ⊢
  split at h2
  · rename_i hs
    rw [if_pos hs]
    have : n * 2 ^ q ≤ 0 := by omega
    have : n ≤ 0 := by
      rcases Int.lt_or_le 0 n with h5 | h5
      · have := Int.mul_pos h5 (p2pos q)
        omega
      · exact h5
    omega
  · rename_i hs
    rw [if_neg hs]
    have : 0 ≤ n * 2 ^ q := by omega
    have : 0 ≤ n := by
      rcases Int.lt_or_le n 0 with h5 | h5
      · have := Int.mul_neg_of_neg_of_pos h5 (p2pos q)
        omega
      · exact h5
    omega
end Go.Proofs.YtloloifngbmibaaGreatDoor
set_option linter.unusedVariables false
set_option linter.unusedSimpArgs false
set_option maxRecDepth 4000
namespace Go.Proofs.YtloloifngbmibaaGreatDoor
open Go.RowKit

/-- What Whole tells of a finite float. -/
def WholeOut (u B : Nat) (z : Value) (ok : Bool) (W : World) : Prop := ∃ X, HI 200 B X z W ∧ ∀ n : Int, fv u = n * 2 ^ sc → X = n ∧ ok = true

theorem ofBytes (neg : Bool) (m g : Nat) (hm : m < 18446744073709551616) (w : World) (h : Blk w g 5 (ints .u8 (be8 (m : Int))).toArray) :
    Calls Tryz.prog 23 #[.bool neg, .slice (some ⟨g, 0, none⟩) 8 8] w fun e w' => ∃ v', e = .returned v' ∧ HI 8 w.heap.size (sg neg m) v' w' ∧ Below w.heap.size w w' := by
  have h1 := ofI (fun k => k = g) neg (.slice (some ⟨g, 0, none⟩) 8 8) (be8 (m : Int)) (be8_by _) (by rw [be8_len]; omega) w ⟨_, _, rfl, Nat.le_refl _, Rd.of_blk (ys := []) (by simpa using h) rfl⟩ (fun k hk => by rw [hk]; exact h.lt)
  rw [iv_be8 neg m hm] at h1
  exact h1

theorem mask_q (m q : Nat) (hm : m < 18446744073709551616) (hq : q ≤ 63) : bits .and .u64 (m : Int) (IntKind.u64.wrap (IntKind.u64.wrap (2 ^ q) - 1)) = ((m % 2 ^ q : Nat) : Int) := by
  have h1 : (2 : Nat) ^ q ≤ 2 ^ 63 := Nat.pow_le_pow_right (by decide) hq
  have h2 := Nat.two_pow_pos q
  have e : IntKind.u64.wrap (IntKind.u64.wrap (2 ^ q) - 1) = ((2 ^ q - 1 : Nat) : Int) := by
    rw [show (2 : Int) ^ q = ((2 ^ q : Nat) : Int) by simp]
    generalize (2 : Nat) ^ q = z at *
    rw [IntKind.wrap_u64, IntKind.wrap_u64]
    omega
  rw [e, bits_and_u64_nat m (2 ^ q - 1) hm (by omega), Nat.and_two_pow_sub_one_eq_mod]

theorem whole_any (u : Nat) (hu : u < 18446744073709551616) (hf : fex u ≠ 2047) (w : World) :
    Calls Tryz.prog 137 #[.float .f64 u] w fun e w' => ∃ z ok, e = .returned (.tuple #[z, .bool ok]) ∧ WholeOut u w.heap.size z ok w' ∧ Below w.heap.size w w' := by
  have HP := Lib.hid (floatParts_any u hu)
  have hm := fm_lt u
  have hb := fs_bd u
  obtain ⟨n, hn⟩ : ∃ n, n = decide (9223372036854775808 ≤ u) := ⟨_, rfl⟩
  rw [← hn] at HP
  obtain ⟨m, hm'⟩ : ∃ m, m = fm u := ⟨_, rfl⟩
  rw [← hm'] at HP hm
  have hlow : fs u ≤ 0 → ∃ p : Nat, -(fs u) = (p : Int) ∧ p ≤ 972 := fun h => ⟨(-(fs u)).toNat, by omega, by omega⟩
  have HN := Lib.hid (And.intro hn hm')
  clear hn hm'
  have HM64 : Hid ((m : Int) < 18446744073709551616) := Lib.hid (by omega)
  have HM64n : Hid (m < 18446744073709551616) := Lib.hid (by omega)
  by_cases hp : fs u ≤ 0
  · obtain ⟨p, hpe, hp9⟩ := hlow hp
    rw [hpe] at HP
    have HPE := Lib.hid hpe
    have d0 : (0 : Int) ≤ (p : Int) := by omega
    have HP2 : Hid (p ≤ 2000) := Lib.hid (by omega)
    have HP3 : Hid (8 + p / 8 + 1 ≤ 200) := Lib.hid (by omega)
    clear hlow hp hpe hb hm
    go_enter Tryz.func137, Tryz.ntmps137
    go_wp2_with fail
    refine (HP.out _).mono ?_
    rintro e w1 ⟨rfl, rfl⟩
    go_wp2_with fail
    refine (bytesOf_any (m : Int) (Int.natCast_nonneg m) HM64.out _).mono ?_
    rintro e w1 ⟨rfl, hb1, hl1⟩
    have hb2 : Blk w1 (w.heap.size + 1) 5 (ints .u8 (be8 (m : Int))).toArray := by simpa using hb1
    go_wp2_with fail
    refine (ofBytes n m (w.heap.size + 1) HM64n.out w1 hb2).mono ?_
    rintro e w2 ⟨v1, rfl, hv1, hl2⟩
    obtain ⟨b1, A1, m1, c1, rfl⟩ := hv1.shape
    have hlo2 := below_up hl1 hl2
    have hrow2 := (Blk.new w 32 #[.bool false, .slice none 0 0]).below hlo2 (by simp)
    have HLO2 := Lib.hid (below_up ((Below.refl _ _).alloc (Nat.le_refl _) _) hlo2)
    have HROW2 := Lib.hid hrow2
    have HV1 := Lib.hid hv1
    clear hl1 hl2 hlo2 hrow2 hv1 hb1 hb2
    go_wp2_with fail
    have hal := below_al (Below.refl w2.heap.size w2) (.cells #[.bool b1, .slice A1 m1 c1] 32)
    refine (lshI p HP2.out (by decide) (HV1.out.up hal)).mono ?_
    rintro e w3 ⟨z, rfl, hz, hl3⟩
    obtain ⟨b3, A3, m3, c3, rfl⟩ := hz.shape
    have hrow := (HROW2.out.below hal HROW2.out.lt).below hl3 (HROW2.out.below hal HROW2.out.lt).lt
    have hlo := Lib.hid (below_up (below_up HLO2.out hal) hl3)
    have hz1 := hz.low (B' := w.heap.size + 1) (L' := 200) (by have := HROW2.out.lt; simp; omega) HP3.out
    have hfin := Lib.hid ((hz1.set (g := w.heap.size) (Nat.lt_succ_self _) 0 (.bool b3)).set (g := w.heap.size) (Nat.lt_succ_self _) 1 (.slice A3 m3 c3))
    have hres := Lib.hid (res2 (a := .bool b3) (b := .slice A3 m3 c3) hrow)
    have k0 := hrow.cell 0
    have k1 := hrow.cell 1
    have f0 := hrow.frozen 0
    have f1 := hrow.frozen 1
    have lr := hrow.lt
    simp at k0 k1
    clear hz hz1 hrow hl3 hal HV1 HROW2 HLO2
    go_wp2
    clear k0 k1
    have r0 := hres.out.cell 0
    have r1 := hres.out.cell 1
    simp at r0 r1
    refine bodyPost_ret (v := .tuple #[.agg #[.bool b3, .slice A3 m3 c3], .bool true]) (by simp [results, Tryz.results137, go_sem, r0, r1]) rfl ⟨_, _, rfl, ⟨_, hfin.out.low (Nat.le_succ _) (Nat.le_refl _), fun k hk => ⟨?_, rfl⟩⟩, (hlo.out.setCell (p := ⟨w.heap.size, 0, none⟩) (Nat.le_refl _) _).setCell (p := ⟨w.heap.size, 1, none⟩) (Nat.le_refl _) _⟩
    rw [HN.out.1, HN.out.2]
    exact whole_a u p k HPE.out hk
  · obtain ⟨q, hq⟩ : ∃ q : Nat, fs u = (q : Int) := ⟨(fs u).toNat, by omega⟩
    rw [hq] at HP
    have HQE := Lib.hid hq
    have d0 : ¬ (0 : Int) ≤ -(q : Int) := by omega
    have hq9 : q ≤ 1074 := by omega
    clear hlow
    by_cases h63 : 63 < q
    · have d1 : -(q : Int) < -63 := by omega
      have H63 := Lib.hid h63
      have d2 : ((m : Int) == 0) = decide (m = 0) := by
        by_cases h : m = 0
        · subst h; rfl
        · rw [decide_eq_false h]; exact beq_no (by omega)
      generalize -(q : Int) = P at *
      clear hp hq hb hm h63
      go_enter Tryz.func137, Tryz.ntmps137
      go_wp2_with fail
      refine (HP.out _).mono ?_
      rintro e w1 ⟨rfl, rfl⟩
      go_wp2_with fail
      refine (bytesOf_any (m : Int) (Int.natCast_nonneg m) HM64.out _).mono ?_
      rintro e w1 ⟨rfl, hb1, hl1⟩
      have hb2 : Blk w1 (w.heap.size + 1) 5 (ints .u8 (be8 (m : Int))).toArray := by simpa using hb1
      go_wp2_with fail
      refine (ofBytes n m (w.heap.size + 1) HM64n.out w1 hb2).mono ?_
      rintro e w2 ⟨v1, rfl, hv1, hl2⟩
      obtain ⟨b1, A1, m1, c1, rfl⟩ := hv1.shape
      have hlo2 := below_up hl1 hl2
      have hrow2 := (Blk.new w 32 #[.bool false, .slice none 0 0]).below hlo2 (by simp)
      have HLO2 := Lib.hid (below_up ((Below.refl _ _).alloc (Nat.le_refl _) _) hlo2)
      have HROW2 := Lib.hid hrow2
      have HV1 := Lib.hid hv1
      clear hl1 hl2 hlo2 hrow2 hv1 hb1 hb2
      have hrow := (HROW2.out.alloc (.cells #[.bool b1, .slice A1 m1 c1] 32))
      have hlo := Lib.hid (below_up HLO2.out (below_al (Below.refl w2.heap.size w2) (.cells #[.bool b1, .slice A1 m1 c1] 32)))
      have HROW := Lib.hid hrow
      have lr := HROW2.out.lt
      have k0 := HROW2.out.cell 0
      have k1 := HROW2.out.cell 1
      have f0 := HROW2.out.frozen 0
      have f1 := HROW2.out.frozen 1
      simp at k0 k1
      clear HV1 hrow HM64 HM64n hu
      go_wp2
      have hres := Lib.hid ((res2 (a := .bool false) (b := .slice none 0 0) HROW2.out).alloc (.cells #[.bool b1, .slice A1 m1 c1] 32))
      have hlo3 := (HLO2.out.setCell (p := ⟨w.heap.size, 0, none⟩) (Nat.le_refl _) (.bool false)).setCell (p := ⟨w.heap.size, 1, none⟩) (Nat.le_refl _) (.slice none 0 0)
      clear k0 k1
      have r0 := hres.out.cell 0
      have r1 := hres.out.cell 1
      simp at r0 r1
      refine bodyPost_ret (v := .tuple #[.agg #[.bool false, .slice none 0 0], .bool (decide (m = 0))]) (by simp [results, Tryz.results137, go_sem, r0, r1]) rfl ⟨_, _, rfl, ⟨0, HI.zero _ _ _, fun k hk => ?_⟩, below_up hlo3 (below_al (Below.refl _ _) _)⟩
      have h1 := whole_b u q k HQE.out H63.out hk
      rw [HN.out.2]
      exact ⟨h1.1.symm, decide_eq_true h1.2⟩
    · obtain ⟨s, hs⟩ : ∃ s, s = m / 2 ^ q := ⟨_, rfl⟩
      have HS := Lib.hid hs
      have hmq : m % 2 ^ q < 2 ^ q := Nat.mod_lt _ (Nat.two_pow_pos q)
      have d1 : ¬ -(q : Int) < -63 := by omega
      have g1 : - -(q : Int) = (q : Int) := by omega
      have g2 : min q 64 = q := by omega
      have g3 : IntKind.u64.wrap (q : Int) = (q : Int) := wrapN (by omega)
      have hs64 : s < 18446744073709551616 := by rw [hs]; exact Nat.lt_of_le_of_lt (Nat.div_le_self _ _) HM64n.out
      have g5 := mask_q m q HM64n.out (by omega)
      have g6 : (m : Int) / 2 ^ q = (s : Int) := by rw [hs, Int.natCast_ediv]; simp
      have g7 : (((m % 2 ^ q : Nat) : Int) == 0) = decide (m % 2 ^ q = 0) := by
        by_cases h : m % 2 ^ q = 0
        · rw [h]; rfl
        · rw [decide_eq_false h]; exact beq_no (by omega)
      generalize hlf : m % 2 ^ q = lf at *
      have HLF := Lib.hid hlf
      clear hs hp hq hb hm hmq hlf
      have HS64 := Lib.hid hs64
      clear hs64
      go_enter Tryz.func137, Tryz.ntmps137
      go_wp2_with fail
      refine (HP.out _).mono ?_
      rintro e w1 ⟨rfl, rfl⟩
      go_wp2_with fail
      refine (bytesOf_any (m : Int) (Int.natCast_nonneg m) HM64.out _).mono ?_
      rintro e w1 ⟨rfl, hb1, hl1⟩
      have hb2 : Blk w1 (w.heap.size + 1) 5 (ints .u8 (be8 (m : Int))).toArray := by simpa using hb1
      go_wp2_with fail
      refine (ofBytes n m (w.heap.size + 1) HM64n.out w1 hb2).mono ?_
      rintro e w2 ⟨v1, rfl, hv1, hl2⟩
      obtain ⟨b1, A1, m1, c1, rfl⟩ := hv1.shape
      have hlo2 := below_up hl1 hl2
      have hrow2 := (Blk.new w 32 #[.bool false, .slice none 0 0]).below hlo2 (by simp)
      have HLO2 := Lib.hid (below_up ((Below.refl _ _).alloc (Nat.le_refl _) _) hlo2)
      have HROW2 := Lib.hid hrow2
      clear hl1 hl2 hlo2 hrow2 hv1 hb1 hb2 HM64 HM64n hu
      go_wp2_with fail
      have hal := below_al (Below.refl w2.heap.size w2) (.cells #[.bool b1, .slice A1 m1 c1] 32)
      have hrow3 := HROW2.out.below hal HROW2.out.lt
      refine (bytesOf_any (s : Int) (Int.natCast_nonneg s) (by have := HS64.out; omega) _).mono ?_
      rintro e w3 ⟨rfl, hb3, hl3⟩
      have hb4 : Blk w3 (w2.heap.size + 1) 5 (ints .u8 (be8 (s : Int))).toArray := by simpa using hb3
      have hrow4 := hrow3.below hl3 hrow3.lt
      have hlo4 := below_up (below_up HLO2.out hal) hl3
      go_wp2_with fail
      refine (ofBytes n s (w2.heap.size + 1) HS64.out w3 hb4).mono ?_
      rintro e w4 ⟨z, rfl, hz, hl4⟩
      obtain ⟨b5, A5, m5, c5, rfl⟩ := hz.shape
      have hrow := hrow4.below hl4 hrow4.lt
      have hlo := Lib.hid (below_up hlo4 hl4)
      have hz1 := hz.low (B' := w.heap.size + 1) (L' := 200) (by have := hrow4.lt; omega) (by decide)
      have hfin := Lib.hid ((hz1.set (g := w.heap.size) (Nat.lt_succ_self _) 0 (.bool b5)).set (g := w.heap.size) (Nat.lt_succ_self _) 1 (.slice A5 m5 c5))
      have hres := Lib.hid (res2 (a := .bool b5) (b := .slice A5 m5 c5) hrow)
      have k0 := hrow.cell 0
      have k1 := hrow.cell 1
      have f0 := hrow.frozen 0
      have f1 := hrow.frozen 1
      have lr := hrow.lt
      simp at k0 k1
      clear hz hz1 hrow hrow3 hrow4 hl3 hl4 hlo4 hal HROW2 HLO2 hb3 hb4 HS64
      go_wp2
      clear k0 k1
      have r0 := hres.out.cell 0
      have r1 := hres.out.cell 1
      simp at r0 r1
      refine bodyPost_ret (v := .tuple #[.agg #[.bool b5, .slice A5 m5 c5], .bool (decide (lf = 0))]) (by simp [results, Tryz.results137, go_sem, r0, r1]) rfl ⟨_, _, rfl, ⟨_, hfin.out.low (Nat.le_succ _) (Nat.le_refl _), fun k hk => ?_⟩, (hlo.out.setCell (p := ⟨w.heap.size, 0, none⟩) (Nat.le_refl _) _).setCell (p := ⟨w.heap.size, 1, none⟩) (Nat.le_refl _) _⟩
      have h1 := whole_c u q k HQE.out hk
      rw [← HN.out.1, ← HN.out.2, ← HS.out, HLF.out] at h1
      exact ⟨h1.1, decide_eq_true h1.2⟩
end Go.Proofs.YtloloifngbmibaaGreatDoor
set_option linter.unusedVariables false
set_option linter.unusedSimpArgs false
set_option maxRecDepth 4000
namespace Go.Proofs.YtloloifngbmibaaGreatDoor
open Go.RowKit

theorem cmpFloatI {L B : Nat} {x : Int} {v : Value} {w : World} (hL : L ≤ 1000) (h : HI L B x v w) (u : Nat) (hu : u < 18446744073709551616) :
    Calls Tryz.prog 122 #[v, .float .f64 u] w fun e w' => ∃ c : Int, e = .returned (.int .i64 c) ∧ (fcl u = .fin (x * 2 ^ sc) → c = 0) ∧ Below w.heap.size w w' := by
  obtain ⟨b0, A0, m0, c0, rfl⟩ := h.shape
  have HX : Hid (∀ W : World, Below w.heap.size w W → HI L B x (.agg #[.bool b0, .slice A0 m0 c0]) W) := Lib.hid fun W hW => h.up hW
  have N1 := fun w => isNaN_any u hu w
  have N2 := fun w => isInf_pos u hu w
  have N3 := fun w => isInf_neg u hu w
  have hB := (Below.refl w.heap.size w).alloc (Nat.le_refl _) (.cells #[.bool b0, .slice A0 m0 c0] 32)
  have HB := Lib.hid hB
  clear h hB
  cases hc : fcl u with
  | nan =>
    rw [hc] at N1 N2 N3
    simp only [decide_eq_true_eq, reduceCtorEq, decide_false, decide_true] at N1 N2 N3
    clear hu
    go_enter Tryz.func122, Tryz.ntmps122
    go_wp2_with (first | (go_at_call 39; (with_reducible refine (N1 _).mono ?_); rintro e w' ⟨rfl, rfl⟩) | (go_at_call 136; (with_reducible refine (N2 _).mono ?_); rintro e w' ⟨rfl, rfl⟩) | (go_at_call 136; (with_reducible refine (N3 _).mono ?_); rintro e w' ⟨rfl, rfl⟩))
    go_ret
    first | exact ⟨_, rfl, by simp, HB.out⟩ | exact ⟨⟨_, rfl⟩, HB.out⟩
  | inf s =>
    rw [hc] at N1 N2 N3
    simp only [decide_eq_true_eq, reduceCtorEq, decide_false, decide_true, Fc.inf.injEq] at N1 N2 N3
    clear hu
    cases s
    all_goals
      simp only [decide_true, decide_false, reduceCtorEq] at N2 N3
      go_enter Tryz.func122, Tryz.ntmps122
      go_wp2_with (first | (go_at_call 39; (with_reducible refine (N1 _).mono ?_); rintro e w' ⟨rfl, rfl⟩) | (go_at_call 136; (with_reducible refine (N2 _).mono ?_); rintro e w' ⟨rfl, rfl⟩) | (go_at_call 136; (with_reducible refine (N3 _).mono ?_); rintro e w' ⟨rfl, rfl⟩))
      go_ret
      first | exact ⟨_, rfl, by simp, HB.out⟩ | exact ⟨⟨_, rfl⟩, HB.out⟩
  | fin y =>
    have hf : fex u ≠ 2047 := fun h => by
      unfold fcl at hc
      rw [if_neg (by omega)] at hc
      split at hc <;> cases hc
    have hy : fv u = y := by
      unfold fcl at hc
      rw [if_pos hf] at hc
      injection hc
    have HW := Lib.hid (whole_any u hu hf)
    have HY := Lib.hid hy
    rw [hc] at N1 N2 N3
    simp only [decide_eq_true_eq, reduceCtorEq, decide_false, decide_true] at N1 N2 N3
    clear hu hf hy hc
    go_enter Tryz.func122, Tryz.ntmps122
    go_wp2_with (first | (go_at_call 39; (with_reducible refine (N1 _).mono ?_); rintro e w' ⟨rfl, rfl⟩) | (go_at_call 136; (with_reducible refine (N2 _).mono ?_); rintro e w' ⟨rfl, rfl⟩) | (go_at_call 136; (with_reducible refine (N3 _).mono ?_); rintro e w' ⟨rfl, rfl⟩))
    refine (HW.out _).mono ?_
    rintro e w1 ⟨z, ok, rfl, ⟨X, hz, hX⟩, hl⟩
    obtain ⟨b1, A1, m1, c1, rfl⟩ := hz.shape
    have hlo := below_up HB.out hl
    have k0 := cell_up hl (show (w.alloc (.cells #[.bool b0, .slice A0 m0 c0] 32)).cell? ⟨w.heap.size, 0, none⟩ = some (.bool b0) by simp)
    have k1 := cell_up hl (show (w.alloc (.cells #[.bool b0, .slice A0 m0 c0] 32)).cell? ⟨w.heap.size, 1, none⟩ = some (.slice A0 m0 c0) by simp)
    have HL := Lib.hid hlo
    have HZ := Lib.hid hz
    have HX2 := Lib.hid hX
    have lr : w.heap.size < w1.heap.size := World.block_lt_of_cell? w1 _ k0
    clear hl hlo hz hX N1 N2 N3 HW
    go_wp2_with fail
    have hal := below_al (Below.refl w1.heap.size w1) (.cells #[.bool b1, .slice A1 m1 c1] 32)
    refine (cmpII (Nat.le_trans hL (by decide)) (by decide) (HX.out _ (below_up HL.out hal)) (HZ.out.up hal)).mono ?_
    rintro e w2 ⟨rfl, hl2⟩
    have HL2 := Lib.hid (below_up (below_up HL.out hal) hl2)
    have HCZ : Hid (y = x * 2 ^ sc → sgnc x X = 0 ∧ ok = true) := Lib.hid fun h => by
      have h1 := HX2.out x (by rw [HY.out]; exact h)
      rw [h1.1, sgnc_self]
      exact ⟨rfl, h1.2⟩
    generalize sgnc x X = C at *
    clear hal hl2 k0 k1 lr HZ HX HX2 HL HB
    by_cases hC : C = 0
    · subst hC
      cases ok
      all_goals
        go_wp2
        all_goals
          go_ret
          exact ⟨_, rfl, fun h => by first | rfl | (injection h with h; have := (HCZ.out h).2; simp at this), HL2.out⟩
    · have eC := bne_yes hC
      go_wp2
      all_goals
        go_ret
        exact ⟨_, rfl, fun h => by injection h with h; exact (HCZ.out h).1, HL2.out⟩
end Go.Proofs.YtloloifngbmibaaGreatDoor
set_option linter.unusedVariables false
set_option linter.unusedSimpArgs false
set_option maxRecDepth 4000
namespace Go.Proofs.YtloloifngbmibaaGreatDoor
open Go.RowKit

/-- No bytes. -/
def noText : ByteArray := ⟨#[]⟩
/-- The head of a value that Clean makes. -/
structure GoodH (t : Tr) : Prop where
  k : 0 ≤ t.k ∧ t.k ≤ 9
  by_ : ByL t.mag
  ml : t.mag.length ≤ 40
  lead : Lead t.mag
  sgn : t.neg = true → t.mag ≠ []
  b : 0 ≤ t.bits ∧ t.bits < 18446744073709551616
  bool : t.k = 1 → t.bits = 0 ∨ t.bits = 1
  tx : t.text.size ≤ 60
  notx : t.k ≠ 4 → t.k ≠ 5 → t.text = noText
  kl : t.kids.length ≤ 16
  nfm : t.k ≠ 2 → t.neg = false ∧ t.mag = []
  nfb : t.k ≠ 1 → t.k ≠ 3 → t.bits = 0
/-- A number's class. -/
def ncl (t : Tr) : Fc := if t.k = 2 then .fin (iv t.neg t.mag * 2 ^ sc) else fcl t.bits.toNat
/-- What a key is worth. -/
inductive Canon where
  | none
  | bool (b : Int)
  | num (x : Fc)
  | str (s : ByteArray)
  | byt (s : ByteArray)
  | tup (l : List Canon)
def canonH (t : Tr) (l : List Canon) : Canon :=
  if t.k = 0 then .none else if t.k = 1 then .bool t.bits else if t.k = 2 ∨ t.k = 3 then .num (ncl t) else if t.k = 4 then .str t.text else if t.k = 5 then .byt t.text else .tup l
def canon : Nat → Tr → Canon
  | 0, t => canonH t []
  | d + 1, t => canonH t (t.kids.map (canon d))
/-- What stands at each st-th place can be a key. -/
def KeysT (d st : Nat) (ts : List Tr) : Prop := ∀ i u, i % st = 0 → ts[i]? = some u → KeyT d u
/-- No key stands twice. -/
def Dist (d st : Nat) (ts : List Tr) : Prop := ∀ i j u v, j < i → i % st = 0 → j % st = 0 → ts[i]? = some u → ts[j]? = some v → canon d v ≠ canon d u
theorem Dist.nil (d st : Nat) : Dist d st [] := fun i j u v _ _ _ h => by simp at h
/-- A value that Clean makes, of d levels at most. -/
def Good : Nat → Tr → Prop
  | 0, t => GoodH t ∧ t.k < 6 ∧ t.kids = []
  | d + 1, t => GoodH t ∧ (t.k < 6 → t.kids = []) ∧ (∀ u ∈ t.kids, Good d u) ∧ (t.k = 8 → KeysT d 2 t.kids ∧ t.kids.length % 2 = 0 ∧ Dist d 2 t.kids) ∧ (t.k = 9 → KeysT d 1 t.kids ∧ t.kids.length ≤ 8 ∧ Dist d 1 t.kids)
theorem Good.head : ∀ {d : Nat} {t : Tr}, Good d t → GoodH t
  | 0, _, h => h.1
  | _ + 1, _, h => h.1
theorem Good.dp : ∀ {d : Nat} {t : Tr}, Good d t → Dp d t
  | 0, _, h => h.2.2
  | d + 1, _, h => fun u hu => (h.2.2.1 u hu).dp
theorem Good.leaf : ∀ {d : Nat} {t : Tr}, Good d t → t.k < 6 → t.kids = []
  | 0, _, h, _ => h.2.2
  | d + 1, _, h, hk => h.2.1 hk

theorem canon_leaf {t : Tr} (h : t.k < 6) (h0 : 0 ≤ t.k) (l l' : List Canon) : canonH t l = canonH t l' := by
  unfold canonH
  by_cases a0 : t.k = 0
  · simp [a0]
  · by_cases a1 : t.k = 1
    · simp [a1]
    · by_cases a2 : t.k = 2 ∨ t.k = 3
      · simp [a0, a1, a2]
      · by_cases a4 : t.k = 4
        · simp [a4]
        · by_cases a5 : t.k = 5
          · simp [a5]
          · omega
end Go.Proofs.YtloloifngbmibaaGreatDoor
set_option linter.unusedVariables false
set_option linter.unusedSimpArgs false
set_option maxRecDepth 4000
namespace Go.Proofs.YtloloifngbmibaaGreatDoor
open Go.RowKit

theorem numV {d : Nat} {t : Tr} {x : Vc} {W : World} (h : HV d t x W) (g : GoodH t) :
    Calls Tryz.prog 11 #[x.agg] W fun e w' => ∃ v', e = .returned v' ∧ HI 40 W.heap.size (iv t.neg t.mag) v' w' ∧ Below W.heap.size W w' := by
  obtain ⟨S, h1, h2⟩ := h
  obtain ⟨A, n, c, hq, _⟩ := h1.kidsV
  obtain ⟨e1, e2, e3, e4, e5⟩ := h1.head
  obtain ⟨k, nn, m, b, s, q⟩ := x
  simp only at e1 e2 e3 e4 e5 hq
  subst e1 e2 e3 e4 hq
  refine (num_any S t.k t.neg m t.mag t.bits t.text (.slice A n c) rfl (by have := g.ml; omega) W e5 h2).mono ?_
  rintro e w' ⟨v', rfl, h3, h4⟩
  exact ⟨v', rfl, HI.of h3 g.by_ (Nat.le_trans (strip_len _) g.ml), h4⟩
theorem flV {d : Nat} {t : Tr} {x : Vc} {W : World} (h : HV d t x W) (g : GoodH t) :
    Calls Tryz.prog 40 #[x.agg] W fun e w' => e = .returned (.float .f64 t.bits.toNat) ∧ Below W.heap.size W w' := by
  obtain ⟨S, h1, h2⟩ := h
  obtain ⟨e1, e2, e3, e4, e5⟩ := h1.head
  exact fl_any x t.bits.toNat (by rw [e3]; have := g.b; omega) (by have := g.b; omega) W

/-- Two boxed Vals. -/
structure Bx2 (w : World) (x y : Vc) (W : World) : Prop where
  lo : Below w.heap.size w W
  bx : Blk W w.heap.size 26 (VcB x)
  by_ : Blk W (w.heap.size + 1) 26 (VcB y)
theorem Bx2.up {w : World} {x y : Vc} {W W' : World} (h : Bx2 w x y W) (hb : Below W.heap.size W W') : Bx2 w x y W' :=
  ⟨below_up h.lo hb, h.bx.below hb h.bx.lt, h.by_.below hb h.by_.lt⟩
theorem Bx2.drew {w : World} {x y : Vc} {W : World} (h : Bx2 w x y W) : Bx2 w x y W.drew := ⟨h.lo.drew, h.bx, h.by_⟩
theorem Bx2.start (w : World) (x y : Vc) : Bx2 w x y ((w.alloc (.cells (VcB x) 26)).alloc (.cells (VcB y) 26)) := by
  refine ⟨((Below.refl _ _).alloc (Nat.le_refl _) _).alloc (by simp) _, (Blk.new w 26 (VcB x)).alloc _, ?_⟩
  have := Blk.new (w.alloc (.cells (VcB x) 26)) 26 (VcB y)
  simpa using this
/-- With its twelve cells. -/
abbrev Bx2S (w : World) (k : Int) (n : Bool) (m : Value) (b : Int) (s : ByteArray) (q : Value) (k' : Int) (n' : Bool) (m' : Value) (b' : Int) (s' : ByteArray) (q' : Value) (W : World) : Prop :=
  Bx2 w ⟨k, n, m, b, s, q⟩ ⟨k', n', m', b', s', q'⟩ W ∧ W.cell? ⟨w.heap.size, 0, none⟩ = some (.int .i64 k) ∧ W.cell? ⟨w.heap.size, 1, none⟩ = some (.bool n) ∧ W.cell? ⟨w.heap.size, 2, none⟩ = some m ∧ W.cell? ⟨w.heap.size, 3, none⟩ = some (.int .u64 b) ∧ W.cell? ⟨w.heap.size, 4, none⟩ = some (.string s) ∧ W.cell? ⟨w.heap.size, 5, none⟩ = some q ∧
    W.cell? ⟨w.heap.size + 1, 0, none⟩ = some (.int .i64 k') ∧ W.cell? ⟨w.heap.size + 1, 1, none⟩ = some (.bool n') ∧ W.cell? ⟨w.heap.size + 1, 2, none⟩ = some m' ∧ W.cell? ⟨w.heap.size + 1, 3, none⟩ = some (.int .u64 b') ∧ W.cell? ⟨w.heap.size + 1, 4, none⟩ = some (.string s') ∧ W.cell? ⟨w.heap.size + 1, 5, none⟩ = some q'
theorem Bx2.s {w : World} {k : Int} {n : Bool} {m : Value} {b : Int} {s : ByteArray} {q : Value} {k' : Int} {n' : Bool} {m' : Value} {b' : Int} {s' : ByteArray} {q' : Value} {W : World} (h : Bx2 w ⟨k, n, m, b, s, q⟩ ⟨k', n', m', b', s', q'⟩ W) : Bx2S w k n m b s q k' n' m' b' s' q' W :=
  ⟨h, h.bx.cell 0, h.bx.cell 1, h.bx.cell 2, h.bx.cell 3, h.bx.cell 4, h.bx.cell 5, h.by_.cell 0, h.by_.cell 1, h.by_.cell 2, h.by_.cell 3, h.by_.cell 4, h.by_.cell 5⟩

theorem cmpNumbers_any {d d' : Nat} {t t' : Tr} {x y : Vc} {w : World} (h : HV d t x w) (h' : HV d' t' y w) (g : GoodH t) (g' : GoodH t') (hk : t.k = 2 ∨ t.k = 3) (hk' : t'.k = 2 ∨ t'.k = 3) :
    Calls Tryz.prog 106 #[x.agg, y.agg] w fun e w' => ∃ c : Int, e = .returned (.int .i64 c) ∧ (ncl t = ncl t' → c = 0) ∧ Below w.heap.size w w' := by
  have e1 : x.k = t.k := by obtain ⟨S, h1, _⟩ := h; exact h1.head.k
  have e2 : y.k = t'.k := by obtain ⟨S, h1, _⟩ := h'; exact h1.head.k
  have HX := Lib.hid (fun W (hW : Below w.heap.size w W) => And.intro (numV (h.up hW) g) (flV (h.up hW) g))
  have HY := Lib.hid (fun W (hW : Below w.heap.size w W) => And.intro (numV (h'.up hW) g') (flV (h'.up hW) g'))
  have hb := g.b
  have hb' := g'.b
  have HB := Lib.hid (show t.bits.toNat < 18446744073709551616 ∧ t'.bits.toNat < 18446744073709551616 by omega)
  clear h h' hb hb'
  obtain ⟨k, n, m, b, s, q⟩ := x
  obtain ⟨k', n', m', b', s', q'⟩ := y
  simp only at e1 e2
  rw [← e1] at hk
  rw [← e2] at hk'
  have hn : Hid (ncl t = if k = 2 then .fin (iv t.neg t.mag * 2 ^ sc) else fcl t.bits.toNat) := Lib.hid (by unfold ncl; rw [e1])
  have hn' : Hid (ncl t' = if k' = 2 then .fin (iv t'.neg t'.mag * 2 ^ sc) else fcl t'.bits.toNat) := Lib.hid (by unfold ncl; rw [e2])
  have h0 := Lib.hid ((Bx2.start w ⟨k, n, m, b, s, q⟩ ⟨k', n', m', b', s', q'⟩).drew.s)
  clear e1 e2 g g'
  rcases hk with rfl | rfl <;> rcases hk' with rfl | rfl
  · go_enter Tryz.func106, Tryz.ntmps106
    go_wp2
    go_region_held3 (Bx2S w 2 n m b s q 2 n' m' b' s' q')
      (first | assumption | exact h0.out | exact ((‹Bx2S _ _ _ _ _ _ _ _ _ _ _ _ _ _›).1.up ‹Below _ _ _›).s | exact (h0.out.1.up ‹Below _ _ _›).s)
      (first
        | (go_at_call 11; (with_reducible refine (HX.out _ ?_).1.mono ?_); exact (‹Bx2S _ _ _ _ _ _ _ _ _ _ _ _ _ _›).1.lo; rintro e w1 ⟨v1, rfl, hv1, hb1⟩)
        | (go_at_call 11; (with_reducible refine (HY.out _ ?_).1.mono ?_); exact (‹Bx2S _ _ _ _ _ _ _ _ _ _ _ _ _ _›).1.lo; rintro e w2 ⟨v2, rfl, hv2, hb2⟩)
        | (go_at_call 12; (with_reducible refine (cmpII (by decide) (by decide) (hv1.up hb2) hv2).mono ?_); rintro e w3 ⟨rfl, hb3⟩))
    have HL := Lib.hid (‹Bx2S _ _ _ _ _ _ _ _ _ _ _ _ _ _›).1.lo
    clear h0
    go_wp2
    go_ret
    refine ⟨_, rfl, fun h => ?_, HL.out⟩
    have h1 := hn.out
    have h2 := hn'.out
    simp only [if_true] at h1 h2
    rw [h1, h2] at h
    injection h with h
    rw [Int.eq_of_mul_eq_mul_right (Int.ne_of_gt (p2pos sc)) h, sgnc_self]
  · go_enter Tryz.func106, Tryz.ntmps106
    go_wp2
    go_region_held3 (Bx2S w 2 n m b s q 3 n' m' b' s' q')
      (first | assumption | exact h0.out | exact ((‹Bx2S _ _ _ _ _ _ _ _ _ _ _ _ _ _›).1.up ‹Below _ _ _›).s | exact (h0.out.1.up ‹Below _ _ _›).s)
      (first
        | (go_at_call 11; (with_reducible refine (HX.out _ ?_).1.mono ?_); exact (‹Bx2S _ _ _ _ _ _ _ _ _ _ _ _ _ _›).1.lo; rintro e w1 ⟨v1, rfl, hv1, hb1⟩)
        | (go_at_call 40; (with_reducible refine (HY.out _ ?_).2.mono ?_); exact (‹Bx2S _ _ _ _ _ _ _ _ _ _ _ _ _ _›).1.lo; rintro e w2 ⟨rfl, hb2⟩)
        | (go_at_call 122; (with_reducible refine (cmpFloatI (by decide) (hv1.up hb2) _ HB.out.2).mono ?_); rintro e w3 ⟨c, rfl, hc, hb3⟩))
    have HL := Lib.hid (‹Bx2S _ _ _ _ _ _ _ _ _ _ _ _ _ _›).1.lo
    clear h0
    go_wp2
    go_ret
    refine ⟨_, rfl, fun h => ?_, HL.out⟩
    have h1 := hn.out
    have h2 := hn'.out
    simp only [if_true] at h1
    rw [if_neg (by decide)] at h2
    rw [h1, h2] at h
    exact hc h.symm
  · go_enter Tryz.func106, Tryz.ntmps106
    go_wp2
    go_region_held3 (Bx2S w 3 n m b s q 2 n' m' b' s' q')
      (first | assumption | exact h0.out | exact ((‹Bx2S _ _ _ _ _ _ _ _ _ _ _ _ _ _›).1.up ‹Below _ _ _›).s | exact (h0.out.1.up ‹Below _ _ _›).s)
      (first
        | (go_at_call 11; (with_reducible refine (HY.out _ ?_).1.mono ?_); exact (‹Bx2S _ _ _ _ _ _ _ _ _ _ _ _ _ _›).1.lo; rintro e w1 ⟨v1, rfl, hv1, hb1⟩)
        | (go_at_call 40; (with_reducible refine (HX.out _ ?_).2.mono ?_); exact (‹Bx2S _ _ _ _ _ _ _ _ _ _ _ _ _ _›).1.lo; rintro e w2 ⟨rfl, hb2⟩)
        | (go_at_call 122; (with_reducible refine (cmpFloatI (by decide) (hv1.up hb2) _ HB.out.1).mono ?_); rintro e w3 ⟨c, rfl, hc, hb3⟩))
    have HL := Lib.hid (‹Bx2S _ _ _ _ _ _ _ _ _ _ _ _ _ _›).1.lo
    clear h0
    go_wp2
    go_ret
    refine ⟨_, rfl, fun h => ?_, HL.out⟩
    have h1 := hn.out
    have h2 := hn'.out
    simp only [if_true] at h2
    rw [if_neg (by decide)] at h1
    rw [h1, h2] at h
    rw [hc h]
    decide
  · go_enter Tryz.func106, Tryz.ntmps106
    go_wp2
    go_region_held3 (Bx2S w 3 n m b s q 3 n' m' b' s' q')
      (first | assumption | exact h0.out | exact ((‹Bx2S _ _ _ _ _ _ _ _ _ _ _ _ _ _›).1.up ‹Below _ _ _›).s | exact (h0.out.1.up ‹Below _ _ _›).s)
      (first
        | (go_at_call 40; (with_reducible refine (HX.out _ ?_).2.mono ?_); exact (‹Bx2S _ _ _ _ _ _ _ _ _ _ _ _ _ _›).1.lo; rintro e w1 ⟨rfl, hb1⟩)
        | (go_at_call 40; (with_reducible refine (HY.out _ ?_).2.mono ?_); exact (‹Bx2S _ _ _ _ _ _ _ _ _ _ _ _ _ _›).1.lo; rintro e w2 ⟨rfl, hb2⟩)
        | (go_at_call 123; (with_reducible refine (cmpFloats_any _ _ HB.out.1 HB.out.2 _).mono ?_); rintro e w3 ⟨c, rfl, hc, rfl⟩))
    have HL := Lib.hid (‹Bx2S _ _ _ _ _ _ _ _ _ _ _ _ _ _›).1.lo
    clear h0
    go_wp2
    go_ret
    refine ⟨_, rfl, fun h => ?_, HL.out⟩
    have h1 := hn.out
    have h2 := hn'.out
    rw [if_neg (by decide)] at h1 h2
    rw [h1, h2] at h
    exact hc h
end Go.Proofs.YtloloifngbmibaaGreatDoor
set_option linter.unusedVariables false
set_option linter.unusedSimpArgs false
set_option maxRecDepth 4000
namespace Go.Proofs.YtloloifngbmibaaGreatDoor
open Go.RowKit

/-- Six cells. -/
abbrev Six (W : World) (b o : Nat) (x : Vc) : Prop := W.cell? ⟨b, o, none⟩ = some (.int .i64 x.k) ∧ W.cell? ⟨b, o + 1, none⟩ = some (.bool x.n) ∧ W.cell? ⟨b, o + 2, none⟩ = some x.m ∧
    W.cell? ⟨b, o + 3, none⟩ = some (.int .u64 x.b) ∧ W.cell? ⟨b, o + 4, none⟩ = some (.string x.s) ∧ W.cell? ⟨b, o + 5, none⟩ = some x.q
theorem Six.up {W W' : World} {b o : Nat} {x : Vc} (h : Six W b o x) (hb : Below W.heap.size W W') : Six W' b o x :=
  ⟨cell_up hb h.1, cell_up hb h.2.1, cell_up hb h.2.2.1, cell_up hb h.2.2.2.1, cell_up hb h.2.2.2.2.1, cell_up hb h.2.2.2.2.2⟩
theorem KidAt.six {W : World} {A : Option Addr} {i : Nat} {x : Vc} (h : KidAt W A i x) : ∃ b o, A = some ⟨b, o, none⟩ ∧ Six W b (o + i * 6) x := h

/-- What canon tells of two keys. -/
theorem canonH_kind {t t' : Tr} {l l' : List Canon} (hk : 0 ≤ t.k) (hk' : 0 ≤ t'.k) (h7 : t.k < 6 ∨ t.k = 7) (h7' : t'.k < 6 ∨ t'.k = 7) (h : canonH t l = canonH t' l') (hn : ¬ ((t.k = 2 ∨ t.k = 3) ∧ (t'.k = 2 ∨ t'.k = 3))) : t.k = t'.k := by
  have key : ∀ (s : Tr) (r : List Canon), 0 ≤ s.k → (s.k < 6 ∨ s.k = 7) → (s.k = 0 ∧ canonH s r = .none) ∨ (s.k = 1 ∧ canonH s r = .bool s.bits) ∨ ((s.k = 2 ∨ s.k = 3) ∧ canonH s r = .num (ncl s)) ∨ (s.k = 4 ∧ canonH s r = .str s.text) ∨ (s.k = 5 ∧ canonH s r = .byt s.text) ∨ (s.k = 7 ∧ canonH s r = .tup r) := by
    intro s r h0 h1
    have : s.k = 0 ∨ s.k = 1 ∨ s.k = 2 ∨ s.k = 3 ∨ s.k = 4 ∨ s.k = 5 ∨ s.k = 7 := by omega
    unfold canonH
    rcases this with e | e | e | e | e | e | e <;> rw [e] <;> simp
  rcases key t l hk h7 with ⟨a, e⟩ | ⟨a, e⟩ | ⟨a, e⟩ | ⟨a, e⟩ | ⟨a, e⟩ | ⟨a, e⟩ <;> rcases key t' l' hk' h7' with ⟨a', e'⟩ | ⟨a', e'⟩ | ⟨a', e'⟩ | ⟨a', e'⟩ | ⟨a', e'⟩ | ⟨a', e'⟩ <;> rw [e, e'] at h <;> first | (cases h; done) | omega
end Go.Proofs.YtloloifngbmibaaGreatDoor
