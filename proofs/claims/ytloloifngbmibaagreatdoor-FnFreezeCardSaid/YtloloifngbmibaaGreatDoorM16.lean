/- The reference's integers: Lsh. What a float's bits stand for, and how two of them compare: plain facts. A float's sign turned; the greatest float; what is equal to what: plain facts. Values as trees: what a Val in memory reads as, down to a depth. Walks of the reference's small functions on Vals: Size, Hashable, number, TextVal, BoolVal. Walks of math.IsNaN, math.IsInf and of the reference's Fl, CmpFloats. -/
import Derived.Test.YtloloifngbmibaaGreatDoorM15
import Derived.Deep.RegionHeld3
import Derived.Test.YtloloifngbmibaaGreatDoorM11
import Derived.Test.YtloloifngbmibaaGreatDoorM12
import Derived.Test.YtloloifngbmibaaGreatDoorM01
import Derived.Test.YtloloifngbmibaaGreatDoorM14
import Derived.Test.YtloloifngbmibaaGreatDoorM03
set_option linter.unusedVariables false
set_option linter.unusedSimpArgs false
set_option maxRecDepth 4000
namespace Go.Proofs.YtloloifngbmibaaGreatDoor
open Go.RowKit

theorem zero_v {L B : Nat} {x : Int} {v : Value} {w : World} (h : HI L B x v w) :
    Calls Tryz.prog 53 #[v] w fun e w' => e = .returned (.bool (decide (x = 0))) ∧ ∃ o, w' = w.alloc o := by
  obtain ⟨n, a, ⟨S, ⟨mv, rfl, A, c, rfl, _⟩, _⟩, b1, l1, g1, rfl, _⟩ := h
  refine (zero_any n A a.length c w).mono ?_
  rintro e w' ⟨rfl, o, rfl⟩
  refine ⟨?_, o, rfl⟩
  congr 2
  by_cases h0 : a.length = 0
  · have : a = [] := List.eq_nil_of_length_eq_zero h0
    subst this
    cases n
    · simp [iv, bv]
    · simp [iv, bv]
  · have := bv_ne b1 l1 h0
    rw [decide_eq_false h0, decide_eq_false]
    unfold iv
    split <;> omega

theorem HI.zero (L B : Nat) (W : World) : HI L B 0 (.agg #[.bool false, .slice none 0 0]) W :=
  ⟨false, [], ⟨fun _ => False, ⟨_, rfl, SlV.nil _ _ _⟩, fun _ h => h.elim⟩, ByL.nil, .inl rfl, by simp, rfl, Nat.zero_le _⟩
/-- One boxed integer and the result's block behind it. -/
structure Bx1 (w : World) (b : Bool) (m : Value) (W : World) : Prop where
  lo : Below w.heap.size w W
  bx : Blk W w.heap.size 32 #[.bool b, m]
  br : Blk W (w.heap.size + 1) 32 #[.bool false, .slice none 0 0]
theorem Bx1.start (w : World) (b : Bool) (m : Value) : Bx1 w b m ((w.alloc (.cells #[.bool b, m] 32)).alloc (.cells #[.bool false, .slice none 0 0] 32)) := by
  refine ⟨((Below.refl _ _).alloc (Nat.le_refl _) _).alloc (by simp) _, (Blk.new w 32 #[.bool b, m]).alloc _, ?_⟩
  have := Blk.new (w.alloc (.cells #[.bool b, m] 32)) 32 #[.bool false, .slice none 0 0]
  simpa using this
theorem Bx1.up {w : World} {b : Bool} {m : Value} {W W' : World} (h : Bx1 w b m W) (hb : Below W.heap.size W W') : Bx1 w b m W' :=
  ⟨below_up h.lo hb, h.bx.below hb h.bx.lt, h.br.below hb h.br.lt⟩
theorem Bx1.drew {w : World} {b : Bool} {m : Value} {W : World} (h : Bx1 w b m W) : Bx1 w b m W.drew := ⟨h.lo.drew, h.bx, h.br⟩
/-- One boxed integer, as a region holds it. -/
def Bx0 (w : World) (b : Bool) (m : Value) (W : World) : Prop := Below w.heap.size w W ∧ Blk W w.heap.size 32 #[.bool b, m]
theorem Bx0.lo {w : World} {b : Bool} {m : Value} {W : World} (h : Bx0 w b m W) : Below w.heap.size w W := h.1
theorem Bx0.s {w : World} {b : Bool} {m : Value} {W : World} (h : Bx0 w b m W) : Bx0 w b m W ∧ W.cell? ⟨w.heap.size, 0, none⟩ = some (.bool b) ∧ W.cell? ⟨w.heap.size, 1, none⟩ = some m :=
  ⟨h, h.2.cell 0, h.2.cell 1⟩
theorem Bx0.up {w : World} {b : Bool} {m : Value} {W W' : World} (h : Bx0 w b m W) (hb : Below W.heap.size W W') : Bx0 w b m W' := ⟨below_up h.1 hb, h.2.below hb h.2.lt⟩
theorem Bx0.set {w : World} {b : Bool} {m : Value} {W : World} (h : Bx0 w b m W) (u0 u1 : Value) : Bx0 w b m ((W.setCell ⟨w.heap.size + 1, 0, none⟩ u0).setCell ⟨w.heap.size + 1, 1, none⟩ u1) :=
  ⟨(h.1.setCell (p := ⟨w.heap.size + 1, 0, none⟩) (Nat.le_add_right w.heap.size 1) _).setCell (p := ⟨w.heap.size + 1, 1, none⟩) (Nat.le_add_right w.heap.size 1) _, (h.2.far (Nat.ne_of_lt (Nat.lt_succ_self _)) _).far (Nat.ne_of_lt (Nat.lt_succ_self _)) _⟩

theorem lshI {L B : Nat} {x : Int} {v : Value} {w : World} (n : Nat) (hn : n ≤ 2000) (hL : L ≤ 100) (h : HI L B x v w) :
    Calls Tryz.prog 147 #[v, .int .i64 n] w fun e w' => ∃ z, e = .returned z ∧ HI (L + n / 8 + 1) w.heap.size (x * 2 ^ n) z w' ∧ Below w.heap.size w w' := by
  obtain ⟨b0, A0, m0, c0, rfl⟩ := h.shape
  have HX : Hid (∀ W : World, Below w.heap.size w W → HI L B x (.agg #[.bool b0, .slice A0 m0 c0]) W) := Lib.hid fun W hW => h.up hW
  have hz := zero_v (HX.out _ (((Below.refl w.heap.size w).alloc (Nat.le_refl _) (.cells #[.bool b0, .slice A0 m0 c0] 32)).alloc (by simp) (.cells #[.bool false, .slice none 0 0] 32)))
  have HZ := Lib.hid hz
  have HRX := Lib.hid (Blk.new w 32 #[.bool b0, .slice A0 m0 c0])
  clear h hz
  by_cases h0 : x = 0
  · subst h0
    go_enter Tryz.func147, Tryz.ntmps147
    go_wp2_with fail
    refine HZ.out.mono ?_
    rintro e w1 ⟨rfl, o, rfl⟩
    go_wp2
    refine bodyPost_ret (v := .agg #[.bool false, .slice none 0 0]) (by simp [results, Tryz.results147, go_sem]) rfl ⟨_, rfl, by rw [Int.zero_mul]; exact HI.zero _ _ _, ?_⟩
    have h1 := (Bx1.start w b0 (.slice A0 m0 c0)).lo
    exact h1.alloc h1.size _
  · have d0 := dec_no h0
    go_enter Tryz.func147, Tryz.ntmps147
    go_wp2_with fail
    refine HZ.out.mono ?_
    rintro e w1 ⟨rfl, o, rfl⟩
    go_wp2_with fail
    have h1 := (Bx1.start w b0 (.slice A0 m0 c0)).up (below_al (Below.refl _ _) o)
    have H0 := Lib.hid (Bx0.s ⟨h1.drew.lo, h1.drew.bx⟩)
    have HBR := Lib.hid h1.drew.br
    clear h1 HRX HZ
    go_region_held3 (fun W => Bx0 w b0 (.slice A0 m0 c0) W ∧ W.cell? ⟨w.heap.size, 0, none⟩ = some (.bool b0) ∧ W.cell? ⟨w.heap.size, 1, none⟩ = some (.slice A0 m0 c0))
      (first | exact H0.out | exact ((‹Bx0 w b0 (.slice A0 m0 c0) _ ∧ _›).1.up ‹Below _ _ _›).s | exact (H0.out.1.up ‹Below _ _ _›).s | exact ((‹Bx0 w b0 (.slice A0 m0 c0) _ ∧ _›).1.set _ _).s)
      (first
        | (go_at_call 9; (with_reducible refine (power_any n (Nat.le_trans hn (by decide)) _).mono ?_); rintro e w1 ⟨p, rfl, hp, hb⟩)
        | (go_at_call 156; (with_reducible refine (mulII (Nat.le_trans hL (by decide)) (show n / 8 + 1 ≤ 1000 by omega) (HX.out _ (Bx0.lo (‹Bx0 w b0 (.slice A0 m0 c0) _ ∧ _›).1)) hp).mono ?_); rintro e w2 ⟨z, rfl, hz, hb2⟩; obtain ⟨zb, zA, zm, zc, rfl⟩ := hz.shape; have hrow := (HBR.out.below hb HBR.out.lt).below hb2 (HBR.out.below hb HBR.out.lt).lt; have k0 := hrow.cell 0; have k1 := hrow.cell 1; have f0 := hrow.frozen 0; have f1 := hrow.frozen 1; have lr := hrow.lt; have HR := Lib.hid hrow; clear hrow; simp at k0 k1))
    have hres := Lib.hid (res2 (a := .bool zb) (b := .slice zA zm zc) HR.out)
    have hlo := Lib.hid (‹Bx0 w b0 (.slice A0 m0 c0) _ ∧ _›).1.lo
    have hW1 : w.heap.size + 2 ≤ w1.heap.size := by
      have h1 := HBR.out.lt
      have h2 := hb.size
      omega
    have hz1 := hz.low (B' := w.heap.size + 2) (L' := L + n / 8 + 1) hW1 (by omega)
    have hfin := Lib.hid ((hz1.set (g := w.heap.size + 1) (Nat.lt_succ_self _) 0 (.bool zb)).set (g := w.heap.size + 1) (Nat.lt_succ_self _) 1 (.slice zA zm zc))
    clear hz hz1 HR k0 k1 hb2 hb hp HBR H0 HX hW1
    go_wp2
    have r0 := hres.out.cell 0
    have r1 := hres.out.cell 1
    simp at r0 r1
    exact bodyPost_ret (v := .agg #[.bool zb, .slice zA zm zc]) (by simp [results, Tryz.results147, go_sem, r0, r1]) rfl ⟨_, rfl, hfin.out.low (Nat.le_add_right _ _) (Nat.le_refl _), hlo.out⟩
end Go.Proofs.YtloloifngbmibaaGreatDoor
set_option linter.unusedVariables false
set_option maxRecDepth 4000
namespace Go.Proofs.YtloloifngbmibaaGreatDoor
open Go.RowKit

/-- A finite float's worth, times 2 ^ 1074. -/
def fabs (u : Nat) : Nat := fm u * 2 ^ (1074 - fs u).toNat
def fv (u : Nat) : Int := if 9223372036854775808 ≤ u then -(fabs u : Int) else (fabs u : Int)
/-- A float's class. -/
inductive Fc where
  | fin (x : Int)
  | inf (neg : Bool)
  | nan
  deriving DecidableEq
def fcl (u : Nat) : Fc := if fex u ≠ 2047 then .fin (fv u) else if u % 4503599627370496 = 0 then .inf (decide (9223372036854775808 ≤ u)) else .nan

theorem cmp_scale (a b : Int) (k : Nat) : compare (a * 2 ^ k) (b * 2 ^ k) = compare a b := by
  have hp : (0 : Int) < 2 ^ k := Int.pow_pos (by decide)
  rcases Int.lt_trichotomy a b with h | h | h
  · have := Int.mul_lt_mul_of_pos_right h hp
    rw [Int.compare_eq_lt.2 h, Int.compare_eq_lt.2 this]
  · subst h
    simp
  · have := Int.mul_lt_mul_of_pos_right h hp
    rw [Int.compare_eq_gt.2 h, Int.compare_eq_gt.2 this]

theorem signed_scale (u k : Nat) (base : Int) (hb : -1074 ≤ base) (hle : base ≤ -(fs u)) (hk : k = (base + 1074).toNat) :
    Ieee.signed (decide (9223372036854775808 ≤ u)) (fm u) (-(fs u) - base).toNat * 2 ^ k = fv u := by
  have e : (1074 - fs u).toNat = (-(fs u) - base).toNat + k := by omega
  unfold Ieee.signed fv fabs
  rw [e, Nat.pow_add, Nat.shiftLeft_eq, ← Nat.mul_assoc]
  by_cases hs : 9223372036854775808 ≤ u
  · rw [decide_eq_true hs, if_pos rfl, if_pos hs, Int.neg_mul]
    simp
  · rw [decide_eq_false hs, if_neg (by simp), if_neg hs]
    simp

theorem read_inf (u : Nat) (hu : u < 18446744073709551616) (hf : fex u = 2047) (hz : u % 4503599627370496 = 0) : Ieee.double.read u = .infinity (decide (9223372036854775808 ≤ u)) := by
  have e1 : Ieee.double.signWeight = 9223372036854775808 := by decide +kernel
  have e2 : Ieee.double.binade = 4503599627370496 := by decide +kernel
  have e3 : Ieee.double.infRung = 9218868437227405312 := by decide +kernel
  have e5 : (u / 9223372036854775808 % 2 == 1) = decide (9223372036854775808 ≤ u) := by
    by_cases h : 9223372036854775808 ≤ u
    · rw [show u / 9223372036854775808 % 2 = 1 by omega, decide_eq_true h]
      rfl
    · rw [show u / 9223372036854775808 % 2 = 0 by omega, decide_eq_false h]
      rfl
  unfold Ieee.Format.read
  simp only [e1, e2, e3, e5]
  unfold fex at hf
  have h1 : ¬ u % 9223372036854775808 < 4503599627370496 := by omega
  have h2 : ¬ u % 9223372036854775808 < 9218868437227405312 := by omega
  have h3 : u % 9223372036854775808 = 9218868437227405312 := by omega
  rw [if_neg h1, if_neg h2, if_pos h3]
theorem read_nan (u : Nat) (hu : u < 18446744073709551616) (hf : fex u = 2047) (hz : ¬ u % 4503599627370496 = 0) : ∃ s t, Ieee.double.read u = .nan s t := by
  have e1 : Ieee.double.signWeight = 9223372036854775808 := by decide +kernel
  have e2 : Ieee.double.binade = 4503599627370496 := by decide +kernel
  have e3 : Ieee.double.infRung = 9218868437227405312 := by decide +kernel
  unfold Ieee.Format.read
  simp only [e1, e2, e3]
  unfold fex at hf
  have h1 : ¬ u % 9223372036854775808 < 4503599627370496 := by omega
  have h2 : ¬ u % 9223372036854775808 < 9218868437227405312 := by omega
  have h3 : ¬ u % 9223372036854775808 = 9218868437227405312 := by omega
  rw [if_neg h1, if_neg h2, if_neg h3]
  exact ⟨_, _, rfl⟩

/-- How two classes compare. -/
def fcmp : Fc → Fc → Option Ordering
  | .nan, _ => none
  | _, .nan => none
  | .inf s, .inf t => some (compare t.toNat s.toNat)
  | .inf s, .fin _ => some (if s then .lt else .gt)
  | .fin _, .inf t => some (if t then .gt else .lt)
  | .fin a, .fin b => some (compare a b)

theorem ord_any (u v : Nat) (hu : u < 18446744073709551616) (hv : v < 18446744073709551616) : FloatKind.f64.format.order u v = fcmp (fcl u) (fcl v) := by
  show Ieee.Datum.order (Ieee.double.read u) (Ieee.double.read v) = _
  unfold fcl
  by_cases hf : fex u = 2047
  · rw [if_neg (by omega)]
    by_cases hz : u % 4503599627370496 = 0
    · rw [if_pos hz, read_inf u hu hf hz]
      by_cases hg : fex v = 2047
      · rw [if_neg (by omega)]
        by_cases hy : v % 4503599627370496 = 0
        · rw [if_pos hy, read_inf v hv hg hy]
          rfl
        · obtain ⟨s, t, e⟩ := read_nan v hv hg hy
          rw [if_neg hy, e]
          rfl
      · rw [if_pos (by omega), read_fin v hv hg]
        rfl
    · obtain ⟨s, t, e⟩ := read_nan u hu hf hz
      rw [if_neg hz, e]
      cases Ieee.double.read v <;> cases (if fex v ≠ 2047 then Fc.fin (fv v) else if v % 4503599627370496 = 0 then .inf (decide (9223372036854775808 ≤ v)) else .nan) <;> rfl
  · rw [if_pos (by omega), read_fin u hu hf]
    by_cases hg : fex v = 2047
    · rw [if_neg (by omega)]
      by_cases hy : v % 4503599627370496 = 0
      · rw [if_pos hy, read_inf v hv hg hy]
        rfl
      · obtain ⟨s, t, e⟩ := read_nan v hv hg hy
        rw [if_neg hy, e]
        rfl
    · rw [if_pos (by omega), read_fin v hv hg]
      have b1 := fs_bd u
      have b2 := fs_bd v
      show some (compare (Ieee.signed _ _ _) (Ieee.signed _ _ _)) = some (compare (fv u) (fv v))
      obtain ⟨base, hbase⟩ : ∃ base, base = min (-(fs u)) (-(fs v)) := ⟨_, rfl⟩
      rw [← hbase]
      have hm : base ≤ -(fs u) ∧ base ≤ -(fs v) ∧ -1074 ≤ base := by omega
      have h1 := signed_scale u (base + 1074).toNat base hm.2.2 hm.1 rfl
      have h2 := signed_scale v (base + 1074).toNat base hm.2.2 hm.2.1 rfl
      rw [← h1, ← h2, cmp_scale]
end Go.Proofs.YtloloifngbmibaaGreatDoor
set_option linter.unusedVariables false
set_option maxRecDepth 4000
namespace Go.Proofs.YtloloifngbmibaaGreatDoor
open Go.RowKit

/-- A float of the other sign. -/
def fneg' (u : Nat) : Nat := if u < 9223372036854775808 then u + 9223372036854775808 else u - 9223372036854775808
theorem xor63 (l : Nat) (h : l < 9223372036854775808) : l ^^^ 9223372036854775808 = l + 9223372036854775808 := by
  rw [show (9223372036854775808 : Nat) = 2 ^ 63 from rfl] at h ⊢
  apply Nat.eq_of_testBit_eq
  intro i
  rw [Nat.testBit_xor, Nat.testBit_two_pow, Nat.add_comm l]
  rcases Nat.lt_trichotomy i 63 with hi | hi | hi
  · rw [Nat.testBit_two_pow_add_gt hi, decide_eq_false (by omega)]
    simp
  · subst hi
    rw [Nat.testBit_two_pow_add_eq, decide_eq_true rfl]
    simp
  · rw [decide_eq_false (by omega)]
    have h1 : l.testBit i = false := Nat.testBit_lt_two_pow (Nat.lt_trans h (Nat.pow_lt_pow_right (by decide) hi))
    have h2 : (2 ^ 63 + l).testBit i = false := Nat.testBit_lt_two_pow (Nat.lt_of_lt_of_le (show 2 ^ 63 + l < 2 ^ 64 by omega) (Nat.pow_le_pow_right (by decide) hi))
    rw [h1, h2]
    rfl
theorem negF (u : Nat) (hu : u < 18446744073709551616) : Op.negFloat .f64 u = fneg' u := by
  show u ^^^ 2 ^ (FloatKind.f64.format.exponentBits + FloatKind.f64.format.fractionBits) = _
  rw [show 2 ^ (FloatKind.f64.format.exponentBits + FloatKind.f64.format.fractionBits) = 9223372036854775808 by decide +kernel]
  unfold fneg'
  by_cases h : u < 9223372036854775808
  · rw [if_pos h, xor63 u h]
  · rw [if_neg h]
    obtain ⟨l, rfl⟩ : ∃ l, u = l + 9223372036854775808 := ⟨u - 9223372036854775808, by omega⟩
    rw [← xor63 l (by omega), Nat.xor_assoc, Nat.xor_self, Nat.xor_zero]
    rw [xor63 l (by omega)]
    omega
theorem fneg_lt {u : Nat} (hu : u < 18446744073709551616) : fneg' u < 18446744073709551616 := by unfold fneg'; split <;> omega
/-- The class of the other sign. -/
def Fc.opp : Fc → Fc
  | .fin x => .fin (-x)
  | .inf s => .inf (!s)
  | .nan => .nan
theorem fcl_neg (u : Nat) (hu : u < 18446744073709551616) : fcl (fneg' u) = (fcl u).opp := by
  have h1 : fex (fneg' u) = fex u := by unfold fneg' fex; split <;> omega
  have h2 : fneg' u % 4503599627370496 = u % 4503599627370496 := by unfold fneg'; split <;> omega
  have h3 : (9223372036854775808 ≤ fneg' u) ↔ ¬ 9223372036854775808 ≤ u := by unfold fneg'; split <;> omega
  have h4 : fm (fneg' u) = fm u := by unfold fm; rw [h1, h2]
  have h5 : fs (fneg' u) = fs u := by unfold fs; rw [h1]
  unfold fcl
  rw [h1, h2]
  by_cases hf : fex u ≠ 2047
  · rw [if_pos hf, if_pos hf]
    unfold fv fabs Fc.opp
    rw [h4, h5]
    by_cases hs : 9223372036854775808 ≤ u
    · rw [if_neg (fun h => (h3.1 h) hs), if_pos hs]
      show _ = Fc.fin (- -_)
      rw [Int.neg_neg]
    · rw [if_pos (h3.2 hs), if_neg hs]
  · rw [if_neg hf, if_neg hf]
    by_cases hz : u % 4503599627370496 = 0
    · rw [if_pos hz, if_pos hz]
      unfold Fc.opp
      by_cases hs : 9223372036854775808 ≤ u
      · rw [decide_eq_false (fun h => (h3.1 h) hs), decide_eq_true hs]
        rfl
      · rw [decide_eq_true (h3.2 hs), decide_eq_false hs]
        rfl
    · rw [if_neg hz, if_neg hz]
      rfl

/-- The greatest float. -/
def maxE : Nat := 2045
def maxV : Int := 9007199254740991 * 2 ^ maxE
theorem fabs_le (u : Nat) (hf : fex u ≠ 2047) : (fabs u : Int) ≤ maxV := by
  have h1 := fm_lt u
  have h2 : (1074 - fs u).toNat ≤ maxE := by
    have hx : fex u < 2048 := Nat.mod_lt _ (by decide)
    unfold fs
    unfold maxE
    split <;> omega
  have h3 : fabs u ≤ 9007199254740991 * 2 ^ maxE := Nat.mul_le_mul (by omega) (Nat.pow_le_pow_right (by decide) h2)
  have h4 : maxV = ((9007199254740991 * 2 ^ maxE : Nat) : Int) := by
    unfold maxV
    rw [Int.natCast_mul, Int.natCast_pow]
    rfl
  rw [h4]
  exact Int.ofNat_le.2 h3
theorem fcl_max : fcl 9218868437227405311 = .fin maxV := by decide +kernel
theorem fcl_le {u : Nat} {x : Int} (h : fcl u = .fin x) : -maxV ≤ x ∧ x ≤ maxV := by
  unfold fcl at h
  by_cases hf : fex u ≠ 2047
  · rw [if_pos hf] at h
    injection h with h
    have := fabs_le u hf
    unfold fv at h
    split at h <;> omega
  · rw [if_neg hf] at h
    split at h <;> cases h
theorem gt_max (u : Nat) (hu : u < 18446744073709551616) : (FloatKind.f64.format.order u 9218868437227405311 == some Ordering.gt) = decide (fcl u = .inf false) := by
  rw [ord_any u _ hu (by decide), fcl_max]
  cases h : fcl u with
  | nan => rfl
  | inf s => cases s <;> rfl
  | fin x =>
    have h1 := (fcl_le h).2
    rw [decide_eq_false (by simp)]
    show (some (compare x maxV) == some Ordering.gt) = false
    rw [beq_eq_false_iff_ne]
    intro he
    injection he with he
    rw [Int.compare_eq_gt] at he
    omega
theorem eq_ord (u v : Nat) (hu : u < 18446744073709551616) (hv : v < 18446744073709551616) : (FloatKind.f64.format.order u v == some Ordering.eq) = (decide (fcl u = fcl v) && decide (fcl u ≠ .nan)) := by
  rw [ord_any u v hu hv]
  generalize fcl u = a
  generalize fcl v = b
  cases a <;> cases b <;> simp [fcmp]
  · rename_i x y
    by_cases h : x = y
    · subst h; simp
    · simp [h]
  · rename_i s t
    split <;> decide
  · rename_i s t
    split <;> decide
  · rename_i s t
    cases s <;> cases t <;> decide
theorem nan_ord (u : Nat) (hu : u < 18446744073709551616) : (FloatKind.f64.format.order u u != some Ordering.eq) = decide (fcl u = .nan) := by
  have h := eq_ord u u hu hu
  unfold bne
  rw [h]
  by_cases hn : fcl u = .nan
  · simp [hn]
  · simp [hn]
end Go.Proofs.YtloloifngbmibaaGreatDoor
set_option linter.unusedVariables false
namespace Go.Proofs.YtloloifngbmibaaGreatDoor
open Go.RowKit

/-- A value as a tree. -/
inductive Tr where
  | mk (k : Int) (neg : Bool) (mag : List Int) (bits : Int) (text : ByteArray) (kids : List Tr)
namespace Tr
def k : Tr → Int | ⟨a, _, _, _, _, _⟩ => a
def neg : Tr → Bool | ⟨_, a, _, _, _, _⟩ => a
def mag : Tr → List Int | ⟨_, _, a, _, _, _⟩ => a
def bits : Tr → Int | ⟨_, _, _, a, _, _⟩ => a
def text : Tr → ByteArray | ⟨_, _, _, _, a, _⟩ => a
def kids : Tr → List Tr | ⟨_, _, _, _, _, a⟩ => a
end Tr
/-- None. -/
def tr0 : Tr := ⟨0, false, [], 0, ⟨#[]⟩, []⟩
instance : Inhabited Tr := ⟨tr0⟩

/-- The six cells of a Val. -/
structure Vc where
  k : Int
  n : Bool
  m : Value
  b : Int
  s : ByteArray
  q : Value
@[reducible] def Vc.cells (x : Vc) : List Value := [.int .i64 x.k, .bool x.n, x.m, .int .u64 x.b, .string x.s, x.q]
@[reducible] def Vc.agg (x : Vc) : Value := .agg #[.int .i64 x.k, .bool x.n, x.m, .int .u64 x.b, .string x.s, x.q]
def vcs (l : List Vc) : List Value := l.flatMap Vc.cells
theorem vcs_len (l : List Vc) : (vcs l).length = l.length * 6 := flat_len _ 6 (fun _ => rfl) l
theorem vcs_app (l m : List Vc) : vcs (l ++ m) = vcs l ++ vcs m := by simp [vcs]
/-- The six cells of element i. -/
theorem rd_vc {w : World} {S : Nat → Prop} {A : Option Addr} {l : List Vc} (h : Rd w S A (vcs l)) {i : Nat} (hi : i < l.length) : ∃ x, l[i]? = some x ∧ ∃ b o, A = some ⟨b, o, none⟩ ∧ S b ∧
    w.cell? ⟨b, o + i * 6, none⟩ = some (.int .i64 x.k) ∧ w.cell? ⟨b, o + i * 6 + 1, none⟩ = some (.bool x.n) ∧ w.cell? ⟨b, o + i * 6 + 2, none⟩ = some x.m ∧
    w.cell? ⟨b, o + i * 6 + 3, none⟩ = some (.int .u64 x.b) ∧ w.cell? ⟨b, o + i * 6 + 4, none⟩ = some (.string x.s) ∧ w.cell? ⟨b, o + i * 6 + 5, none⟩ = some x.q := by
  obtain ⟨b, o, e, hb, hc⟩ := h (by rw [vcs_len]; omega)
  have q := fun j (hj : j < 6) => flat_get Vc.cells 6 (fun _ => rfl) l i j hi hj
  exact ⟨l[i], List.getElem?_eq_getElem hi, b, o, e, hb, hc _ _ (q 0 (by decide)), hc _ _ (q 1 (by decide)), hc _ _ (q 2 (by decide)), hc _ _ (q 3 (by decide)), hc _ _ (q 4 (by decide)), hc _ _ (q 5 (by decide))⟩

/-- The scalar part of a Val. -/
structure IsH (w : World) (S : Nat → Prop) (t : Tr) (x : Vc) : Prop where
  k : x.k = t.k
  n : x.n = t.neg
  b : x.b = t.bits
  s : x.s = t.text
  m : SlV w S .u8 x.m t.mag

/-- A Val, known down to a depth. -/
def IsV : Nat → World → (Nat → Prop) → Tr → Vc → Prop
  | 0, w, S, t, x => IsH w S t x ∧ ∃ A n c, x.q = .slice A n c ∧ n ≤ c
  | d + 1, w, S, t, x => IsH w S t x ∧ ∃ A c, ∃ xs : List Vc, x.q = .slice A t.kids.length c ∧ t.kids.length ≤ c ∧ xs.length = t.kids.length ∧ Rd w S A (vcs xs) ∧ ∀ (i : Nat) (y : Vc) (u : Tr), xs[i]? = some y → t.kids[i]? = some u → IsV d w S u y

section
variable {w w' : World} {S S' : Nat → Prop} {t : Tr} {x : Vc}
theorem IsH.keep (h : IsH w S t x) (hk : Still S w w') : IsH w' S t x := ⟨h.k, h.n, h.b, h.s, h.m.keep hk⟩
theorem IsH.mono (h : IsH w S t x) (hs : ∀ k, S k → S' k) : IsH w S' t x := ⟨h.k, h.n, h.b, h.s, h.m.mono hs⟩
theorem IsV.keep : ∀ {d : Nat} {t : Tr} {x : Vc}, IsV d w S t x → Still S w w' → IsV d w' S t x
  | 0, _, _, h, hk => ⟨h.1.keep hk, h.2⟩
  | d + 1, _, _, h, hk => by
    obtain ⟨h1, A, c, xs, e1, e2, e3, hr, hx⟩ := h
    exact ⟨h1.keep hk, A, c, xs, e1, e2, e3, hr.keep hk, fun i y u hy hu => (hx i y u hy hu).keep hk⟩
theorem IsV.mono : ∀ {d : Nat} {t : Tr} {x : Vc}, IsV d w S t x → (∀ k, S k → S' k) → IsV d w S' t x
  | 0, _, _, h, hs => ⟨h.1.mono hs, h.2⟩
  | d + 1, _, _, h, hs => by
    obtain ⟨h1, A, c, xs, e1, e2, e3, hr, hx⟩ := h
    exact ⟨h1.mono hs, A, c, xs, e1, e2, e3, hr.mono hs, fun i y u hy hu => (hx i y u hy hu).mono hs⟩
theorem IsV.head : ∀ {d : Nat} {t : Tr} {x : Vc}, IsV d w S t x → IsH w S t x
  | 0, _, _, h => h.1
  | _ + 1, _, _, h => h.1
theorem IsV.kidsV : ∀ {d : Nat} {t : Tr} {x : Vc}, IsV d w S t x → ∃ A n c, x.q = .slice A n c ∧ n ≤ c
  | 0, _, _, h => h.2
  | _ + 1, _, _, h => by
    obtain ⟨_, A, c, xs, e1, e2, _⟩ := h
    exact ⟨A, _, c, e1, e2⟩
theorem IsV.down : ∀ {d : Nat} {t : Tr} {x : Vc}, IsV (d + 1) w S t x → IsV d w S t x
  | 0, _, _, h => ⟨h.1, h.kidsV⟩
  | d + 1, _, _, h => by
    obtain ⟨h1, A, c, xs, e1, e2, e3, hr, hx⟩ := h
    exact ⟨h1, A, c, xs, e1, e2, e3, hr, fun i y u hy hu => (hx i y u hy hu).down⟩
end

/-- A Val that is there in a world. -/
def HV (d : Nat) (t : Tr) (x : Vc) (W : World) : Prop := ∃ S : Nat → Prop, IsV d W S t x ∧ ∀ k, S k → k < W.heap.size
theorem HV.up {d : Nat} {t : Tr} {x : Vc} {W W' : World} (h : HV d t x W) (hb : Below W.heap.size W W') : HV d t x W' := by
  obtain ⟨S, h1, h2⟩ := h
  exact ⟨S, h1.keep (still_below hb h2), fun k hk => Nat.lt_of_lt_of_le (h2 k hk) hb.size⟩
theorem HV.down {d : Nat} {t : Tr} {x : Vc} {W : World} (h : HV (d + 1) t x W) : HV d t x W := by
  obtain ⟨S, h1, h2⟩ := h
  exact ⟨S, h1.down, h2⟩
/-- Vals that are there in a world. -/
def HVs (d : Nat) (ts : List Tr) (A : Option Addr) (W : World) : Prop := ∃ (S : Nat → Prop) (xs : List Vc), xs.length = ts.length ∧ Rd W S A (vcs xs) ∧ (∀ (i : Nat) (y : Vc) (u : Tr), xs[i]? = some y → ts[i]? = some u → IsV d W S u y) ∧ ∀ k, S k → k < W.heap.size
theorem HVs.up {d : Nat} {ts : List Tr} {A : Option Addr} {W W' : World} (h : HVs d ts A W) (hb : Below W.heap.size W W') : HVs d ts A W' := by
  obtain ⟨S, xs, h1, h2, h3, h4⟩ := h
  have hs := still_below hb h4
  exact ⟨S, xs, h1, h2.keep hs, fun i y u hy hu => (h3 i y u hy hu).keep hs, fun k hk => Nat.lt_of_lt_of_le (h4 k hk) hb.size⟩
theorem HV.kids {d : Nat} {t : Tr} {x : Vc} {W : World} (h : HV (d + 1) t x W) : ∃ A c, x.q = .slice A t.kids.length c ∧ t.kids.length ≤ c ∧ HVs d t.kids A W := by
  obtain ⟨S, ⟨h1, A, c, xs, e1, e2, e3, hr, hx⟩, h2⟩ := h
  exact ⟨A, c, e1, e2, S, xs, e3, hr, hx, h2⟩
/-- One of them: its six cells. -/
theorem HVs.at_ {d : Nat} {ts : List Tr} {A : Option Addr} {W : World} (h : HVs d ts A W) {i : Nat} (hi : i < ts.length) : ∃ x t, ts[i]? = some t ∧ HV d t x W ∧ ∃ b o, A = some ⟨b, o, none⟩ ∧
    W.cell? ⟨b, o + i * 6, none⟩ = some (.int .i64 x.k) ∧ W.cell? ⟨b, o + i * 6 + 1, none⟩ = some (.bool x.n) ∧ W.cell? ⟨b, o + i * 6 + 2, none⟩ = some x.m ∧
    W.cell? ⟨b, o + i * 6 + 3, none⟩ = some (.int .u64 x.b) ∧ W.cell? ⟨b, o + i * 6 + 4, none⟩ = some (.string x.s) ∧ W.cell? ⟨b, o + i * 6 + 5, none⟩ = some x.q := by
  obtain ⟨S, xs, h1, h2, h3, h4⟩ := h
  obtain ⟨x, hx, b, o, e, _, c⟩ := rd_vc h2 (i := i) (by omega)
  exact ⟨x, ts[i], List.getElem?_eq_getElem hi, ⟨S, h3 i x _ hx (List.getElem?_eq_getElem hi), h4⟩, b, o, e, c⟩
end Go.Proofs.YtloloifngbmibaaGreatDoor
set_option linter.unusedVariables false
set_option linter.unusedSimpArgs false
set_option maxRecDepth 4000
namespace Go.Proofs.YtloloifngbmibaaGreatDoor
open Go.RowKit

/-- A boxed Val: its block. -/
abbrev VcB (x : Vc) : Array Value := #[.int .i64 x.k, .bool x.n, x.m, .int .u64 x.b, .string x.s, x.q]
theorem vb_new (w : World) (x : Vc) : Blk (w.alloc (.cells (VcB x) 26)) w.heap.size 26 (VcB x) := Blk.new _ _ _

theorem number_v (x : Vc) (w : World) : Calls Tryz.prog 105 #[x.agg] w fun e w' => e = .returned (.bool (decide (x.k = 2) || decide (x.k = 3))) ∧ Below w.heap.size w w' := by
  obtain ⟨k, n, m, b, s, q⟩ := x
  by_cases h2 : k = 2
  · subst h2
    go_enter Tryz.func105, Tryz.ntmps105
    go_wp2
    go_ret
    exact ⟨rfl, (Below.refl _ _).alloc (Nat.le_refl _) _⟩
  · by_cases h3 : k = 3
    · subst h3
      go_enter Tryz.func105, Tryz.ntmps105
      go_wp2
      go_ret
      exact ⟨rfl, (Below.refl _ _).alloc (Nat.le_refl _) _⟩
    · have e2 := beq_no h2
      have e3 := beq_no h3
      have d2 := dec_no h2
      have d3 := dec_no h3
      clear h2 h3
      go_enter Tryz.func105, Tryz.ntmps105
      go_wp2
      go_ret
      exact ⟨by rw [d2, d3]; rfl, (Below.refl _ _).alloc (Nat.le_refl _) _⟩

theorem textVal_v (s : ByteArray) (w : World) : Calls Tryz.prog 22 #[.string s] w fun e w' => e = .returned (Vc.agg ⟨4, false, .slice none 0 0, 0, s, .slice none 0 0⟩) ∧ Below w.heap.size w w' := by
  go_enter Tryz.func22, Tryz.ntmps22
  go_wp2
  exact bodyPost_ret (v := .agg #[.int .i64 4, .bool false, .slice none 0 0, .int .u64 0, .string s, .slice none 0 0]) (by simp [results, Tryz.results22, go_sem]) rfl ⟨rfl, (Below.refl _ _).alloc (Nat.le_refl _) _⟩

theorem boolVal_v (b : Bool) (w : World) : Calls Tryz.prog 42 #[.bool b] w fun e w' => e = .returned (Vc.agg ⟨1, false, .slice none 0 0, if b then 1 else 0, ⟨#[]⟩, .slice none 0 0⟩) ∧ Below w.heap.size w w' := by
  cases b
  · go_enter Tryz.func42, Tryz.ntmps42
    go_wp2
    exact bodyPost_ret (v := .agg #[.int .i64 1, .bool false, .slice none 0 0, .int .u64 0, .string ⟨#[]⟩, .slice none 0 0]) (by simp [results, Tryz.results42, go_sem]) rfl ⟨rfl, (Below.refl _ _).alloc (Nat.le_refl _) _⟩
  · go_enter Tryz.func42, Tryz.ntmps42
    go_wp2
    exact bodyPost_ret (v := .agg #[.int .i64 1, .bool false, .slice none 0 0, .int .u64 1, .string ⟨#[]⟩, .slice none 0 0]) (by simp [results, Tryz.results42, go_sem]) rfl ⟨rfl, (Below.refl _ _).alloc (Nat.le_refl _) _⟩

/-- Element i of a slice of Vals. -/
def KidAt (W : World) (A : Option Addr) (i : Nat) (x : Vc) : Prop := ∃ b o, A = some ⟨b, o, none⟩ ∧
    W.cell? ⟨b, o + i * 6, none⟩ = some (.int .i64 x.k) ∧ W.cell? ⟨b, o + i * 6 + 1, none⟩ = some (.bool x.n) ∧ W.cell? ⟨b, o + i * 6 + 2, none⟩ = some x.m ∧
    W.cell? ⟨b, o + i * 6 + 3, none⟩ = some (.int .u64 x.b) ∧ W.cell? ⟨b, o + i * 6 + 4, none⟩ = some (.string x.s) ∧ W.cell? ⟨b, o + i * 6 + 5, none⟩ = some x.q

/-- No deeper than d. -/
def Dp : Nat → Tr → Prop
  | 0, t => t.kids = []
  | d + 1, t => ∀ u ∈ t.kids, Dp d u
/-- What can be a key. -/
def KeyT : Nat → Tr → Prop
  | 0, t => t.k < 6 ∨ t.k = 7
  | d + 1, t => t.k < 6 ∨ (t.k = 7 ∧ ∀ u ∈ t.kids, KeyT d u)

theorem size_core (A : Option Addr) (n c : Nat) (k : Int) (ng : Bool) (m : Value) (bt : Int) (s : ByteArray) (most : Int) (w : World) (hn : n ≤ 1000)
    (HK : ∀ i, i < n → ∀ W, Below w.heap.size w W → ∃ y, KidAt W A i y ∧ ∀ most : Int, Calls Tryz.prog 21 #[y.agg, .int .i64 most] W fun e w' => ∃ r, e = .returned (.int .i64 r) ∧ Below W.heap.size W w') :
    Calls Tryz.prog 21 #[.agg #[.int .i64 k, .bool ng, m, .int .u64 bt, .string s, .slice A n c], .int .i64 most] w fun e w' => ∃ r, e = .returned (.int .i64 r) ∧ Below w.heap.size w w' := by
  have HH := Lib.hid HK
  have h0 := Lib.hid (Blk.new w 26 #[.int .i64 k, .bool ng, m, .int .u64 bt, .string s, .slice A n c])
  have h1 := Lib.hid ((Below.refl w.heap.size w).alloc (Nat.le_refl _) (.cells #[.int .i64 k, .bool ng, m, .int .u64 bt, .string s, .slice A n c] 26))
  clear HK
  go_enter Tryz.func21, Tryz.ntmps21
  go_wp2
  go_loopw [5, 6] (fun nv iv wr => ∃ (z : Int) (i : Nat), nv = .int .i64 z ∧ iv = .int .i64 i ∧ i ≤ n ∧ Hid (Blk wr w.heap.size 26 #[.int .i64 k, .bool ng, m, .int .u64 bt, .string s, .slice A n c]) ∧ Hid (Below w.heap.size w wr)) (fun _ iv _ => n - (intOf iv).toNat)
  case atStart => exact ⟨1, 0, rfl, rfl, Nat.zero_le _, h0, h1⟩
  case round =>
    obtain ⟨z, i, rfl, rfl, hi, hB, hL⟩ := hrel
    have b5 := hB.out.cell 5
    have lb := hB.out.lt
    simp at b5
    by_cases hlt : i < n
    · by_cases hz : z ≤ most
      · obtain ⟨y, ⟨b, o, rfl, y0, y1, y2, y3, y4, y5⟩, hc⟩ := HH.out i hlt wr hL.out
        have HC := Lib.hid hc
        clear hc
        go_wp2_with fail
        refine (HC.out _).mono ?_
        rintro e w1 ⟨r, rfl, hb⟩
        have hB1 := Lib.hid (hB.out.below hb lb)
        have hL1 := Lib.hid (below_up hL.out hb)
        have HM : Hid (n - (i + 1) < n - i) := Lib.hid (by omega)
        have w1k : wrap64 ((i : Int) + 1) = (i : Int) + 1 := by unfold wrap64; omega
        clear hB hL hb y0 y1 y2 y3 y4 y5 b5
        go_wp2
        go_roundw
        case rel => exact ⟨_, i + 1, rfl, by first | rfl | (rw [w1k]; rfl), by omega, hB1, hL1⟩
        case measure => first | exact HM.out | (rw [w1k]; exact HM.out)
      · go_wp2
        go_ret
        first | exact ⟨_, rfl, hL.out⟩ | exact ⟨⟨_, rfl⟩, hL.out⟩
    · go_wp2
      go_ret
      first | exact ⟨_, rfl, hL.out⟩ | exact ⟨⟨_, rfl⟩, hL.out⟩

theorem size_v : ∀ (d : Nat) (t : Tr) (x : Vc) (most : Int) (w : World), HV (d + 1) t x w → Dp d t → (∀ u : Tr, u.kids.length ≤ 1000) →
    Calls Tryz.prog 21 #[x.agg, .int .i64 most] w fun e w' => ∃ r, e = .returned (.int .i64 r) ∧ Below w.heap.size w w' := by
  intro d
  induction d with
  | zero =>
    intro t x most w h hd hl
    obtain ⟨A, c, hq, hc, _⟩ := h.kids
    obtain ⟨k, n, m, b, s, q⟩ := x
    subst hq
    exact size_core A _ c k n m b s most w (hl t) (fun i hi => by rw [show t.kids = [] from hd] at hi; simp at hi)
  | succ d ih =>
    intro t x most w h hd hl
    obtain ⟨A, c, hq, hc, hk⟩ := h.kids
    obtain ⟨k, n, m, b, s, q⟩ := x
    subst hq
    refine size_core A _ c k n m b s most w (hl t) (fun i hi W hW => ?_)
    obtain ⟨y, u, hu, hy, hb⟩ := (hk.up hW).at_ hi
    exact ⟨y, hb, fun most' => ih u y most' W hy (hd u (List.mem_of_getElem? hu)) hl⟩

theorem hash_core (A : Option Addr) (n c : Nat) (k : Int) (ng : Bool) (m : Value) (bt : Int) (s : ByteArray) (P : Nat → Prop) (w : World) (hn : n ≤ 1000)
    (HK : k = 7 → ∀ i, i < n → ∀ W, Below w.heap.size w W → ∃ y, KidAt W A i y ∧ Calls Tryz.prog 50 #[y.agg] W fun e w' => ∃ r, e = .returned (.bool r) ∧ (r = true → P i) ∧ Below W.heap.size W w') :
    Calls Tryz.prog 50 #[.agg #[.int .i64 k, .bool ng, m, .int .u64 bt, .string s, .slice A n c]] w fun e w' => ∃ r, e = .returned (.bool r) ∧ (r = true → k < 6 ∨ (k = 7 ∧ ∀ i, i < n → P i)) ∧ Below w.heap.size w w' := by
  have HH := Lib.hid HK
  have h0 := Lib.hid (Blk.new w 26 #[.int .i64 k, .bool ng, m, .int .u64 bt, .string s, .slice A n c])
  have h1 := Lib.hid ((Below.refl w.heap.size w).alloc (Nat.le_refl _) (.cells #[.int .i64 k, .bool ng, m, .int .u64 bt, .string s, .slice A n c] 26))
  clear HK
  by_cases h7 : k = 7
  · have HK := Lib.hid (HH.out h7)
    clear HH
    subst h7
    go_enter Tryz.func50, Tryz.ntmps50
    go_wp2
    go_loopw [3] (fun iv wr => ∃ (i : Nat), iv = .int .i64 i ∧ i ≤ n ∧ Hid (∀ j, j < i → P j) ∧ Hid (Blk wr w.heap.size 26 #[.int .i64 7, .bool ng, m, .int .u64 bt, .string s, .slice A n c]) ∧ Hid (Below w.heap.size w wr)) (fun iv _ => n - (intOf iv).toNat)
    case atStart => exact ⟨0, rfl, Nat.zero_le _, Lib.hid (fun j hj => by omega), h0, h1⟩
    case round =>
      obtain ⟨i, rfl, hi, hP, hB, hL⟩ := hrel
      have b5 := hB.out.cell 5
      have lb := hB.out.lt
      simp at b5
      by_cases hlt : i < n
      · obtain ⟨y, ⟨b, o, rfl, y0, y1, y2, y3, y4, y5⟩, hc⟩ := HK.out i hlt wr hL.out
        have HC := Lib.hid hc
        clear hc
        go_wp2_with fail
        refine HC.out.mono ?_
        rintro e w1 ⟨r, rfl, hr, hb⟩
        have hB1 := Lib.hid (hB.out.below hb lb)
        have hL1 := Lib.hid (below_up hL.out hb)
        have HR := Lib.hid hr
        have HM : Hid (n - (i + 1) < n - i) := Lib.hid (by omega)
        have w1k : wrap64 ((i : Int) + 1) = (i : Int) + 1 := by unfold wrap64; omega
        clear hB hL hb y0 y1 y2 y3 y4 y5 b5 hr
        cases r with
        | true =>
          go_wp2
          go_roundw
          case rel => exact ⟨i + 1, by first | rfl | (rw [w1k]; rfl), by omega, Lib.hid (fun j hj => by rcases Nat.lt_succ_iff_lt_or_eq.1 hj with h | h; exact hP.out j h; subst h; first | exact HR.out rfl | exact HR.out trivial), hB1, hL1⟩
          case measure => first | exact HM.out | (rw [w1k]; exact HM.out)
        | false =>
          go_wp2
          go_ret
          exact ⟨false, rfl, by simp, hL1.out⟩
      · have hin : i = n := by omega
        subst hin
        go_wp2
        go_ret
        exact ⟨true, rfl, fun _ => (by first | exact .inr ⟨rfl, hP.out⟩ | exact .inr ⟨trivial, hP.out⟩), hL.out⟩
  · have e7 := beq_no h7
    by_cases h6 : k < 6
    · have d6 := dec_yes h6
      have H6 := Lib.hid h6
      clear h6 h7 HH
      go_enter Tryz.func50, Tryz.ntmps50
      go_wp2
      go_ret
      exact ⟨true, rfl, fun _ => .inl H6.out, h1.out⟩
    · have d6 := dec_no h6
      clear h6 h7 HH
      go_enter Tryz.func50, Tryz.ntmps50
      go_wp2
      go_ret
      exact ⟨false, rfl, by simp, h1.out⟩
end Go.Proofs.YtloloifngbmibaaGreatDoor
set_option linter.unusedVariables false
set_option linter.unusedSimpArgs false
set_option maxRecDepth 4000
namespace Go.Proofs.YtloloifngbmibaaGreatDoor
open Go.RowKit

theorem isNaN_any (u : Nat) (hu : u < 18446744073709551616) (w : World) : Calls Tryz.prog 39 #[.float .f64 u] w fun e w' => e = .returned (.bool (decide (fcl u = .nan))) ∧ w' = w := by
  have H := nan_ord u hu
  go_enter Tryz.func39, Tryz.ntmps39
  go_wp2
  go_ret
  exact ⟨rfl, rfl⟩
theorem isInf_pos (u : Nat) (hu : u < 18446744073709551616) (w : World) : Calls Tryz.prog 136 #[.float .f64 u, .int .i64 1] w fun e w' => e = .returned (.bool (decide (fcl u = .inf false))) ∧ w' = w := by
  have H := gt_max u hu
  go_enter Tryz.func136, Tryz.ntmps136
  go_wp2
  go_ret
  exact ⟨rfl, rfl⟩
theorem isInf_neg (u : Nat) (hu : u < 18446744073709551616) (w : World) : Calls Tryz.prog 136 #[.float .f64 u, .int .i64 (-1)] w fun e w' => e = .returned (.bool (decide (fcl u = .inf true))) ∧ w' = w := by
  have H1 : ∀ w, (Op.unary UnOp.neg (.float .f64 u)).run Tryz.prog w = .ok (.float .f64 (fneg' u)) w := fun w => by
    show Result.ok (Value.float .f64 (Op.negFloat .f64 u)) w = _
    rw [negF u hu]
  have H2 : (FloatKind.f64.format.order (fneg' u) 9218868437227405311 == some Ordering.gt) = decide (fcl u = .inf true) := by
    rw [gt_max _ (fneg_lt hu), fcl_neg u hu]
    cases fcl u with
    | fin x => simp [Fc.opp]
    | nan => simp [Fc.opp]
    | inf s => cases s <;> simp [Fc.opp]
  go_enter Tryz.func136, Tryz.ntmps136
  go_wp2
  go_ret
  exact ⟨rfl, rfl⟩
theorem fl_any (x : Vc) (u : Nat) (hx : x.b = (u : Int)) (hu : u < 18446744073709551616) (w : World) : Calls Tryz.prog 40 #[x.agg] w fun e w' => e = .returned (.float .f64 u) ∧ Below w.heap.size w w' := by
  obtain ⟨k, n, m, b, s, q⟩ := x
  have hx : b = (u : Int) := hx
  subst hx
  have hb : ∀ w, (callFunc 63 #[.int .u64 (u : Int)]).run Tryz.prog w = .ok (.value (.float .f64 u)) w := fun w => by
    rw [run_callFunc_extern Tryz.func63 (by kernel_rfl) (by kernel_rfl) (by kernel_rfl) (e := Extern.MathFloatBits.float64frombits) (by kernel_rfl)]
    rfl
  go_enter Tryz.func40, Tryz.ntmps40
  go_wp2
  go_ret
  exact ⟨rfl, (Below.refl _ _).alloc (Nat.le_refl _) _⟩
/-- Two floats that are equal are found so. -/
theorem cmpFloats_any (u v : Nat) (hu : u < 18446744073709551616) (hv : v < 18446744073709551616) (w : World) : Calls Tryz.prog 123 #[.float .f64 u, .float .f64 v] w fun e w' => ∃ c : Int, e = .returned (.int .i64 c) ∧ (fcl u = fcl v → c = 0) ∧ w' = w := by
  have H := eq_ord u v hu hv
  have N1 := fun w => isNaN_any u hu w
  have N2 := fun w => isNaN_any v hv w
  generalize hA : decide (fcl u = .nan) = bA at N1
  generalize hB : decide (fcl v = .nan) = bB at N2
  generalize hC : (decide (fcl u = fcl v) && decide (fcl u ≠ .nan)) = bC at H
  have HE : Hid (fcl u = fcl v → (bA = true ∧ bB = true) ∨ bC = true) := Lib.hid fun h => by
    rw [← hA, ← hB, ← hC, h]
    by_cases hn : fcl v = .nan <;> simp [hn]
  clear hA hB hC hu hv
  cases bA <;> cases bB <;> cases bC
  all_goals
    go_enter Tryz.func123, Tryz.ntmps123
    go_wp2_with (first | (go_at_call 39; (with_reducible refine (N1 _).mono ?_); rintro e w' ⟨rfl, rfl⟩) | (go_at_call 39; (with_reducible refine (N2 _).mono ?_); rintro e w' ⟨rfl, rfl⟩))
    all_goals
      go_ret
      exact ⟨_, rfl, fun h => by first | rfl | (have := HE.out h; simp at this), rfl⟩
end Go.Proofs.YtloloifngbmibaaGreatDoor
