/- Floats in and out of the range of an int64: plain facts. MakeInt64 with its shape; Rat.Num, Rat.Denom; Int.Div by one. Int.Div by one. finiteFloatToInt, Float.Hash. The language's Hash on keys. -/
import Derived.Test.YtloloifngbmibaaGreatDoorM26
import Derived.Laws.FloatArith
import Derived.Test.YtloloifngbmibaaGreatDoorM27
set_option linter.unusedVariables false
set_option linter.unusedSimpArgs false
set_option maxRecDepth 4000
namespace Go.Proofs.YtloloifngbmibaaGreatDoor
open Go.RowKit

def e63 : Nat := 1085
/-- 2 ^ 63, times 2 ^ 1074. -/
def V63 : Int := 4503599627370496 * 2 ^ e63
theorem fcl_hi : fcl 4890909195324358656 = .fin V63 := by decide +kernel
theorem fcl_lo : fcl 14114281232179134464 = .fin (-V63) := by decide +kernel
theorem v63_eq (N : Nat) (hN : N = 1074) : V63 = 9223372036854775808 * 2 ^ N := by
  unfold V63
  rw [show e63 = N + 11 by rw [hN]; rfl, Int.pow_add]
  have : (2 : Int) ^ 11 = 2048 := by decide
  rw [this]
  omega
theorem ge_lo (u : Nat) (hu : u < 18446744073709551616) {x : Int} (h : fcl u = .fin x) : (FloatKind.f64.format.order 14114281232179134464 u == some Ordering.lt || FloatKind.f64.format.order 14114281232179134464 u == some Ordering.eq) = decide (-V63 ≤ x) := by
  rw [ord_any _ u (by decide) hu, fcl_lo, h]
  show (some (compare (-V63) x) == some Ordering.lt || some (compare (-V63) x) == some Ordering.eq) = _
  rcases Int.lt_trichotomy (-V63) x with h1 | h1 | h1
  · rw [Int.compare_eq_lt.2 h1, decide_eq_true (by omega)]
    rfl
  · rw [Int.compare_eq_eq.2 h1, decide_eq_true (by omega)]
    rfl
  · rw [Int.compare_eq_gt.2 h1, decide_eq_false (by omega)]
    rfl
theorem lt_hi (u : Nat) (hu : u < 18446744073709551616) {x : Int} (h : fcl u = .fin x) : (FloatKind.f64.format.order u 4890909195324358656 == some Ordering.lt) = decide (x < V63) := by
  rw [ord_any u _ hu (by decide), fcl_hi, h]
  show (some (compare x V63) == some Ordering.lt) = _
  rcases Int.lt_trichotomy x V63 with h1 | h1 | h1
  · rw [Int.compare_eq_lt.2 h1, decide_eq_true (by omega)]
    rfl
  · rw [Int.compare_eq_eq.2 h1, decide_eq_false (by omega)]
    rfl
  · rw [Int.compare_eq_gt.2 h1, decide_eq_false (by omega)]
    rfl
theorem fin_fv {u : Nat} {x : Int} (h : fcl u = .fin x) : fex u ≠ 2047 ∧ x = fv u := by
  unfold fcl at h
  by_cases hf : fex u ≠ 2047
  · rw [if_pos hf] at h
    injection h with h
    exact ⟨hf, h.symm⟩
  · rw [if_neg hf] at h
    split at h <;> cases h
/-- Beyond int64: a whole number. -/
theorem out_neg {u : Nat} {x : Int} (h : fcl u = .fin x) (ho : ¬ (-V63 ≤ x ∧ x < V63)) : fs u < 0 ∧ 0 < fm u := by
  obtain ⟨N, hN⟩ : ∃ N : Nat, N = 1074 := ⟨_, rfl⟩
  have e := v63_eq N hN
  have hx := (fin_fv h).2
  have hp : (0 : Int) < 2 ^ N := Int.pow_pos (by decide)
  have hb := fs_bd u
  have h1 : V63 ≤ (fabs u : Int) := by
    unfold fv at hx
    split at hx <;> omega
  have h2 := fm_lt u
  constructor
  · refine Int.not_le.1 fun h0 => ?_
    have h3 : fabs u ≤ 9007199254740991 * 2 ^ N := Nat.mul_le_mul (by omega) (Nat.pow_le_pow_right (by decide) (by omega))
    have h4 : ((9007199254740991 * 2 ^ N : Nat) : Int) = 9007199254740991 * 2 ^ N := by simp
    have h5 : (fabs u : Int) ≤ 9007199254740991 * 2 ^ N := by rw [← h4]; exact Int.ofNat_le.2 h3
    omega
  · refine Nat.pos_of_ne_zero fun h0 => ?_
    have : fabs u = 0 := by unfold fabs; rw [h0, Nat.zero_mul]
    rw [this] at h1
    omega
/-- Within int64: cut towards zero it is an int64. -/
theorem in_int (u : Nat) (hu : u < 18446744073709551616) {x : Int} (h : fcl u = .fin x) (h1 : -V63 ≤ x) (h2 : x < V63) : ∃ n : Int, floatToIntVal .f64 u .i64 = some n ∧ -9223372036854775808 ≤ n ∧ n ≤ 9223372036854775807 := by
  obtain ⟨N, hN⟩ : ∃ N : Nat, N = 1074 := ⟨_, rfl⟩
  have e := v63_eq N hN
  obtain ⟨hf, hx⟩ := fin_fv h
  have hp : (0 : Int) < 2 ^ N := Int.pow_pos (by decide)
  have hb := fs_bd u
  have hm := fm_lt u
  obtain ⟨mg, hmg⟩ : ∃ mg, mg = Ieee.Toward.cut .zero (decide (9223372036854775808 ≤ u)) (fm u <<< (-(fs u)).toNat) (fs u).toNat := ⟨_, rfl⟩
  have ht : (FloatKind.f64.decode u).toInt .zero = some (Ieee.signed (decide (9223372036854775808 ≤ u)) mg 0) := by
    show (Ieee.double.read u).toInt .zero = _
    rw [read_fin u hu hf]
    show some (Ieee.signed _ (Ieee.Toward.cut .zero _ (fm u <<< (-(fs u)).toNat) (-(-(fs u))).toNat) 0) = _
    rw [hmg, Int.neg_neg]
  have hcut : mg = (fm u <<< (-(fs u)).toNat) / (1 <<< min (fs u).toNat ((fm u <<< (-(fs u)).toNat).log2 + 2)) := by
    rw [hmg]
    simp [Ieee.Toward.cut]
  have hle : mg ≤ 9007199254740992 ∨ (mg : Int) * 2 ^ N = (fabs u : Int) := by
    by_cases h0 : 0 < fs u
    · refine .inl ?_
      rw [show (-(fs u)).toNat = 0 by omega, Nat.shiftLeft_zero] at hcut
      have := Nat.div_le_self (fm u) (1 <<< min (fs u).toNat ((fm u).log2 + 2))
      omega
    · refine .inr ?_
      rw [show (fs u).toNat = 0 by omega, Nat.zero_min, Nat.shiftLeft_zero, Nat.div_one, Nat.shiftLeft_eq] at hcut
      unfold fabs
      rw [hcut, show (1074 - fs u).toNat = (-(fs u)).toNat + N by omega, Nat.pow_add]
      simp only [Int.natCast_mul, Int.natCast_pow]
      rw [Int.mul_assoc]
      rfl
  have hsg : Ieee.signed (decide (9223372036854775808 ≤ u)) mg 0 = if 9223372036854775808 ≤ u then -(mg : Int) else (mg : Int) := by
    unfold Ieee.signed
    rw [Nat.shiftLeft_zero]
    simp
  have hbd : -9223372036854775808 ≤ Ieee.signed (decide (9223372036854775808 ≤ u)) mg 0 ∧ Ieee.signed (decide (9223372036854775808 ≤ u)) mg 0 ≤ 9223372036854775807 := by
    rw [hsg]
    rcases hle with hle | hle
    · split <;> omega
    · unfold fv at hx
      rw [← hle] at hx
      rw [e] at h1 h2
      split at hx
      · rename_i hs
        rw [if_pos hs]
        have : (mg : Int) ≤ 9223372036854775808 := Int.not_lt.1 fun hlt => by
          have := Int.mul_lt_mul_of_pos_right hlt hp
          omega
        omega
      · rename_i hs
        rw [if_neg hs]
        have : (mg : Int) < 9223372036854775808 := Int.not_le.1 fun hlt => by
          have := Int.mul_le_mul_of_nonneg_right hlt (Int.le_of_lt hp)
          omega
        omega
  refine ⟨_, ?_, hbd.1, hbd.2⟩
  unfold floatToIntVal
  rw [ht]
  exact if_pos hbd
end Go.Proofs.YtloloifngbmibaaGreatDoor
set_option linter.unusedVariables false
set_option linter.unusedSimpArgs false
set_option maxRecDepth 4000
namespace Go.Proofs.YtloloifngbmibaaGreatDoor
open Go.RowKit

theorem makeInt64_si (x : Int) (h0 : -9223372036854775808 ≤ x) (h1 : x ≤ 9223372036854775807) (w : World) :
    Calls Tryz.prog 61 #[.int .i64 x] w fun e w' => ∃ v, e = .returned v ∧ SI w.heap.size v x w' ∧ Below w.heap.size w w' := by
  by_cases hs : -2147483648 ≤ x ∧ x ≤ 2147483647
  · have d0 := dec_yes hs.1
    have d1 := dec_yes hs.2
    have HX := Lib.hid hs
    obtain ⟨g0, g1⟩ := hs
    go_enter Tryz.func61, Tryz.ntmps61
    go_wp2_with (go_at_call 94; refine (makeSmall_any _ _).mono ?_; rintro e w' ⟨rfl, rfl⟩)
    refine bodyPost_ret (v := .agg #[.int .i64 x, .pointer none]) (by simp [results, Tryz.results61, go_sem]) rfl ⟨_, rfl, .inl ⟨rfl, HX.out⟩, ((Below.refl _ _).alloc (Nat.le_refl _) _).alloc (by simp) _⟩
  · have HN : Hid (Calls Tryz.prog 96 #[.int .i64 x] (w.alloc (.cells #[.int .i64 0, .pointer none] 117)) fun e w' => ∃ b, e = .returned (.pointer (some ⟨b, 0, none⟩)) ∧ SI (w.heap.size + 1) (.agg #[.int .i64 0, .pointer (some ⟨b, 0, none⟩)]) x w' ∧ Below w.heap.size w w' ∧ Blk w' w.heap.size 117 #[.int .i64 0, .pointer none]) := Lib.hid <| by
      refine (newInt_any x h0 h1 _).mono ?_
      rintro e w' ⟨b, rfl, hb⟩
      have hsi := hb.si (absW_wl h0 h1) (absW_nrm x) (by unfold absW; rw [if_neg (by omega)]; simp) (Nat.le_trans (absW_len x) (by decide))
      rw [absW_wv] at hsi
      exact ⟨b, rfl, by simpa using hsi, below_up ((Below.refl _ _).alloc (Nat.le_refl _) _) hb.1, (Blk.new w 117 #[.int .i64 0, .pointer none]).below hb.1 (by simp)⟩
    by_cases hl : x < -2147483648
    · have d0 := dec_no (show ¬ -2147483648 ≤ x by omega)
      clear hs
      go_enter Tryz.func61, Tryz.ntmps61
      go_wp2_with fail
      refine HN.out.mono ?_
      rintro e w1 ⟨b, rfl, hsi, hb, hrow⟩
      have HSI := Lib.hid (And.intro hsi hb)
      have c0 := hrow.cell 0
      have c1 := hrow.cell 1
      have f0 := hrow.frozen 0
      have f1 := hrow.frozen 1
      have hlt := hrow.lt
      simp at c0 c1
      clear hrow hsi hb HN
      go_wp2_with fail
      refine (makeBig_any _ _).mono ?_
      rintro e w' ⟨rfl, rfl⟩
      go_wp2
      refine bodyPost_ret (v := .agg #[.int .i64 0, .pointer (some ⟨b, 0, none⟩)]) (by simp [results, Tryz.results61, go_sem, c0, c1, hlt]) rfl ⟨_, rfl, ?_, ?_⟩
      · exact (((HSI.out.1.set (p := ⟨w.heap.size, 0, none⟩) (Nat.lt_succ_self _) _).set (p := ⟨w.heap.size, 1, none⟩) (Nat.lt_succ_self _) _).up (below_al (Below.refl _ _) _)).low (Nat.le_succ _)
      · exact below_al ((HSI.out.2.setCell (p := ⟨w.heap.size, 0, none⟩) (Nat.le_refl _) _).setCell (p := ⟨w.heap.size, 1, none⟩) (Nat.le_refl _) _) _
    · have d0 := dec_yes (show -2147483648 ≤ x by omega)
      have d1 := dec_no (show ¬ x ≤ 2147483647 by omega)
      have e0 : -2147483648 ≤ x := by omega
      have e1 : ¬ x ≤ 2147483647 := by omega
      clear hs
      go_enter Tryz.func61, Tryz.ntmps61
      go_wp2_with fail
      refine HN.out.mono ?_
      rintro e w1 ⟨b, rfl, hsi, hb, hrow⟩
      have HSI := Lib.hid (And.intro hsi hb)
      have c0 := hrow.cell 0
      have c1 := hrow.cell 1
      have f0 := hrow.frozen 0
      have f1 := hrow.frozen 1
      have hlt := hrow.lt
      simp at c0 c1
      clear hrow hsi hb HN
      go_wp2_with fail
      refine (makeBig_any _ _).mono ?_
      rintro e w' ⟨rfl, rfl⟩
      go_wp2
      refine bodyPost_ret (v := .agg #[.int .i64 0, .pointer (some ⟨b, 0, none⟩)]) (by simp [results, Tryz.results61, go_sem, c0, c1, hlt]) rfl ⟨_, rfl, ?_, ?_⟩
      · exact (((HSI.out.1.set (p := ⟨w.heap.size, 0, none⟩) (Nat.lt_succ_self _) _).set (p := ⟨w.heap.size, 1, none⟩) (Nat.lt_succ_self _) _).up (below_al (Below.refl _ _) _)).low (Nat.le_succ _)
      · exact below_al ((HSI.out.2.setCell (p := ⟨w.heap.size, 0, none⟩) (Nat.le_refl _) _).setCell (p := ⟨w.heap.size, 1, none⟩) (Nat.le_refl _) _) _

theorem ratNum_any (b : Nat) (w : World) : Calls Tryz.prog 330 #[.pointer (some ⟨b, 0, none⟩)] w fun e w' => e = .returned (.pointer (some ⟨b, 0, none⟩)) ∧ w' = w := by
  go_enter Tryz.func330, Tryz.ntmps330
  go_wp2
  go_ret
  exact ⟨rfl, rfl⟩
theorem ratDen_any (b n c : Nat) (A : Option Addr) (w : World) (h : w.cell? ⟨b, 3, none⟩ = some (.slice A (n + 1) c)) : Calls Tryz.prog 331 #[.pointer (some ⟨b, 0, none⟩)] w fun e w' => e = .returned (.pointer (some ⟨b, 2, none⟩)) ∧ w' = w := by
  have hn : ¬ ((n : Int) + 1 = 0) := by omega
  go_enter Tryz.func331, Tryz.ntmps331
  go_wp2
  go_ret
  exact ⟨rfl, rfl⟩
end Go.Proofs.YtloloifngbmibaaGreatDoor
set_option linter.unusedVariables false
set_option linter.unusedSimpArgs false
set_option maxRecDepth 4000
namespace Go.Proofs.YtloloifngbmibaaGreatDoor
open Go.RowKit

theorem div_one (S S' : Nat → Prop) (zb b1 o1 b2 o2 : Nat) (n1 : Bool) (xs : List Int) (h0 : 0 < xs.length) (hn : xs.length ≤ 1000000) (hX : WL xs) (w : World)
    (hz : Blk w zb 189 #[.bool false, .slice none 0 0]) (hx : BigV w S b1 o1 n1 xs) (hy : BigV w S' b2 o2 false [(1 : Int)]) (hS : ∀ k, S k → k < w.heap.size ∧ k ≠ zb) (hS' : ∀ k, S' k → k < w.heap.size ∧ k ≠ zb) :
    Calls Tryz.prog 202 #[.pointer (some ⟨zb, 0, none⟩), .pointer (some ⟨b1, o1, none⟩), .pointer (some ⟨b2, o2, none⟩)] w fun e w' => e = .returned (.pointer (some ⟨zb, 0, none⟩)) ∧ ∃ qn qv, Blk w' zb 189 #[.bool qn, qv] ∧ SlV w' (fun k => k < w'.heap.size) .u64 qv xs ∧ But (fun k => k = zb) w w' := by
  have hsz : (w.alloc (.cells #[.bool false, .slice none 0 0] 189)).heap.size = w.heap.size + 1 := by simp
  have hb0 : Below w.heap.size w (w.alloc (.cells #[.bool false, .slice none 0 0] 189)) := below_al (Below.refl _ _) _
  have hzl := hz.lt
  have HQ := Lib.hid (quoRem_any S S' zb w.heap.size b1 o1 b2 o2 n1 false 1 xs (by decide) (by decide) (.inr ⟨rfl, h0⟩) hn hX (w.alloc (.cells #[.bool false, .slice none 0 0] 189)) (hz.alloc _) (Blk.new w _ _) (by omega)
    (hx.keep (still_below hb0 (fun k hk => (hS k hk).1))) (hy.keep (still_below hb0 (fun k hk => (hS' k hk).1))) (fun k hk => ⟨by rw [hsz]; have := (hS k hk).1; omega, fun h => by rcases h with h | h; exact (hS k hk).2 h; have := (hS k hk).1; omega⟩) (fun k hk => ⟨by rw [hsz]; have := (hS' k hk).1; omega, fun h => by rcases h with h | h; exact (hS' k hk).2 h; have := (hS' k hk).1; omega⟩))
  obtain ⟨v2, _, c20, c21, _⟩ := hy
  have HZL := Lib.hid hzl
  clear hx hS hS' hz h0 hn hX hzl
  go_enter Tryz.func202, Tryz.ntmps202
  go_wp2_with fail
  refine HQ.out.mono ?_
  rintro e w1 ⟨rfl, qv, qs, rv, qn, rn, kz, kr, sq, sr, hbt, hqx, _, hrz⟩
  obtain rfl := hqx rfl
  obtain rfl := hrz (by simp)
  have r0 := kr.cell 0
  simp at r0
  have HF := Lib.hid (And.intro kz (And.intro sq hbt))
  clear kz kr sq sr hbt hqx hrz
  go_wp2
  go_ret
  refine ⟨rfl, qn, qv, HF.out.1, HF.out.2.1.mono (fun k hk => hk.2), ?_⟩
  exact ⟨HF.out.2.2.os.trans hb0.os, HF.out.2.2.tape.trans hb0.tape, HF.out.2.2.output.trans hb0.output, Nat.le_trans hb0.size HF.out.2.2.size, fun k hk hne => (HF.out.2.2.block k (by rw [hsz]; omega) (fun h => by rcases h with h | h; exact hne h; omega)).trans (hb0.block k hk)⟩
end Go.Proofs.YtloloifngbmibaaGreatDoor
set_option linter.unusedVariables false
set_option linter.unusedSimpArgs false
set_option maxRecDepth 4000
namespace Go.Proofs.YtloloifngbmibaaGreatDoor
open Go.RowKit

theorem ratF_whole (u : Nat) (hu : u < 18446744073709551616) (hf : fex u ≠ 2047) (hs : fs u < 0) (hm : 0 < fm u) (w : World) :
    Calls Tryz.prog 155 #[.float .f64 u] w fun e w' => ∃ b ms, e = .returned (.pointer (some ⟨b, 0, none⟩)) ∧ RatV w' (fun k => k < w'.heap.size) b (fneg u) ms [1] ∧ WL ms ∧ Nrm ms ∧ 0 < ms.length ∧ ms.length ≤ 30 ∧ Below w.heap.size w w' := by
  have HN : Hid (Calls Tryz.prog 164 #[.pointer (some ⟨w.heap.size, 0, none⟩), .float .f64 u] (w.alloc (.cells #[.bool false, .slice none 0 0, .bool false, .slice none 0 0] 292)) fun e w' => ∃ b ms, e = .returned (.pointer (some ⟨b, 0, none⟩)) ∧ RatV w' (fun k => k < w'.heap.size) b (fneg u) ms [1] ∧ WL ms ∧ Nrm ms ∧ 0 < ms.length ∧ ms.length ≤ 30 ∧ Below w.heap.size w w') := Lib.hid <| by
    refine (setFloat_any u w.heap.size hu hf _ (Blk.new w _ _)).mono ?_
    rintro e w' ⟨rfl, va, vb, ms, ds, kb, sa, sb, ⟨a1, a2, a3, a4⟩, ⟨a5, a6, a7⟩, hv, hg, bt⟩
    have hd := nv_pos a3 a4 (List.length_pos_iff.1 a5)
    rw [show (fs u).toNat = 0 by omega, Int.pow_zero, Int.mul_one] at hv
    obtain ⟨D, hD⟩ := Int.eq_ofNat_of_zero_le (Int.le_of_lt hd)
    have hD0 : 0 < D := by omega
    have hv2 : nv ms = ((fm u * 2 ^ (-(fs u)).toNat * D : Nat) : Int) := by
      rw [hv, hD]
      simp only [Int.natCast_mul, Int.natCast_pow]
      rw [Int.mul_right_comm]
      rfl
    rw [hv2, hD, Int.toNat_natCast, Int.toNat_natCast, Nat.gcd_mul_left_left] at hg
    have h1 : ds = [1] := nv_inj a3 (WL.one (by decide) (by decide)) a4 (by simp [Nrm]) (by rw [hD, hg]; rfl)
    subst h1
    have hpos : 0 < nv ms := by
      rw [hv2]
      have : 0 < fm u * 2 ^ (-(fs u)).toNat * D := Nat.mul_pos (Nat.mul_pos hm (Nat.pow_pos (by decide))) hD0
      omega
    have hl : 0 < ms.length := List.length_pos_iff.2 (fun h => by subst h; simp [nv] at hpos)
    exact ⟨_, ms, rfl, ⟨⟨va, vb, kb, sa.mono (fun k hk => hk.2), sb.mono (fun k hk => hk.2)⟩, kb.lt, fun k hk => hk⟩, a1, a2, hl, a6, ((Below.refl _ _).alloc (Nat.le_refl _) _).trans (bt.below (B := w.heap.size) (by simp) (fun k hk => by subst hk; exact Nat.le_refl _))⟩
  clear hu hf hs hm
  go_enter Tryz.func155, Tryz.ntmps155
  go_wp2_with fail
  refine HN.out.mono ?_
  rintro e w2 ⟨b, ms, rfl, hQ⟩
  have H := Lib.hid hQ
  clear hQ HN
  go_wp2
  go_ret
  exact ⟨b, ms, rfl, H.out⟩

theorem fti_in (u : Nat) (n : Int) (n0 : -9223372036854775808 ≤ n) (n1 : n ≤ 9223372036854775807)
    (hA : (FloatKind.f64.format.order 14114281232179134464 u == some Ordering.lt || FloatKind.f64.format.order 14114281232179134464 u == some Ordering.eq) = true)
    (hB : (FloatKind.f64.format.order u 4890909195324358656 == some Ordering.lt) = true) (hn : floatToIntVal .f64 u .i64 = some n) (w : World) :
    Calls Tryz.prog 329 #[.float .f64 u] w fun e w' => ∃ v y, e = .returned v ∧ SI w.heap.size v y w' ∧ Below w.heap.size w w' := by
  have hcv : ∀ W : World, (convert 147 2 (.float .f64 u)).run Tryz.prog W = .ok (.int .i64 n) W := fun W => run_convert_float_int W _ _ .f64 .i64 u n (by kernel_rfl) Tryz.underlying2 hn
  have HM : Hid (Calls Tryz.prog 61 #[.int .i64 n] (w.alloc (.cells #[.int .i64 0, .pointer none] 117)) fun e w' => ∃ v, e = .returned v ∧ SI (w.heap.size + 1) v n w' ∧ Below w.heap.size w w' ∧ Blk w' w.heap.size 117 #[.int .i64 0, .pointer none]) := Lib.hid <| by
    refine (makeInt64_si n n0 n1 _).mono ?_
    rintro e w' ⟨v, rfl, h1, h2⟩
    exact ⟨v, rfl, by simpa using h1, below_up ((Below.refl _ _).alloc (Nat.le_refl _) _) h2, (Blk.new w 117 #[.int .i64 0, .pointer none]).below h2 (by simp)⟩
  clear hn n0 n1
  go_enter Tryz.func329, Tryz.ntmps329
  go_wp2_with fail
  refine HM.out.mono ?_
  rintro e w1 ⟨v, rfl, hsi, hb, hrow⟩
  obtain ⟨sv, av, rfl⟩ := hsi.shape
  have HSI := Lib.hid (And.intro hsi hb)
  have c0 := hrow.cell 0
  have c1 := hrow.cell 1
  have f0 := hrow.frozen 0
  have f1 := hrow.frozen 1
  have hlt := hrow.lt
  simp at c0 c1
  clear hrow hsi hb HM
  go_wp2
  refine bodyPost_ret (v := .agg #[.int .i64 sv, .pointer av]) (by simp [results, Tryz.results329, go_sem, c0, c1, hlt]) rfl ⟨_, n, rfl, ?_, ?_⟩
  · exact ((HSI.out.1.set (p := ⟨w.heap.size, 0, none⟩) (Nat.lt_succ_self _) _).set (p := ⟨w.heap.size, 1, none⟩) (Nat.lt_succ_self _) _).low (Nat.le_succ _)
  · exact (HSI.out.2.setCell (p := ⟨w.heap.size, 0, none⟩) (Nat.le_refl _) _).setCell (p := ⟨w.heap.size, 1, none⟩) (Nat.le_refl _) _

theorem fti_out (u : Nat) (hu : u < 18446744073709551616) (hf : fex u ≠ 2047) (hs : fs u < 0) (hm : 0 < fm u) (A B : Bool)
    (hA : (FloatKind.f64.format.order 14114281232179134464 u == some Ordering.lt || FloatKind.f64.format.order 14114281232179134464 u == some Ordering.eq) = A)
    (hB : (FloatKind.f64.format.order u 4890909195324358656 == some Ordering.lt) = B) (hAB : A = false ∨ B = false) (w : World) :
    Calls Tryz.prog 329 #[.float .f64 u] w fun e w' => ∃ v y, e = .returned v ∧ SI w.heap.size v y w' ∧ Below w.heap.size w w' := by
  have HN : Hid (Calls Tryz.prog 155 #[.float .f64 u] (w.alloc (.cells #[.int .i64 0, .pointer none] 117)) fun e w' => ∃ b ms, e = .returned (.pointer (some ⟨b, 0, none⟩)) ∧ RatV w' (fun k => k < w'.heap.size) b (fneg u) ms [1] ∧ WL ms ∧ Nrm ms ∧ 0 < ms.length ∧ ms.length ≤ 30 ∧ Below w.heap.size w w' ∧ Blk w' w.heap.size 117 #[.int .i64 0, .pointer none]) := Lib.hid <| by
    refine (ratF_whole u hu hf hs hm _).mono ?_
    rintro e w' ⟨b, ms, rfl, h1, h2, h3, h4, h5, h6⟩
    exact ⟨b, ms, rfl, h1, h2, h3, h4, h5, below_up ((Below.refl _ _).alloc (Nat.le_refl _) _) h6, (Blk.new w 117 #[.int .i64 0, .pointer none]).below h6 (by simp)⟩
  have heq : ∀ (W : World) (b : Nat), (binOp .eql 285 (.pointer (some ⟨b, 0, none⟩)) (.pointer none)).run Tryz.prog W = .ok (.bool false) W := fun W b => by kernel_rfl
  clear hu hf hs hm
  have hcase : (A = false) ∨ (A = true ∧ B = false) := by
    cases A
    · exact .inl rfl
    · exact .inr ⟨rfl, by simpa using hAB⟩
  clear hAB
  rcases hcase with rfl | ⟨rfl, rfl⟩
  all_goals
    go_enter Tryz.func329, Tryz.ntmps329
    go_wp2_with fail
    refine HN.out.mono ?_
    rintro e w1 ⟨b, ms, rfl, hQ, h2, h3, h4, h5, h6, h7⟩
    have hq1 := hQ.bk.choose_spec.choose_spec.2.2
    have hlo : Below w1.heap.size w1 (w1.alloc (.cells #[.bool false, .slice none 0 0] 189)) := below_al (Below.refl _ _) _
    have HQ := Lib.hid (hQ.up hlo)
    have HL := Lib.hid (below_al h6 (.cells #[.bool false, .slice none 0 0] 189))
    have HW := Lib.hid (And.intro h2 (And.intro h3 (And.intro h4 h5)))
    have HR := Lib.hid (h7.below hlo h7.lt)
    have HZ := Lib.hid (Blk.new w1 189 #[.bool false, .slice none 0 0])
    have HS1 := Lib.hid h7.lt
    have HD := Lib.hid (div_one (fun k => k < w1.heap.size) (fun k => k < w1.heap.size) w1.heap.size b 0 b 2 (fneg u) ms h4 (by omega) h2 _ HZ.out (hQ.num.keep (still_below hlo (fun k hk => hk))) (hQ.den.keep (still_below hlo (fun k hk => hk))) (fun k hk => ⟨by simp; omega, by omega⟩) (fun k hk => ⟨by simp; omega, by omega⟩))
    obtain ⟨vb, _, _, d3, ⟨Ab, cb, rfl, _, _⟩⟩ := HQ.out.den
    have HDN := Lib.hid (ratDen_any b 0 cb Ab _ d3)
    clear hQ h2 h3 h4 h5 h6 h7 hlo hq1 HN d3
    go_wp2_with fail
    refine (ratNum_any _ _).mono ?_
    rintro e w2 ⟨rfl, hw2⟩
    subst hw2
    go_wp2_with fail
    refine HDN.out.mono ?_
    rintro e w2 ⟨rfl, hw2⟩
    subst hw2
    go_wp2_with fail
    refine HD.out.mono ?_
    rintro e w2 ⟨rfl, qn, qv, hz, hqv, hbt⟩
    have HMB := Lib.hid (makeBigInt_any (fun k => k < w2.heap.size) w1.heap.size qn qv ms HW.out.2.2.2 HW.out.1 HW.out.2.1 w2 hz hqv (fun k hk => hk))
    have HL2 : Hid (Below w.heap.size w w2) := Lib.hid (HL.out.trans (hbt.below (B := w.heap.size) HL.out.size (fun k hk => by subst hk; exact Nat.le_of_lt HS1.out)))
    have hrow : Blk w2 w.heap.size 117 #[.int .i64 0, .pointer none] := HR.out.keep (hbt.block _ HR.out.lt (Nat.ne_of_lt HS1.out))
    have HRS := Lib.hid hrow
    clear hrow hbt hz hqv HD HDN HQ HZ HL HR
    go_wp2_with fail
    refine HMB.out.mono ?_
    rintro e w3 ⟨v, rfl, hsi, hb3⟩
    obtain ⟨sv, av, rfl⟩ := hsi.shape
    have HSI := Lib.hid hsi
    have HL3 := Lib.hid (below_up HL2.out hb3)
    have hrow := HRS.out.below hb3 HRS.out.lt
    have c0 := hrow.cell 0
    have c1 := hrow.cell 1
    have f0 := hrow.frozen 0
    have f1 := hrow.frozen 1
    have hlt := hrow.lt
    have HG2 := Lib.hid HRS.out.lt
    simp at c0 c1
    clear hrow hsi hb3 HMB HRS HL2
    go_wp2
    refine bodyPost_ret (v := .agg #[.int .i64 sv, .pointer av]) (by simp [results, Tryz.results329, go_sem, c0, c1, hlt]) rfl ⟨_, wv qn ms, rfl, ?_, ?_⟩
    · exact ((HSI.out.set (p := ⟨w.heap.size, 0, none⟩) HG2.out _).set (p := ⟨w.heap.size, 1, none⟩) HG2.out _).low (Nat.le_of_lt HG2.out)
    · exact (HL3.out.setCell (p := ⟨w.heap.size, 0, none⟩) (Nat.le_refl _) _).setCell (p := ⟨w.heap.size, 1, none⟩) (Nat.le_refl _) _

theorem fti_any (u : Nat) (hu : u < 18446744073709551616) {x : Int} (hx : fcl u = .fin x) (w : World) :
    Calls Tryz.prog 329 #[.float .f64 u] w fun e w' => ∃ v y, e = .returned v ∧ SI w.heap.size v y w' ∧ Below w.heap.size w w' := by
  have hA := ge_lo u hu hx
  have hB := lt_hi u hu hx
  by_cases hin : -V63 ≤ x ∧ x < V63
  · obtain ⟨n, hn, n0, n1⟩ := in_int u hu hx hin.1 hin.2
    rw [decide_eq_true hin.1] at hA
    rw [decide_eq_true hin.2] at hB
    exact fti_in u n n0 n1 hA hB hn w
  · obtain ⟨hs, hm⟩ := out_neg hx hin
    refine fti_out u hu (fin_fv hx).1 hs hm _ _ hA hB ?_ w
    by_cases h1 : -V63 ≤ x
    · exact .inr (decide_eq_false fun h2 => hin ⟨h1, h2⟩)
    · exact .inl (decide_eq_false h1)
theorem hFlt (u : Nat) (hu : u < 18446744073709551616) (w : World) : Calls Tryz.prog 323 #[.float .f64 u] w (HashOut w) := by
  have HF := Lib.hid (fun w => isFinite_any u hu w)
  obtain ⟨fb, hfb⟩ : ∃ fb, fb = (fcl u).isFin := ⟨_, rfl⟩
  rw [← hfb] at HF
  have HT : Hid (fb = true → ∀ w, Calls Tryz.prog 329 #[.float .f64 u] w fun e w' => ∃ v y, e = .returned v ∧ SI w.heap.size v y w' ∧ Below w.heap.size w w') := Lib.hid fun h W => by
    rw [hfb] at h
    cases hc : fcl u with
    | fin x => exact fti_any u hu hc W
    | inf s => rw [hc] at h; cases h
    | nan => rw [hc] at h; cases h
  clear hfb hu
  cases fb
  · go_enter Tryz.func323, Tryz.ntmps323
    go_wp2_with fail
    refine (HF.out _).mono ?_
    rintro e w1 ⟨rfl, rfl⟩
    go_wp2
    go_ret2
    exact ⟨_, rfl, Below.refl _ _⟩
  · go_enter Tryz.func323, Tryz.ntmps323
    go_wp2_with fail
    refine (HF.out _).mono ?_
    rintro e w1 ⟨rfl, rfl⟩
    go_wp2_with fail
    refine (HT.out trivial _).mono ?_
    rintro e w2 ⟨v, y, rfl, hsi, hb⟩
    obtain ⟨sv, av, rfl⟩ := hsi.shape
    have HI := Lib.hid (hInt hsi)
    have HB := Lib.hid hb
    clear hsi hb
    go_wp2_with fail
    refine HI.out.mono ?_
    rintro e w3 ⟨h, rfl, hb⟩
    have HB3 := Lib.hid (below_up HB.out hb)
    clear hb
    go_wp2
    go_ret2
    exact ⟨_, rfl, HB3.out⟩
end Go.Proofs.YtloloifngbmibaaGreatDoor
set_option linter.unusedVariables false
set_option linter.unusedSimpArgs false
set_option maxRecDepth 4000
namespace Go.Proofs.YtloloifngbmibaaGreatDoor
open Go.RowKit

theorem tupHash (A : Option Addr) (n c : Nat) (hn : n ≤ 1000) (w : World)
    (HK : ∀ i, i < n → ∀ W, Below w.heap.size w W → ∃ b o T x F, A = some ⟨b, o, none⟩ ∧ W.cell? ⟨b, o + i, none⟩ = some (.iface T x) ∧ (∀ W : World, (method 506 T x "Hash").run Tryz.prog W = .ok (F, x) W) ∧ (∀ W : World, (callFunc F #[x]).run Tryz.prog W = .ok (.enter F #[x]) W) ∧ Calls Tryz.prog F #[x] W (HashOut W)) :
    Calls Tryz.prog 269 #[.slice A n c] w (HashOut w) := by
  have HH := Lib.hid HK
  clear HK
  go_enter Tryz.func269, Tryz.ntmps269
  go_wp2
  go_loopw [4, 5, 12] (fun hv mv iv wr => ∃ (h m : Int) (i : Nat), hv = .int .u32 h ∧ mv = .int .u32 m ∧ iv = .int .i64 i ∧ i ≤ n ∧ Hid (Below w.heap.size w wr)) (fun _ _ iv _ => n - (intOf iv).toNat)
  case atStart => exact ⟨_, _, 0, rfl, rfl, rfl, Nat.zero_le _, Lib.hid (Below.refl _ _)⟩
  case round =>
    obtain ⟨h, m, i, rfl, rfl, rfl, hi, HB⟩ := hrel
    by_cases hlt : i < n
    · have HME := Lib.hid (ms_lt hlt)
      have HSI := Lib.hid (Nat.succ_le_of_lt hlt)
      obtain ⟨b, o, T, x, F, rfl, hce, hm, hf, hc⟩ := HH.out i hlt wr HB.out
      have HC := Lib.hid hc
      have hi1 : (i : Int) < (n : Int) := Int.ofNat_lt.2 hlt
      clear hc
      go_wp2_with fail
      refine HC.out.mono ?_
      rintro e w2 ⟨y, rfl, hb2⟩
      have HB2 := Lib.hid (below_up HB.out hb2)
      clear hb2 hce hm hf HC HB
      go_wp2_with fail
      exact ⟨⟨_, _, i + 1, rfl, rfl, rfl, HSI.out, HB2⟩, HME.out⟩
    · have hin : i = n := by omega
      subst hin
      go_wp2
      go_ret2
      exact ⟨_, rfl, HB.out⟩

theorem hashM_any : ∀ (d : Nat) {M : Nat} {t : Tr} {v : Value} {P : World → Prop}, (∃ W, P W) → (∀ W, P W → SVal M d t W v ∧ M ≤ W.heap.size) → Good d t → KeyT d t → HashM P v := by
  have flat : ∀ {M : Nat} {t : Tr} {v : Value} {P : World → Prop}, (∃ W, P W ∧ SVF M t W v) → (∀ W, P W → SVF M t W v ∧ M ≤ W.heap.size) → GoodH t → HashM P v := by
    intro M t v P hex hall g
    obtain ⟨W0, hP0, h0⟩ := hex
    have hbb : t.bits.toNat < 18446744073709551616 := by have := g.b; omega
    cases h0 with
    | none h => exact ⟨_, _, 310, rfl, fun W => by kernel_rfl, fun W => by kernel_rfl, fun W _ => hNone _ W⟩
    | bool h => exact ⟨_, _, 316, rfl, fun W => by kernel_rfl, fun W => by kernel_rfl, fun W _ => hBool _ W⟩
    | int x h hs =>
      obtain ⟨s1, a1, rfl⟩ := (hs.si (hall W0 hP0).2).shape
      refine ⟨_, _, 302, rfl, fun W => by kernel_rfl, fun W => by kernel_rfl, fun W hW => ?_⟩
      obtain ⟨h1, h2⟩ := hall W hW
      cases h1 with
      | int x h' hs' => exact hInt (hs'.si h2)
    | flt h => exact ⟨_, _, 323, rfl, fun W => by kernel_rfl, fun W => by kernel_rfl, fun W _ => hFlt _ hbb W⟩
    | str h => exact ⟨_, _, 334, rfl, fun W => by kernel_rfl, fun W => by kernel_rfl, fun W _ => hStr _ g.tx W⟩
    | byt h => exact ⟨_, _, 345, rfl, fun W => by kernel_rfl, fun W => by kernel_rfl, fun W _ => hByt _ g.tx W⟩
  intro d
  induction d with
  | zero =>
    intro M t v P hex hall g kt
    obtain ⟨W0, hP0⟩ := hex
    exact flat ⟨W0, hP0, (hall W0 hP0).1⟩ hall g.head
  | succ d ih =>
    intro M t v P hex hall g kt
    obtain ⟨W0, hP0⟩ := hex
    have h0 := (hall W0 hP0).1
    by_cases hk7 : t.k = 7
    · rcases h0 with h0 | ⟨_, A, c, ys, rfl, _⟩ | h0 | h0 | h0
      · exfalso
        cases h0 <;> omega
      · refine ⟨_, _, 269, rfl, fun W => by kernel_rfl, fun W => by kernel_rfl, fun W hW => ?_⟩
        obtain ⟨h1, h2⟩ := hall W hW
        rcases h1 with h1 | ⟨_, A', c', ys', he, hc', hl', hr', hx'⟩ | h1 | h1 | h1
        · exfalso
          cases h1
        · injection he with _ he
          injection he with he _ _
          subst he
          refine tupHash A _ c (by have := g.head.kl; omega) W (fun i hi W' hW' => ?_)
          obtain ⟨b, o, rfl, _, q⟩ := hr'.at_ (k := i) (by omega)
          have t1 : ys'[i]? = some ys'[i] := List.getElem?_eq_getElem (by omega)
          have t3 : t.kids[i]? = some t.kids[i] := List.getElem?_eq_getElem hi
          have s1 := hx' i _ _ t1 t3
          obtain ⟨T, x, F, hv, f1, f2, f3⟩ := ih (P := fun W2 => Below W.heap.size W W2) ⟨W, Below.refl _ _⟩ (fun W2 hW2 => ⟨s1.keep (hW2.mono h2), Nat.le_trans h2 hW2.size⟩) (g.2.2.1 _ (List.getElem_mem _)) (by
            rcases kt with k | k
            · omega
            · exact k.2 _ (List.getElem_mem _))
          rw [hv] at q
          exact ⟨b, o, T, x, F, rfl, cell_up hW' q, f1, f2, f3 W' hW'⟩
        · omega
        · omega
        · omega
      · omega
      · omega
      · omega
    · have hflat : ∀ W, P W → SVF M t W v ∧ M ≤ W.heap.size := fun W hW => by
        obtain ⟨h1, h2⟩ := hall W hW
        refine ⟨?_, h2⟩
        rcases h1 with h1 | h1 | h1 | h1 | h1
        · exact h1
        · exact absurd h1.1 hk7
        · exact absurd h1.1 (by rcases kt with k | k <;> omega)
        · exact absurd h1.1 (by rcases kt with k | k <;> omega)
        · exact absurd h1.1 (by rcases kt with k | k <;> omega)
      exact flat ⟨W0, hP0, (hflat W0 hP0).1⟩ hflat g.head
end Go.Proofs.YtloloifngbmibaaGreatDoor
