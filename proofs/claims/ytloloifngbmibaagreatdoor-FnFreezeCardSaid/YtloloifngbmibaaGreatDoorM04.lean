/- Walks of nlz, bitsDiv, reciprocalWord. Walk of divWW. Walk of divWW. Walks of nat.norm and nat.cmp. -/
import Derived.Test.YtloloifngbmibaaGreatDoorM03
import Derived.Laws.Bits64
import Derived.Test.YtloloifngbmibaaGreatDoorM01
set_option linter.unusedVariables false
set_option maxRecDepth 4000
namespace Go.Proofs.YtloloifngbmibaaGreatDoor
open Go.RowKit

/-- How far a word is shifted so that its highest bit is set. -/
def lzw (y : Nat) : Nat := 64 - Lib.bitLen y
theorem lzw_spec (y : Nat) (h0 : 0 < y) (h1 : y < 18446744073709551616) : Lib.bitLen y ≤ 64 ∧ 1 ≤ Lib.bitLen y ∧ lzw y ≤ 63 ∧ 9223372036854775808 ≤ y * 2 ^ lzw y ∧ y * 2 ^ lzw y < 18446744073709551616 := by
  obtain ⟨h2, h3, h4⟩ := Lib.bitLenAux_bounds 64 y (by simpa using h1) (by omega)
  have hle : Lib.bitLen y ≤ 64 := by
    unfold Lib.bitLen
    rcases Nat.lt_or_ge 64 (Lib.bitLenAux 64 y) with h5 | h5
    · have : 2 ^ 64 ≤ 2 ^ (Lib.bitLenAux 64 y - 1) := Nat.pow_le_pow_right (by decide) (by omega)
      omega
    · exact h5
  refine ⟨hle, h2, by unfold lzw; unfold Lib.bitLen; omega, ?_, ?_⟩
  · have h5 : 2 ^ (Lib.bitLen y - 1) * 2 ^ lzw y ≤ y * 2 ^ lzw y := Nat.mul_le_mul_right _ h3
    rw [← Nat.pow_add, show Lib.bitLen y - 1 + lzw y = 63 by unfold lzw; unfold Lib.bitLen at *; omega] at h5
    exact h5
  · have h5 : y * 2 ^ lzw y < 2 ^ Lib.bitLen y * 2 ^ lzw y := Nat.mul_lt_mul_of_pos_right h4 (Nat.two_pow_pos _)
    rw [← Nat.pow_add, show Lib.bitLen y + lzw y = 64 by unfold lzw; omega] at h5
    exact h5

theorem nlz_any (y : Nat) (h0 : 0 < y) (h1 : y < 18446744073709551616) (w : World) :
    Calls Tryz.prog 214 #[.int .u64 y] w fun e w' => e = .returned (.int .u64 (lzw y : Nat)) ∧ w' = w := by
  obtain ⟨h2, h3, h4, _, _⟩ := lzw_spec y h0 h1
  have H := Lib.hid (fun w => Tryz.bits_LeadingZeros y w (by omega) (by omega))
  simp only [Int.toNat_natCast] at H
  obtain ⟨s, hs⟩ : ∃ s, s = lzw y := ⟨_, rfl⟩
  have e : (64 : Int) - (Lib.bitLen y : Int) = (s : Int) := by
    rw [hs]
    unfold lzw
    omega
  rw [e] at H
  rw [← hs]
  have hs2 : s ≤ 63 := by omega
  clear h2 h3 h4 hs e
  go_enter Tryz.func214, Tryz.ntmps214
  go_wp2_with (go_at_call 228; refine (H.out _).mono ?_; rintro e w' ⟨rfl, rfl⟩)
  go_ret
  exact ⟨rfl, rfl⟩

theorem bitsDiv_any (a l y : Nat) (hy0 : 9223372036854775808 ≤ y) (hy1 : y < 18446744073709551616) (ha : a < y) (hl : l < 18446744073709551616) (w : World) :
    Calls Tryz.prog 229 #[.int .u64 a, .int .u64 l, .int .u64 y] w fun e w' => ∃ r : Int, e = .returned (.tuple #[.int .u64 (((a * 18446744073709551616 + l) / y : Nat) : Int), .int .u64 r]) ∧ ∃ n, w.drewN n = w' := by
  have H := Lib.hid (bitsDiv64_any a l y hy0 hy1 ha hl w)
  have hq : (a * 18446744073709551616 + l) / y < 18446744073709551616 := by
    rw [Nat.div_lt_iff_lt_mul (by omega)]
    have : (a + 1) * 18446744073709551616 ≤ y * 18446744073709551616 := Nat.mul_le_mul_right _ ha
    rw [Nat.mul_comm 18446744073709551616 y]
    omega
  obtain ⟨q, hq'⟩ : ∃ q, q = (a * 18446744073709551616 + l) / y := ⟨_, rfl⟩
  rw [← hq'] at H hq ⊢
  clear hq'
  go_enter Tryz.func229, Tryz.ntmps229
  go_wp2_with fail
  refine H.out.mono ?_
  rintro e w' ⟨r, rfl, n, rfl⟩
  go_wp2
  exact bodyPost_ret (v := .tuple #[.int .u64 q, .int .u64 r]) (by simp [results, Tryz.results229, go_sem]) rfl ⟨_, rfl, n, rfl⟩

theorem xor_top (u : Nat) (hu : u < 18446744073709551616) : bits .xor .u64 IntKind.u64.max (u : Int) = ((18446744073709551615 - u : Nat) : Int) := by
  have h := bits_xor_u64_nat 18446744073709551615 u (by decide) hu
  have e : 18446744073709551615 ^^^ u = 18446744073709551615 - u := by
    have h1 : (BitVec.allOnes 64 ^^^ BitVec.ofNat 64 u).toNat = (~~~ (BitVec.ofNat 64 u)).toNat := by rw [BitVec.allOnes_xor]
    rw [BitVec.toNat_xor, BitVec.toNat_not, BitVec.toNat_allOnes, BitVec.toNat_ofNat, Nat.mod_eq_of_lt (by simpa using hu)] at h1
    exact h1
  rw [e] at h
  exact h
/-- The inverse that a division by y wants. -/
def invV (y : Nat) : Nat := (18446744073709551616 * 18446744073709551616 - 1) / (y * 2 ^ lzw y)
theorem invV_ge (y : Nat) (h0 : 0 < y) (h1 : y < 18446744073709551616) : 18446744073709551616 ≤ invV y ∧ invV y < 36893488147419103232 := by
  obtain ⟨h2, h3, h4, h5, h6⟩ := lzw_spec y h0 h1
  unfold invV
  constructor
  · rw [Nat.le_div_iff_mul_le (by omega)]
    have : 18446744073709551616 * (y * 2 ^ lzw y) ≤ 18446744073709551616 * 18446744073709551615 := Nat.mul_le_mul_left _ (by omega)
    omega
  · rw [Nat.div_lt_iff_lt_mul (by omega)]
    have : 36893488147419103232 * 9223372036854775808 ≤ 36893488147419103232 * (y * 2 ^ lzw y) := Nat.mul_le_mul_left _ h5
    omega

theorem reciprocalWord_any (y : Nat) (h0 : 0 < y) (h1 : y < 18446744073709551616) (w : World) :
    Calls Tryz.prog 230 #[.int .u64 y] w fun e w' => e = .returned (.int .u64 ((invV y - 18446744073709551616 : Nat) : Int)) ∧ ∃ n, w.drewN n = w' := by
  obtain ⟨h2, h3, h4, h5, h6⟩ := lzw_spec y h0 h1
  have H := Lib.hid (fun w => nlz_any y h0 h1 w)
  have HV : Hid (∀ u, u = y * 2 ^ lzw y → 9223372036854775808 ≤ u → u < 18446744073709551616 → ((18446744073709551615 - u) * 18446744073709551616 + 18446744073709551615) / u = invV y - 18446744073709551616) := Lib.hid fun u hu hu1 hu2 => by
    unfold invV
    rw [← hu, ← Nat.sub_mul_div]
    congr 1
    have : 18446744073709551615 * 18446744073709551616 - u * 18446744073709551616 = (18446744073709551615 - u) * 18446744073709551616 := (Nat.sub_mul _ _ _).symm
    omega
  obtain ⟨s, hs⟩ : ∃ s, s = lzw y := ⟨_, rfl⟩
  rw [← hs] at H h4 h5 h6 HV
  obtain ⟨u, hu⟩ : ∃ u, u = y * 2 ^ s := ⟨_, rfl⟩
  rw [← hu] at h5 h6
  have f1 : IntKind.u64.wrap ((y : Int) * 2 ^ s) = (u : Int) := by
    have e : (y : Int) * 2 ^ s = (u : Int) := by rw [hu]; simp
    rw [e]
    simp only [IntKind.wrap_u64]
    omega
  have f2 := xor_top u h6
  obtain ⟨x1, hx1⟩ : ∃ x, x = 18446744073709551615 - u := ⟨_, rfl⟩
  rw [← hx1] at f2
  have f3 : ¬ IntKind.u64.signed = true := by decide
  have HD := Lib.hid (fun w => bitsDiv_any x1 18446744073709551615 u h5 h6 (by omega) (by omega) w)
  have hv := HV.out u hu h5 h6
  rw [← hx1] at hv
  rw [hv] at HD
  obtain ⟨V, hVd⟩ : ∃ V, V = invV y - 18446744073709551616 := ⟨_, rfl⟩
  rw [← hVd] at HD ⊢
  clear hv hx1 HV hu h5 h6 h2 h3 hs hVd
  go_enter Tryz.func230, Tryz.ntmps230
  go_wp2_with (first | (go_at_call 214; refine (H.out _).mono ?_; rintro e w' ⟨rfl, rfl⟩) | (go_at_call 229; refine (HD.out _).mono ?_; rintro e w' ⟨r, rfl, n, rfl⟩))
  go_ret
  exact ⟨rfl, _, rfl⟩
end Go.Proofs.YtloloifngbmibaaGreatDoor
set_option linter.unusedVariables false
set_option maxRecDepth 4000
namespace Go.Proofs.YtloloifngbmibaaGreatDoor
open Go.RowKit

theorem shifted (y x1 x0 : Nat) (h0 : 0 < y) (h1 : y < 18446744073709551616) (hx1 : x1 < y) (hx0 : x0 < 18446744073709551616) :
    x1 * 2 ^ lzw y < 18446744073709551616 ∧ x1 * 2 ^ lzw y + x0 / 2 ^ (64 - lzw y) < y * 2 ^ lzw y ∧ (x1 * 2 ^ lzw y) ||| (x0 / 2 ^ (64 - lzw y)) = x1 * 2 ^ lzw y + x0 / 2 ^ (64 - lzw y) ∧
    (x1 * 2 ^ lzw y + x0 / 2 ^ (64 - lzw y)) * 18446744073709551616 + x0 * 2 ^ lzw y % 18446744073709551616 = (x1 * 18446744073709551616 + x0) * 2 ^ lzw y := by
  obtain ⟨h2, h3, h4, h5, h6⟩ := lzw_spec y h0 h1
  obtain ⟨s, hs⟩ : ∃ s, s = lzw y := ⟨_, rfl⟩
  rw [← hs] at h4 h5 h6 ⊢
  have eB : 2 ^ (64 - s) * 2 ^ s = 18446744073709551616 := by
    rw [← Nat.pow_add, show 64 - s + s = 64 by omega]
  have eD : x0 * 2 ^ s / 18446744073709551616 = x0 / 2 ^ (64 - s) := by
    rw [← eB, Nat.mul_div_mul_right _ _ (Nat.two_pow_pos s)]
  have eM : x0 / 2 ^ (64 - s) * 18446744073709551616 + x0 * 2 ^ s % 18446744073709551616 = x0 * 2 ^ s := by
    rw [← eD]
    omega
  have e1 : x1 * 2 ^ s ≤ y * 2 ^ s := Nat.mul_le_mul_right _ (by omega)
  have eF : (x1 * 2 ^ s + x0 / 2 ^ (64 - s)) * 18446744073709551616 + x0 * 2 ^ s % 18446744073709551616 = (x1 * 18446744073709551616 + x0) * 2 ^ s := by
    rw [Nat.add_mul, Nat.add_mul, Nat.mul_right_comm]
    omega
  have hlt : x0 / 2 ^ (64 - s) < 2 ^ s := by
    rw [Nat.div_lt_iff_lt_mul (Nat.two_pow_pos _), Nat.mul_comm, eB]
    exact hx0
  refine ⟨by omega, ?_, ?_, eF⟩
  · have h7 : (x1 * 18446744073709551616 + x0) * 2 ^ s < y * 18446744073709551616 * 2 ^ s := by
      refine Nat.mul_lt_mul_of_pos_right ?_ (Nat.two_pow_pos s)
      have : (x1 + 1) * 18446744073709551616 ≤ y * 18446744073709551616 := Nat.mul_le_mul_right _ hx1
      omega
    rw [← eF, Nat.mul_right_comm] at h7
    generalize y * 2 ^ s = D at h7 ⊢
    omega
  · have := Nat.two_pow_add_eq_or_of_lt hlt x1
    rw [Nat.mul_comm] at this
    exact this.symm

theorem last_digit {R d r0 r1 : Nat} (h5 : 9223372036854775808 ≤ d) (h6 : d < 18446744073709551616) (hlt : R < d + 18446744073709551616) (k0 : r0 = R % 18446744073709551616) (k1 : r1 = R / 18446744073709551616) : ∃ R2 : Nat, ((((r1 : Int) != 0) = false ∧ decide ((d : Int) ≤ (r0 : Int)) = false ∧ R2 = r0) ∨ (((r1 : Int) != 0) = false ∧ decide ((d : Int) ≤ (r0 : Int)) = true ∧ IntKind.u64.wrap ((r0 : Int) - (d : Int)) = (R2 : Int)) ∨
      (∃ R1 : Nat, ((r1 : Int) != 0) = true ∧ IntKind.u64.wrap ((r0 : Int) - (d : Int)) = (R1 : Int) ∧ decide ((d : Int) ≤ (R1 : Int)) = false ∧ R2 = R1) ∨
      (∃ R1 : Nat, ((r1 : Int) != 0) = true ∧ IntKind.u64.wrap ((r0 : Int) - (d : Int)) = (R1 : Int) ∧ decide ((d : Int) ≤ (R1 : Int)) = true ∧ IntKind.u64.wrap ((R1 : Int) - (d : Int)) = (R2 : Int))) ∧ R2 = R % d := by
  by_cases hA : r1 = 0
  · have hb3 : R < 18446744073709551616 := by omega
    have hb4 : r0 = R := by omega
    by_cases hC : d ≤ R
    · refine ⟨R - d, .inr (.inl ⟨bne_no (by omega), dec_yes (by omega), ?_⟩), ?_⟩
      · simp only [IntKind.wrap_u64]
        omega
      · rw [Nat.mod_eq_sub_mod hC, Nat.mod_eq_of_lt (by omega)]
    · exact ⟨R, .inl ⟨bne_no (by omega), dec_no (by omega), by omega⟩, (Nat.mod_eq_of_lt (by omega)).symm⟩
  · have hb3 : 18446744073709551616 ≤ R := by omega
    by_cases hC : d ≤ R - d
    · refine ⟨R - d - d, .inr (.inr (.inr ⟨R - d, bne_yes (by omega), ?_, dec_yes (by omega), ?_⟩)), ?_⟩
      · simp only [IntKind.wrap_u64]
        omega
      · simp only [IntKind.wrap_u64]
        omega
      · rw [Nat.mod_eq_sub_mod (by omega), Nat.mod_eq_sub_mod hC, Nat.mod_eq_of_lt (by omega)]
    · refine ⟨R - d, .inr (.inr (.inl ⟨R - d, bne_yes (by omega), ?_, dec_no (by omega), rfl⟩)), ?_⟩
      · simp only [IntKind.wrap_u64]
        omega
      · rw [Nat.mod_eq_sub_mod (by omega), Nat.mod_eq_of_lt (by omega)]

theorem wrapN {n : Nat} (h : n < 18446744073709551616) : IntKind.u64.wrap (n : Int) = (n : Int) := by
  simp only [IntKind.wrap_u64]
  omega
theorem wrap_mod (n : Nat) : IntKind.u64.wrap (n : Int) = ((n % 18446744073709551616 : Nat) : Int) := by
  simp only [IntKind.wrap_u64]
  omega
theorem min_k {s k : Nat} (hk : k = 64 - s) : min k 64 = k := by omega
theorem wrap_k {s k : Nat} (h : s ≤ 63) (hk : k = 64 - s) : IntKind.u64.wrap (64 - (s : Int)) = (k : Int) := by
  simp only [IntKind.wrap_u64]
  omega
/-- What a walk of divWW meets. -/
structure DivF (x1 x0 y M R9 s k a1 X1 X0 d hi lo sm c1 c2 t dq1 dq0 r0 b b2 r1 R2 : Nat) : Prop where
  nl : ∀ w, Calls Tryz.prog 214 #[.int .u64 y] w fun e w' => e = .returned (.int .u64 s) ∧ w' = w
  m1 : ∀ w, Calls Tryz.prog 235 #[.int .u64 M, .int .u64 X1] w fun e w' => e = .returned (.tuple #[.int .u64 hi, .int .u64 lo]) ∧ w' = w
  ad1 : ∀ w, Calls Tryz.prog 212 #[.int .u64 lo, .int .u64 X0, .int .u64 0] w fun e w' => e = .returned (.tuple #[.int .u64 sm, .int .u64 c1]) ∧ w' = w
  ad2 : ∀ w, Calls Tryz.prog 212 #[.int .u64 hi, .int .u64 X1, .int .u64 c1] w fun e w' => e = .returned (.tuple #[.int .u64 t, .int .u64 c2]) ∧ w' = w
  m2 : ∀ w, Calls Tryz.prog 235 #[.int .u64 d, .int .u64 t] w fun e w' => e = .returned (.tuple #[.int .u64 dq1, .int .u64 dq0]) ∧ w' = w
  su1 : ∀ w, Calls Tryz.prog 237 #[.int .u64 X0, .int .u64 dq0, .int .u64 0] w fun e w' => e = .returned (.tuple #[.int .u64 r0, .int .u64 b]) ∧ w' = w
  su2 : ∀ w, Calls Tryz.prog 237 #[.int .u64 X1, .int .u64 dq1, .int .u64 b] w fun e w' => e = .returned (.tuple #[.int .u64 r1, .int .u64 b2]) ∧ w' = w
  f1 : IntKind.u64.wrap ((x1 : Int) * 2 ^ s) = (a1 : Int)
  f2 : IntKind.u64.wrap (64 - (s : Int)) = (k : Int)
  f3 : bits .or .u64 (a1 : Int) ((x0 : Int) / 2 ^ k) = (X1 : Int)
  f4 : IntKind.u64.wrap ((x0 : Int) * 2 ^ s) = (X0 : Int)
  f5 : IntKind.u64.wrap ((y : Int) * 2 ^ s) = (d : Int)
  f9 : (R2 : Int) / 2 ^ s = (R9 : Int)
  ms : min s 64 = s
  mk' : min k 64 = k
  sp : (s = 0 ∧ X1 = x1 ∧ X0 = x0 ∧ d = y) ∨ ((s : Int) != 0) = true
  cs : (((r1 : Int) != 0) = false ∧ decide ((d : Int) ≤ (r0 : Int)) = false ∧ R2 = r0) ∨ (((r1 : Int) != 0) = false ∧ decide ((d : Int) ≤ (r0 : Int)) = true ∧ IntKind.u64.wrap ((r0 : Int) - (d : Int)) = (R2 : Int)) ∨
      (∃ R1 : Nat, ((r1 : Int) != 0) = true ∧ IntKind.u64.wrap ((r0 : Int) - (d : Int)) = (R1 : Int) ∧ decide ((d : Int) ≤ (R1 : Int)) = false ∧ R2 = R1) ∨
      (∃ R1 : Nat, ((r1 : Int) != 0) = true ∧ IntKind.u64.wrap ((r0 : Int) - (d : Int)) = (R1 : Int) ∧ decide ((d : Int) ≤ (R1 : Int)) = true ∧ IntKind.u64.wrap ((R1 : Int) - (d : Int)) = (R2 : Int))

set_option maxHeartbeats 2000000 in
theorem divWW_facts (x1 x0 y : Nat) (h0 : 0 < y) (h1 : y < 18446744073709551616) (hx1 : x1 < y) (hx0 : x0 < 18446744073709551616) :
    ∃ s k a1 X1 X0 d hi lo sm c1 c2 t dq1 dq0 r0 b b2 r1 R2 : Nat, DivF x1 x0 y (invV y - 18446744073709551616) ((x1 * 18446744073709551616 + x0) % y) s k a1 X1 X0 d hi lo sm c1 c2 t dq1 dq0 r0 b b2 r1 R2 := by
  obtain ⟨h2, h3, h4, h5, h6⟩ := lzw_spec y h0 h1
  obtain ⟨i1, i2, i3, i4⟩ := shifted y x1 x0 h0 h1 hx1 hx0
  obtain ⟨v1, v2⟩ := invV_ge y h0 h1
  have hVd : invV y = (18446744073709551616 * 18446744073709551616 - 1) / (y * 2 ^ lzw y) := rfl
  have H := Lib.hid (fun w => nlz_any y h0 h1 w)
  obtain ⟨V, hV⟩ : ∃ V, V = invV y := ⟨_, rfl⟩
  obtain ⟨s, hs⟩ : ∃ s, s = lzw y := ⟨_, rfl⟩
  rw [← hV] at v1 v2 hVd ⊢
  rw [← hs] at H h4 h5 h6 i1 i2 i3 i4 hVd
  obtain ⟨d, hd⟩ : ∃ d, d = y * 2 ^ s := ⟨_, rfl⟩
  obtain ⟨a1, ha1⟩ : ∃ a, a = x1 * 2 ^ s := ⟨_, rfl⟩
  obtain ⟨k, hk⟩ : ∃ k, k = 64 - s := ⟨_, rfl⟩
  obtain ⟨X0, hX0⟩ : ∃ X, X = x0 * 2 ^ s % 18446744073709551616 := ⟨_, rfl⟩
  obtain ⟨z, hz⟩ : ∃ z, z = x0 / 2 ^ k := ⟨_, rfl⟩
  obtain ⟨X1, hX1⟩ : ∃ X, X = a1 + z := ⟨_, rfl⟩
  rw [← hk] at i2 i3 i4
  rw [← ha1, ← hz, ← hX1, ← hX0] at i4
  rw [← ha1, ← hz] at i3
  rw [← ha1, ← hz, ← hX1, ← hd] at i2
  rw [← ha1] at i1
  rw [← hX1] at i3
  rw [← hd] at h5 h6 hVd
  have hrem : ((x1 * 18446744073709551616 + x0) % y) * 2 ^ s = (X1 * 18446744073709551616 + X0) % d := by
    rw [i4, hd, Nat.mul_mod_mul_right]
  obtain ⟨R9, hR9⟩ : ∃ r, r = (x1 * 18446744073709551616 + x0) % y := ⟨_, rfl⟩
  rw [← hR9] at hrem ⊢
  have hX0b : X0 < 18446744073709551616 := by rw [hX0]; exact Nat.mod_lt _ (by decide)
  obtain ⟨j1, j2⟩ := inv_div (d := d) (x1 := X1) (x0 := X0) (V := V) (by omega) h6 i2 hX0b hVd
  obtain ⟨M, hM⟩ : ∃ M, M = V - 18446744073709551616 := ⟨_, rfl⟩
  rw [← hM]
  have hVM : X1 * V + X0 = M * X1 + X1 * 18446744073709551616 + X0 := by
    rw [show V = M + 18446744073709551616 by omega, Nat.mul_add, Nat.mul_comm X1 M]
  have HM1 := Lib.hid (fun w => Tryz.bits_Mul M X1 (by omega) (by omega) w)
  obtain ⟨p, hp⟩ : ∃ p, p = M * X1 := ⟨_, rfl⟩
  rw [← hp] at hVM HM1
  obtain ⟨hi, hhi⟩ : ∃ n, n = p / 18446744073709551616 := ⟨_, rfl⟩
  obtain ⟨lo, hlo⟩ : ∃ n, n = p % 18446744073709551616 := ⟨_, rfl⟩
  rw [← hhi, ← hlo] at HM1
  have HA1 := Lib.hid (fun w => bitsAdd_any lo X0 0 (by omega) w)
  obtain ⟨sm, hsm⟩ : ∃ n, n = (lo + X0 + 0) % 18446744073709551616 := ⟨_, rfl⟩
  obtain ⟨c1, hc1⟩ : ∃ n, n = (lo + X0 + 0) / 18446744073709551616 := ⟨_, rfl⟩
  rw [← hsm, ← hc1] at HA1
  have ht : (X1 * V + X0) / 18446744073709551616 = hi + X1 + c1 := by
    rw [hVM]
    omega
  rw [ht] at j1 j2
  have htB : hi + X1 + c1 < 18446744073709551616 := by
    rcases Nat.lt_or_ge (hi + X1 + c1) 18446744073709551616 with h | h
    · exact h
    · have : d * 18446744073709551616 ≤ d * (hi + X1 + c1) := Nat.mul_le_mul_left _ h
      have : (X1 + 1) * 18446744073709551616 ≤ d * 18446744073709551616 := Nat.mul_le_mul_right _ i2
      omega
  have HA2 := Lib.hid (fun w => bitsAdd_any hi X1 c1 (by omega) w)
  obtain ⟨t, htt⟩ : ∃ n, n = hi + X1 + c1 := ⟨_, rfl⟩
  rw [← htt] at j1 j2 htB HA2
  obtain ⟨c2, hc2⟩ : ∃ n, n = t / 18446744073709551616 := ⟨_, rfl⟩
  rw [Nat.mod_eq_of_lt htB, ← hc2] at HA2
  have HM2 := Lib.hid (fun w => Tryz.bits_Mul d t h6 htB w)
  obtain ⟨dq, hdq⟩ : ∃ n, n = d * t := ⟨_, rfl⟩
  rw [← hdq] at j1 j2 HM2
  obtain ⟨dq1, hdq1⟩ : ∃ n, n = dq / 18446744073709551616 := ⟨_, rfl⟩
  obtain ⟨dq0, hdq0⟩ : ∃ n, n = dq % 18446744073709551616 := ⟨_, rfl⟩
  rw [← hdq1, ← hdq0] at HM2
  obtain ⟨R, hR⟩ : ∃ n, n = X1 * 18446744073709551616 + X0 - dq := ⟨_, rfl⟩
  have HS1 := Lib.hid (fun w => bitsSub_any X0 dq0 0 (by omega) w)
  obtain ⟨b, hb⟩ : ∃ n : Nat, n = (if X0 < dq0 + 0 then 1 else 0) := ⟨_, rfl⟩
  obtain ⟨r0, hr0⟩ : ∃ n, n = (X0 + 18446744073709551616 - dq0 - 0) % 18446744073709551616 := ⟨_, rfl⟩
  rw [← hb, ← hr0] at HS1
  have hb1 : b ≤ 1 := by rw [hb]; split <;> omega
  have HS2 := Lib.hid (fun w => bitsSub_any X1 dq1 b hb1 w)
  obtain ⟨b2, hb2⟩ : ∃ n : Nat, n = (if X1 < dq1 + b then 1 else 0) := ⟨_, rfl⟩
  obtain ⟨r1, hr1⟩ : ∃ n, n = (X1 + 18446744073709551616 - dq1 - b) % 18446744073709551616 := ⟨_, rfl⟩
  rw [← hb2, ← hr1] at HS2
  have k0 : r0 = R % 18446744073709551616 := by
    rw [hr0, hR]
    omega
  have k1 : r1 = R / 18446744073709551616 := by
    rw [hr1, hR, hb]
    split <;> omega
  have hRm : (X1 * 18446744073709551616 + X0) % d = R % d := by
    have e : X1 * 18446744073709551616 + X0 = R + d * t := by rw [← hdq]; omega
    rw [e, Nat.add_mul_mod_self_left]
  rw [hRm] at hrem
  have hcase := last_digit h5 h6 (R := R) (by omega) k0 k1
  obtain ⟨R2, hcs, hR2⟩ := hcase
  have f1 : IntKind.u64.wrap ((x1 : Int) * 2 ^ s) = (a1 : Int) := by
    have e : (x1 : Int) * 2 ^ s = (a1 : Int) := by rw [ha1]; simp
    rw [e]
    exact wrapN i1
  have f2 : IntKind.u64.wrap (64 - (s : Int)) = (k : Int) := wrap_k h4 hk
  have f3 : bits .or .u64 (a1 : Int) ((x0 : Int) / 2 ^ k) = (X1 : Int) := by
    have e : (x0 : Int) / 2 ^ k = (z : Int) := by rw [hz]; simp
    have hzb : z ≤ x0 := by rw [hz]; exact Nat.div_le_self _ _
    rw [e, bits_or_u64_nat a1 z i1 (Nat.lt_of_le_of_lt hzb hx0), i3]
  have f4 : IntKind.u64.wrap ((x0 : Int) * 2 ^ s) = (X0 : Int) := by
    have e : (x0 : Int) * 2 ^ s = ((x0 * 2 ^ s : Nat) : Int) := by simp
    rw [e, hX0]
    exact wrap_mod _
  have f5 : IntKind.u64.wrap ((y : Int) * 2 ^ s) = (d : Int) := by
    have e : (y : Int) * 2 ^ s = (d : Int) := by rw [hd]; simp
    rw [e]
    exact wrapN h6
  have f9 : (R2 : Int) / 2 ^ s = (R9 : Int) := by
    have e : R2 / 2 ^ s = R9 := by rw [hR2, ← hrem, Nat.mul_div_cancel _ (Nat.two_pow_pos s)]
    rw [← e]
    simp
  have hsp : (s = 0 ∧ X1 = x1 ∧ X0 = x0 ∧ d = y) ∨ ((s : Int) != 0) = true := by
    by_cases h : s = 0
    · left
      subst h
      simp only [Nat.pow_zero, Nat.mul_one] at ha1 hd hX0
      refine ⟨rfl, ?_, by omega, by omega⟩
      have hz0 : z = 0 := by
        rw [hz, hk]
        exact Nat.div_eq_of_lt (by simpa using hx0)
      omega
    · exact .inr (bne_yes (by omega))
  have HA1' := HA1.out
  have HS1' := HS1.out
  simp only [Int.natCast_zero] at HA1' HS1'
  exact ⟨s, k, a1, X1, X0, d, hi, lo, sm, c1, c2, t, dq1, dq0, r0, b, b2, r1, R2, ⟨H.out, HM1.out, HA1', HA2.out, HM2.out, HS1', HS2.out, f1, f2, f3, f4, f5, f9, Nat.min_eq_left (Nat.le_trans h4 (by decide)), min_k hk, hsp, hcs⟩⟩
end Go.Proofs.YtloloifngbmibaaGreatDoor
set_option linter.unusedVariables false
set_option maxRecDepth 4000
namespace Go.Proofs.YtloloifngbmibaaGreatDoor
open Go.RowKit

set_option maxHeartbeats 8000000 in
theorem divWW_any (x1 x0 y : Nat) (h0 : 0 < y) (h1 : y < 18446744073709551616) (hx1 : x1 < y) (hx0 : x0 < 18446744073709551616) (w : World) :
    Calls Tryz.prog 231 #[.int .u64 x1, .int .u64 x0, .int .u64 y, .int .u64 ((invV y - 18446744073709551616 : Nat) : Int)] w fun e w' => ∃ q : Int, e = .returned (.tuple #[.int .u64 q, .int .u64 (((x1 * 18446744073709551616 + x0) % y : Nat) : Int)]) ∧ w' = w := by
  obtain ⟨s, k, a1, X1, X0, d, hi, lo, sm, c1, c2, t, dq1, dq0, r0, b, b2, r1, R2, F⟩ := divWW_facts x1 x0 y h0 h1 hx1 hx0
  obtain ⟨M, hM⟩ : ∃ M, M = invV y - 18446744073709551616 := ⟨_, rfl⟩
  obtain ⟨R9, hR9⟩ : ∃ r, r = (x1 * 18446744073709551616 + x0) % y := ⟨_, rfl⟩
  rw [← hM, ← hR9] at F ⊢
  obtain ⟨nl, m1, ad1, ad2, m2, su1, su2, f1, f2, f3, f4, f5, f9, ms, mk', hsp, hcs⟩ := F
  have H := Lib.hid nl
  have HM1 := Lib.hid m1
  have HM2 := Lib.hid m2
  have HA1 := Lib.hid ad1
  have HA2 := Lib.hid ad2
  have HS1 := Lib.hid su1
  have HS2 := Lib.hid su2
  clear hM hR9 h0 h1 hx1 hx0 nl m1 m2 ad1 ad2 su1 su2
  obtain ⟨T1, hT1⟩ : ∃ T, IntKind.u64.wrap ((t : Int) + 1) = T := ⟨_, rfl⟩
  obtain ⟨T2, hT2⟩ : ∃ T, IntKind.u64.wrap (T1 + 1) = T := ⟨_, rfl⟩
  rcases hsp with ⟨rfl, rfl, rfl, rfl⟩ | hs0
  · clear f1 f2 f3 f4 f5 ms mk'
    have f9' : (R2 : Int) = (R9 : Int) := by simpa using f9
    have f10 : R2 = R9 := by omega
    clear f9 f9'
    subst f10
    have hs0 : (((0 : Nat) : Int) != 0) = false := by simp
    rcases hcs with ⟨g1, g2, rfl⟩ | ⟨g1, g2, g3⟩ | ⟨R1, g1, g2, g3, rfl⟩ | ⟨R1, g1, g2, g3, g4⟩
    any_goals (have g7 := g2; simp only [decide_eq_true_eq, decide_eq_false_iff_not, Int.ofNat_le] at g7)
    any_goals (have g8 := g3; simp only [decide_eq_true_eq, decide_eq_false_iff_not, Int.ofNat_le] at g8)
    all_goals
      go_enter Tryz.func231, Tryz.ntmps231
      go_wp2_with fail
      refine (H.out _).mono ?_
      rintro e w' ⟨rfl, rfl⟩
      go_wp2_with fail
      refine (HM1.out _).mono ?_
      rintro e w' ⟨rfl, rfl⟩
      go_wp2_with fail
      refine (HA1.out _).mono ?_
      rintro e w' ⟨rfl, rfl⟩
      go_wp2_with fail
      refine (HA2.out _).mono ?_
      rintro e w' ⟨rfl, rfl⟩
      go_wp2_with fail
      refine (HM2.out _).mono ?_
      rintro e w' ⟨rfl, rfl⟩
      go_wp2_with fail
      refine (HS1.out _).mono ?_
      rintro e w' ⟨rfl, rfl⟩
      go_wp2_with fail
      refine (HS2.out _).mono ?_
      rintro e w' ⟨rfl, rfl⟩
      go_wp2
      first | (refine bodyPost_ret (v := .tuple #[.int .u64 (t : Int), .int .u64 (R2 : Int)]) ?_ rfl ⟨_, rfl, rfl⟩; simp [results, Tryz.results231, go_sem]; done) | (refine bodyPost_ret (v := .tuple #[.int .u64 T1, .int .u64 (R2 : Int)]) ?_ rfl ⟨_, rfl, rfl⟩; simp [results, Tryz.results231, go_sem]; done) | (refine bodyPost_ret (v := .tuple #[.int .u64 T2, .int .u64 (R2 : Int)]) ?_ rfl ⟨_, rfl, rfl⟩; simp [results, Tryz.results231, go_sem]; done)
  · rcases hcs with ⟨g1, g2, rfl⟩ | ⟨g1, g2, g3⟩ | ⟨R1, g1, g2, g3, rfl⟩ | ⟨R1, g1, g2, g3, g4⟩
    any_goals (have g7 := g2; simp only [decide_eq_true_eq, decide_eq_false_iff_not, Int.ofNat_le] at g7)
    any_goals (have g8 := g3; simp only [decide_eq_true_eq, decide_eq_false_iff_not, Int.ofNat_le] at g8)
    all_goals
      go_enter Tryz.func231, Tryz.ntmps231
      go_wp2_with fail
      refine (H.out _).mono ?_
      rintro e w' ⟨rfl, rfl⟩
      go_wp2_with fail
      refine (HM1.out _).mono ?_
      rintro e w' ⟨rfl, rfl⟩
      go_wp2_with fail
      refine (HA1.out _).mono ?_
      rintro e w' ⟨rfl, rfl⟩
      go_wp2_with fail
      refine (HA2.out _).mono ?_
      rintro e w' ⟨rfl, rfl⟩
      go_wp2_with fail
      refine (HM2.out _).mono ?_
      rintro e w' ⟨rfl, rfl⟩
      go_wp2_with fail
      refine (HS1.out _).mono ?_
      rintro e w' ⟨rfl, rfl⟩
      go_wp2_with fail
      refine (HS2.out _).mono ?_
      rintro e w' ⟨rfl, rfl⟩
      go_wp2
      first | (refine bodyPost_ret (v := .tuple #[.int .u64 (t : Int), .int .u64 (R9 : Int)]) ?_ rfl ⟨_, rfl, rfl⟩; simp [results, Tryz.results231, go_sem]; done) | (refine bodyPost_ret (v := .tuple #[.int .u64 T1, .int .u64 (R9 : Int)]) ?_ rfl ⟨_, rfl, rfl⟩; simp [results, Tryz.results231, go_sem]; done) | (refine bodyPost_ret (v := .tuple #[.int .u64 T2, .int .u64 (R9 : Int)]) ?_ rfl ⟨_, rfl, rfl⟩; simp [results, Tryz.results231, go_sem]; done)
end Go.Proofs.YtloloifngbmibaaGreatDoor
set_option linter.unusedVariables false
set_option maxRecDepth 4000
namespace Go.Proofs.YtloloifngbmibaaGreatDoor
open Go.RowKit

theorem norm_any (S : Nat → Prop) (A : Option Addr) (c : Nat) (xs : List Int) (hl : xs.length ≤ c) (hn : xs.length ≤ 4294967296) (w : World) (hr : Rd w S A (ints .u64 xs)) :
    Calls Tryz.prog 139 #[.slice A xs.length c] w fun e w' => e = .returned (.slice A (nrm xs).length c) ∧ w' = w := by
  obtain ⟨n, hna⟩ : ∃ n, n = xs.length := ⟨_, rfl⟩
  rw [← hna] at hl hn ⊢
  have HN := Lib.hid hna
  have HR := Lib.hid hr
  have HL := Lib.hid hl
  clear hna hr
  go_enter Tryz.func139, Tryz.ntmps139
  go_wp2
  go_loop [3] (fun i => ∃ k : Nat, k ≤ n ∧ i = .int .i64 k ∧ Hid (Nat_ xs k)) (fun i => (intOf i).toNat)
  case atStart => exact ⟨n, Nat.le_refl _, rfl, by rw [HN.out]; exact nat0 _⟩
  case round =>
    obtain ⟨k, hk, rfl, hz⟩ := hrel
    rcases k with _ | k
    · have hfin : Hid ((nrm xs).length = 0) := by
        show _ = _
        rw [nat_end (by omega) hz.out (by omega)]
        simp
      go_wp2
      go_ret
      exact ⟨by rw [hfin.out]; rfl, rfl⟩
    · obtain ⟨b, o, rfl, _, c0⟩ := rd_int HR.out (j := k) (by rw [← HN.out]; omega)
      have hkn : k < n := by omega
      obtain ⟨x, hx⟩ : ∃ x, x = xs[k]?.getD 0 := ⟨_, rfl⟩
      rw [← hx] at c0
      have HX := Lib.hid hx
      have hpos : ((0 : Int) < (k : Int) + 1) := by omega
      have ek : ((k + 1 : Nat) : Int) = (k : Int) + 1 := by omega
      clear hx
      by_cases hx0 : x = 0
      · subst hx0
        have HK := Lib.hid hkn
        go_wp2
        go_round
        case rel => exact ⟨k, by omega, by simp, nat_succ (by rw [← HN.out]; exact HK.out) hz.out HX.out.symm⟩
        case measure => simp [intOf]
      · have e1 := beq_no hx0
        have hfin : Hid ((nrm xs).length = k + 1) := by
          show _ = _
          rw [nat_end (by rw [← HN.out]; omega) hz.out (fun _ => by simp only [Nat.add_sub_cancel]; rw [← HX.out]; exact hx0)]
          rw [List.length_take, ← HN.out]
          omega
        have hkc : k + 1 ≤ c := by omega
        clear hx0
        go_wp2
        go_ret
        exact ⟨by rw [hfin.out]; rfl, rfl⟩

theorem take_rev {xs : List Int} {k : Nat} (hk : k < xs.length) : (xs.take (k + 1)).reverse = (xs[k]?.getD 0) :: (xs.take k).reverse := by
  rw [List.take_succ_eq_append_getElem hk, List.reverse_append]
  simp [hk]
/-- A comparison down from the high end has come to k. -/
def Cat (xs ys : List Int) (k : Nat) : Prop := cmpL (xs.take (k + 1)).reverse (ys.take (k + 1)).reverse = cmpL xs.reverse ys.reverse
theorem cat0 {xs ys : List Int} {n : Nat} (h1 : xs.length = n + 1) (h2 : ys.length = n + 1) : Cat xs ys n := by
  unfold Cat
  rw [List.take_of_length_le (by omega), List.take_of_length_le (by omega)]
theorem cat_eq {xs ys : List Int} {k : Nat} (hx : k < xs.length) (hy : k < ys.length) (h : Cat xs ys k) :
    cmpL xs.reverse ys.reverse = if xs[k]?.getD 0 = ys[k]?.getD 0 then cmpL (xs.take k).reverse (ys.take k).reverse else if xs[k]?.getD 0 < ys[k]?.getD 0 then -1 else 1 := by
  unfold Cat at h
  rw [← h, take_rev hx, take_rev hy]
  rfl
theorem cmpN_any (S S' : Nat → Prop) (A A' : Option Addr) (c c' : Nat) (xs ys : List Int) (hn : xs.length ≤ 4294967296) (hn' : ys.length ≤ 4294967296) (w : World) (h : Rd w S A (ints .u64 xs)) (h' : Rd w S' A' (ints .u64 ys)) :
    Calls Tryz.prog 141 #[.slice A xs.length c, .slice A' ys.length c'] w fun e w' => e = .returned (.int .i64 (ordL xs.reverse ys.reverse)) ∧ ∃ n, w.drewN n = w' := by
  by_cases hl : xs.length = ys.length
  · by_cases h0 : xs.length = 0
    · have e1 : xs = [] := List.eq_nil_of_length_eq_zero h0
      have e2 : ys = [] := List.eq_nil_of_length_eq_zero (by omega)
      subst e1
      subst e2
      clear h h'
      go_enter Tryz.func141, Tryz.ntmps141
      go_wp2
      go_ret
      exact ⟨rfl, 0, rfl⟩
    · obtain ⟨n, hna⟩ : ∃ n, xs.length = n + 1 := ⟨xs.length - 1, by omega⟩
      have hnb : ys.length = n + 1 := by omega
      have HO : Hid (ordL xs.reverse ys.reverse = cmpL xs.reverse ys.reverse) := by
        show _ = _
        simp [ordL, hl]
      rw [hna] at hn
      have H := Lib.hid h
      have H' := Lib.hid h'
      have HA := Lib.hid hna
      have HB := Lib.hid hnb
      rw [hna, hnb]
      clear hna hnb hl hn' h h' h0
      have e0 : (((n + 1 : Nat) : Int) != ((n + 1 : Nat) : Int)) = false := by simp
      have e1 : ((n + 1 : Nat) : Int) = (n : Int) + 1 := by omega
      have e2 : ((n : Int) + 1 == 0) = false := beq_no (by omega)
      go_enter Tryz.func141, Tryz.ntmps141
      go_wp2
      go_loopw [7] (fun i wr => ∃ k : Nat, k ≤ n ∧ i = .int .i64 k ∧ Hid (Cat xs ys k) ∧ ∃ m, wr = w.drewN m) (fun i _ => (intOf i).toNat)
      case atStart => exact ⟨n, Nat.le_refl _, by simp, cat0 HA.out HB.out, 0, rfl⟩
      case round =>
        obtain ⟨k, hk, rfl, hz, m, rfl⟩ := hrel
        obtain ⟨b1, o1, hA, _, c1⟩ := rd_int H.out (j := k) (by rw [HA.out]; omega)
        obtain ⟨b2, o2, hA', _, c2⟩ := rd_int H'.out (j := k) (by rw [HB.out]; omega)
        cases hA
        cases hA'
        have hstep := cat_eq (by rw [HA.out]; omega) (by rw [HB.out]; omega) hz.out
        obtain ⟨x, hx⟩ : ∃ x, x = xs[k]?.getD 0 := ⟨_, rfl⟩
        obtain ⟨y, hy⟩ : ∃ y, y = ys[k]?.getD 0 := ⟨_, rfl⟩
        rw [← hx] at c1 hstep
        rw [← hy] at c2 hstep
        have HS := Lib.hid hstep
        clear hx hy hstep
        have hk1 : (k : Int) < (n : Int) + 1 := by omega
        have hk2 : k < n + 1 := by omega
        by_cases hxy : x = y
        · subst hxy
          rcases k with _ | k
          · simp only [Nat.add_zero] at c1 c2
            have e4 := dec_no (Int.lt_irrefl x)
            have hfin : Hid (cmpL xs.reverse ys.reverse = 0) := by
              show _ = _
              rw [HS.out, if_pos rfl]
              simp [cmpL]
            go_wp2
            go_quiet (fail)
            go_wp2
            go_quiet (fail)
            go_wp2
            go_quiet (fail)
            go_wp2
            go_ret
            refine ⟨?_, _, by rw [World.drewN_drewN, World.drewN_drewN, World.drewN_drewN]⟩
            rw [HO.out, hfin.out]
            rfl
          · have e3 : (((k + 1 : Nat) : Int) == 0) = false := beq_no (by omega)
            have e4 : (x == x) = true := by simp
            have e5 := dec_yes (show (0 : Int) < ((k + 1 : Nat) : Int) by omega)
            go_wp2
            go_quiet (fail)
            go_wp2
            go_roundw
            case rel => exact ⟨k, by omega, by simp, by have := HS.out; simp at this; exact this.symm, _, rfl⟩
            case measure => simp [intOf]
        · have e1' := beq_no hxy
          by_cases hlt2 : x < y
          · have e3 := dec_yes hlt2
            have hfin : Hid (cmpL xs.reverse ys.reverse = -1) := by
              show _ = _
              rw [HS.out, if_neg hxy, if_pos hlt2]
            clear hxy
            by_cases hk0 : 0 < k
            · have e5 := dec_yes (show (0 : Int) < (k : Int) by omega)
              go_wp2
              go_quiet (fail)
              go_wp2
              go_quiet (fail)
              go_wp2
              go_ret
              refine ⟨?_, _, by rw [World.drewN_drewN, World.drewN_drewN]⟩
              rw [HO.out, hfin.out]
              rfl
            · have e5 := dec_no (show ¬ (0 : Int) < (k : Int) by omega)
              go_wp2
              go_quiet (fail)
              go_wp2
              go_quiet (fail)
              go_wp2
              go_ret
              refine ⟨?_, _, by rw [World.drewN_drewN, World.drewN_drewN]⟩
              rw [HO.out, hfin.out]
              rfl
          · have e3 := dec_no hlt2
            have e6 := dec_yes (show y < x by omega)
            have hfin : Hid (cmpL xs.reverse ys.reverse = 1) := by
              show _ = _
              rw [HS.out, if_neg hxy, if_neg hlt2]
            clear hxy
            by_cases hk0 : 0 < k
            · have e5 := dec_yes (show (0 : Int) < (k : Int) by omega)
              go_wp2
              go_quiet (fail)
              go_wp2
              go_quiet (fail)
              go_wp2
              go_quiet (fail)
              go_wp2
              go_ret
              refine ⟨?_, _, by rw [World.drewN_drewN, World.drewN_drewN, World.drewN_drewN]⟩
              rw [HO.out, hfin.out]
              rfl
            · have e5 := dec_no (show ¬ (0 : Int) < (k : Int) by omega)
              go_wp2
              go_quiet (fail)
              go_wp2
              go_quiet (fail)
              go_wp2
              go_quiet (fail)
              go_wp2
              go_ret
              refine ⟨?_, _, by rw [World.drewN_drewN, World.drewN_drewN, World.drewN_drewN]⟩
              rw [HO.out, hfin.out]
              rfl
  · have e0 : ((xs.length : Int) != (ys.length : Int)) = true := bne_yes (by omega)
    by_cases hlt : xs.length < ys.length
    · have hO : Hid (ordL xs.reverse ys.reverse = -1) := by
        show _ = _
        rw [ordL, if_neg (by simpa using hl), if_pos (by simpa using hlt)]
      clear hl h h'
      go_enter Tryz.func141, Tryz.ntmps141
      go_wp2
      go_ret
      exact ⟨by rw [hO.out]; rfl, 0, rfl⟩
    · have hO : Hid (ordL xs.reverse ys.reverse = 1) := by
        show _ = _
        rw [ordL, if_neg (by simpa using hl), if_neg (by simpa using hlt)]
      have hgt : ys.length < xs.length := by omega
      clear hl h h'
      go_enter Tryz.func141, Tryz.ntmps141
      go_wp2
      go_ret
      exact ⟨by rw [hO.out]; rfl, 0, rfl⟩
end Go.Proofs.YtloloifngbmibaaGreatDoor
