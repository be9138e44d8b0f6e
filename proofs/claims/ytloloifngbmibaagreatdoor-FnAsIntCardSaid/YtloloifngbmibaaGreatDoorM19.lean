/- nat.bitLen, Int.BitLen, low64, Int.Int64, Int.Uint64. What an integer of the reference is worth, and how two compare: plain facts; digits, the lowest first. Walks: MakeInt, MakeInt64, MakeUint, MakeUint64. -/
import Derived.Test.YtloloifngbmibaaGreatDoorM18
import Derived.Test.YtloloifngbmibaaGreatDoorM17
import Derived.Test.YtloloifngbmibaaGreatDoorM08
set_option linter.unusedVariables false
set_option linter.unusedSimpArgs false
set_option maxRecDepth 4000
namespace Go.Proofs.YtloloifngbmibaaGreatDoor
open Go.RowKit

/-- One smear of a word to its right. -/
theorem smear {t n k : Nat} (h : 2 ^ n ≤ t ∧ t < 2 ^ (n + 1)) (hn : n < 64) : ∃ u : Nat, bits .or .u64 (t : Int) ((t / 2 ^ k : Nat) : Int) = (u : Int) ∧ 2 ^ n ≤ u ∧ u < 2 ^ (n + 1) := by
  have h64 : 2 ^ (n + 1) ≤ 2 ^ 64 := Nat.pow_le_pow_right (by decide) (by omega)
  have hd : t / 2 ^ k ≤ t := Nat.div_le_self _ _
  refine ⟨t ||| t / 2 ^ k, bits_or_u64_nat t (t / 2 ^ k) (by omega) (by omega), ?_, Nat.or_lt_two_pow h.2 (by omega)⟩
  exact Nat.le_trans h.1 Nat.left_le_or

theorem len_of {t n : Nat} (h : 2 ^ n ≤ t ∧ t < 2 ^ (n + 1)) (hn : n < 64) : Lib.bitLen t = n + 1 := by
  have h64 : 2 ^ (n + 1) ≤ 2 ^ 64 := Nat.pow_le_pow_right (by decide) (by omega)
  have hp : 0 < 2 ^ n := Nat.pow_pos (by decide)
  have hb := Lib.bitLenAux_bounds 64 t (by omega) (by omega)
  have e : Lib.bitLen t = Lib.bitLenAux 64 t := rfl
  rw [← e] at hb
  by_cases h1 : Lib.bitLen t ≤ n
  · have := Nat.pow_le_pow_right (n := 2) (by decide) h1
    omega
  · by_cases h2 : n + 1 < Lib.bitLen t
    · have := Nat.pow_le_pow_right (n := 2) (j := Lib.bitLen t - 1) (by decide) (show n + 1 ≤ Lib.bitLen t - 1 by omega)
      omega
    · omega
theorem log_of {x : Nat} (h0 : 0 < x) (h1 : x < 18446744073709551616) : ∃ n, n < 64 ∧ 2 ^ n ≤ x ∧ x < 2 ^ (n + 1) := by
  have hb := Lib.bitLenAux_bounds 64 x h1 (by omega)
  have hl := Lib.bitLenAux_le 64 x 64 h1
  refine ⟨Lib.bitLenAux 64 x - 1, by omega, hb.2.1, ?_⟩
  rw [show Lib.bitLenAux 64 x - 1 + 1 = Lib.bitLenAux 64 x by omega]
  exact hb.2.2

/-- The bits of a magnitude. -/
theorem nv_bits {ws : List Int} {m x n : Nat} (hw : WL ws) (hl : ws.length = m + 1) (hx : ws[m]?.getD 0 = x) (h : 2 ^ n ≤ x ∧ x < 2 ^ (n + 1)) : (2 : Int) ^ (m * 64 + n) ≤ nv ws ∧ nv ws < 2 ^ (m * 64 + n + 1) := by
  have e1 : ws = ws.take m ++ [(x : Int)] := by
    have := take_snoc (xs := ws) (k := m) (by omega)
    rw [hx, ← hl, List.take_length] at this
    exact this
  have h1 := nv_lt (hw.take m)
  have h0 := nv_nonneg (hw.take m)
  rw [List.length_take, Nat.min_eq_left (by omega)] at h1
  have e2 : nv ws = nv (ws.take m) + 18446744073709551616 ^ m * (x : Int) := by
    conv => lhs; rw [e1]
    rw [nv_snoc, List.length_take, Nat.min_eq_left (by omega)]
  have e3 : (18446744073709551616 : Int) ^ m = 2 ^ (m * 64) := by
    rw [Nat.mul_comm, Int.pow_mul]
    rfl
  have hp : (0 : Int) < 2 ^ (m * 64) := Int.pow_pos (by decide)
  have h2 : (2 : Int) ^ n ≤ x := by exact_mod_cast h.1
  have h3 : (x : Int) + 1 ≤ 2 ^ (n + 1) := by exact_mod_cast h.2
  have h4 := Int.mul_le_mul_of_nonneg_left h2 (Int.le_of_lt hp)
  have h5 := Int.mul_le_mul_of_nonneg_left h3 (Int.le_of_lt hp)
  rw [e3] at h1 e2
  rw [e2, show m * 64 + n + 1 = m * 64 + (n + 1) by omega, Int.pow_add, Int.pow_add]
  rw [Int.mul_add, Int.mul_one] at h5
  omega

/-- What bitLen tells. -/
def LenOf (ws : List Int) (r : Nat) : Prop := (ws = [] → r = 0) ∧ nv ws < 2 ^ r ∧ (ws ≠ [] → 0 < r ∧ (2 : Int) ^ (r - 1) ≤ nv ws)

theorem bitLen_any (S : Nat → Prop) (A : Option Addr) (c : Nat) (ws : List Int) (hn : ws.length ≤ 1000000) (hw : WL ws) (hr : Nrm ws) (w : World) (h : Rd w S A (ints .u64 ws)) :
    Calls Tryz.prog 143 #[.slice A ws.length c] w fun e w' => ∃ r : Nat, e = .returned (.int .i64 r) ∧ LenOf ws r ∧ w' = w := by
  by_cases h0 : ws = []
  · subst h0
    go_enter Tryz.func143, Tryz.ntmps143
    go_wp2
    go_ret
    exact ⟨0, rfl, ⟨fun _ => rfl, by simp [nv], fun h => absurd rfl h⟩, rfl⟩
  · obtain ⟨m, hm⟩ : ∃ m, ws.length = m + 1 := ⟨ws.length - 1, by have := List.length_pos_iff.2 h0; omega⟩
    obtain ⟨b, o, rfl, hSb, hc⟩ := rd_int h (j := m) (by omega)
    have hx := hw.at_ m
    obtain ⟨x, hxe⟩ := Int.eq_ofNat_of_zero_le hx.1
    rw [hxe] at hc hx
    have hx0 : 0 < x := by
      have h1 := nv_ge hw hr m hm
      refine Nat.pos_of_ne_zero fun hz => ?_
      have e1 : ws = ws.take m ++ [(x : Int)] := by
        have := take_snoc (xs := ws) (k := m) (by omega)
        rw [hxe, ← hm, List.take_length] at this
        exact this
      have h2 := nv_lt (hw.take m)
      rw [List.length_take, Nat.min_eq_left (by omega)] at h2
      rw [e1, nv_snoc, hz] at h1
      simp at h1
      omega
    obtain ⟨n, hn64, hlog⟩ := log_of hx0 (by omega)
    have HN := Lib.hid (nv_bits hw hm hxe hlog)
    obtain ⟨x1, e1, l1⟩ := smear (k := 1) hlog hn64
    obtain ⟨x2, e2, l2⟩ := smear (k := 2) l1 hn64
    obtain ⟨x3, e3, l3⟩ := smear (k := 4) l2 hn64
    obtain ⟨x4, e4, l4⟩ := smear (k := 8) l3 hn64
    obtain ⟨x5, e5, l5⟩ := smear (k := 16) l4 hn64
    obtain ⟨x6, e6, l6⟩ := smear (k := 32) l5 hn64
    have h6 : 2 ^ (n + 1) ≤ 2 ^ 64 := Nat.pow_le_pow_right (by decide) (by omega)
    have HL := Lib.hid (fun w => Tryz.bits_Len (x6 : Int) w (by omega) (by omega))
    rw [show ((x6 : Int)).toNat = x6 from rfl, len_of l6 hn64] at HL
    have d1 : bits .or .u64 (x : Int) ((x : Int) / 2) = (x1 : Int) := by rw [← e1]; rfl
    have d2 : bits .or .u64 (x1 : Int) ((x1 : Int) / 4) = (x2 : Int) := by rw [← e2]; rfl
    have d3 : bits .or .u64 (x2 : Int) ((x2 : Int) / 16) = (x3 : Int) := by rw [← e3]; rfl
    have d4 : bits .or .u64 (x3 : Int) ((x3 : Int) / 256) = (x4 : Int) := by rw [← e4]; rfl
    have d5 : bits .or .u64 (x4 : Int) ((x4 : Int) / 65536) = (x5 : Int) := by rw [← e5]; rfl
    have d6 : bits .or .u64 (x5 : Int) ((x5 : Int) / 65536 / 65536) = (x6 : Int) := by
      rw [← e6, Int.ediv_ediv_of_nonneg (by decide)]
      rfl
    rw [hm] at hn ⊢
    have HE := Lib.hid h0
    clear e1 e2 e3 e4 e5 e6 l1 l2 l3 l4 l5 l6 hlog hx hxe hx0 h h0 hw hr h6 hm
    go_enter Tryz.func143, Tryz.ntmps143
    go_wp2_with fail
    refine (HL.out _).mono ?_
    rintro e w1 ⟨rfl, rfl⟩
    have ew : (m : Int) * 64 + ((n + 1 : Nat) : Int) = ((m * 64 + n + 1 : Nat) : Int) := by omega
    have hb : m * 64 + n + 1 ≤ 9223372036854775807 := by omega
    go_wp2
    go_ret
    refine ⟨m * 64 + n + 1, by rw [← ew]; rfl, ⟨fun h => absurd h HE.out, HN.out.2, fun _ => ⟨by omega, HN.out.1⟩⟩, rfl⟩

theorem bitLenI (S : Nat → Prop) (b o : Nat) (neg : Bool) (ws : List Int) (hn : ws.length ≤ 1000000) (hw : WL ws) (hr : Nrm ws) (w : World) (h : BigV w S b o neg ws) :
    Calls Tryz.prog 130 #[.pointer (some ⟨b, o, none⟩)] w fun e w' => ∃ r : Nat, e = .returned (.int .i64 r) ∧ LenOf ws r ∧ w' = w := by
  obtain ⟨v, hSb, c0, c1, A, c, rfl, hc, hr'⟩ := h
  have HC := Lib.hid (bitLen_any S A c ws hn hw hr w hr')
  clear hn hw hr hr' hc
  go_enter Tryz.func130, Tryz.ntmps130
  go_wp2_with fail
  refine HC.out.mono ?_
  rintro e w1 ⟨r, rfl, hL, rfl⟩
  go_wp2
  go_ret
  exact ⟨r, rfl, hL, rfl⟩

theorem nv_mod {ws : List Int} (hw : WL ws) : nv ws % 18446744073709551616 = ws[0]?.getD 0 := by
  cases ws with
  | nil => rfl
  | cons x xs =>
    have h := (WL.cons.1 hw).1
    simp only [nv, List.getElem?_cons_zero, Option.getD_some]
    omega
theorem low64_any (S : Nat → Prop) (A : Option Addr) (c : Nat) (ws : List Int) (hw : WL ws) (w : World) (h : Rd w S A (ints .u64 ws)) :
    Calls Tryz.prog 140 #[.slice A ws.length c] w fun e w' => e = .returned (.int .u64 (nv ws % 18446744073709551616)) ∧ w' = w := by
  rw [nv_mod hw]
  by_cases h0 : ws = []
  · subst h0
    go_enter Tryz.func140, Tryz.ntmps140
    go_wp2
    go_ret
    exact ⟨rfl, rfl⟩
  · have hl := List.length_pos_iff.2 h0
    obtain ⟨b, o, rfl, hSb, hc⟩ := rd_int h (j := 0) hl
    obtain ⟨m, hm⟩ : ∃ m, m = ws.length := ⟨_, rfl⟩
    obtain ⟨x, hx⟩ : ∃ x, x = ws[0]?.getD 0 := ⟨_, rfl⟩
    rw [← hm] at hl ⊢
    rw [← hx] at hc ⊢
    rw [Nat.add_zero] at hc
    have hm0 : ¬ m = 0 := by omega
    clear h h0 hw hm hx
    go_enter Tryz.func140, Tryz.ntmps140
    go_wp2
    go_ret
    exact ⟨rfl, rfl⟩

theorem w64 (x : Int) : IntKind.i64.wrap x = wrap64 x := by
  rw [IntKind.wrap_i64]
  unfold wrap64
  omega
/-- What a number is worth. -/
def wv (neg : Bool) (ws : List Int) : Int := if neg then -(nv ws) else nv ws

theorem int64_any (S : Nat → Prop) (b o : Nat) (neg : Bool) (ws : List Int) (hw : WL ws) (w : World) (h : BigV w S b o neg ws) :
    Calls Tryz.prog 126 #[.pointer (some ⟨b, o, none⟩)] w fun e w' => e = .returned (.int .i64 (IntKind.i64.wrap (wv neg ws))) ∧ w' = w := by
  obtain ⟨v, hSb, c0, c1, A, c, rfl, hc, hr'⟩ := h
  have HC := Lib.hid (low64_any S A c ws hw w hr')
  have HW : Hid (IntKind.i64.wrap (wv neg ws) = if neg then IntKind.i64.wrap (-(IntKind.i64.wrap (nv ws % 18446744073709551616))) else IntKind.i64.wrap (nv ws % 18446744073709551616)) := by
    show _ = _
    unfold wv
    cases neg <;> simp only [IntKind.wrap_i64, if_true, if_false, Bool.false_eq_true] <;> omega
  obtain ⟨y, hy⟩ : ∃ y, y = nv ws % 18446744073709551616 := ⟨_, rfl⟩
  obtain ⟨z, hz⟩ : ∃ z, z = IntKind.i64.wrap y := ⟨_, rfl⟩
  rw [← hy] at HC HW
  rw [← hz] at HW
  have HZ := Lib.hid hz
  clear hw hr' hc hy hz
  cases neg
  · go_enter Tryz.func126, Tryz.ntmps126
    go_wp2_with fail
    refine HC.out.mono ?_
    rintro e w1 ⟨rfl, rfl⟩
    go_wp2
    go_ret
    exact ⟨by rw [HW.out, HZ.out]; simp only [Bool.false_eq_true, if_false, if_true, w64]; rfl, rfl⟩
  · go_enter Tryz.func126, Tryz.ntmps126
    go_wp2_with fail
    refine HC.out.mono ?_
    rintro e w1 ⟨rfl, rfl⟩
    go_wp2
    go_ret
    exact ⟨by rw [HW.out, HZ.out]; simp only [Bool.false_eq_true, if_false, if_true, w64]; rfl, rfl⟩

theorem uint64_any (S : Nat → Prop) (b o : Nat) (neg : Bool) (ws : List Int) (hw : WL ws) (w : World) (h : BigV w S b o neg ws) :
    Calls Tryz.prog 131 #[.pointer (some ⟨b, o, none⟩)] w fun e w' => e = .returned (.int .u64 (nv ws % 18446744073709551616)) ∧ w' = w := by
  obtain ⟨v, hSb, c0, c1, A, c, rfl, hc, hr'⟩ := h
  have HC := Lib.hid (low64_any S A c ws hw w hr')
  clear hw hr' hc
  go_enter Tryz.func131, Tryz.ntmps131
  go_wp2_with fail
  refine HC.out.mono ?_
  rintro e w1 ⟨rfl, rfl⟩
  go_wp2
  go_ret
  exact ⟨rfl, rfl⟩
end Go.Proofs.YtloloifngbmibaaGreatDoor
set_option linter.unusedVariables false
set_option maxRecDepth 4000
namespace Go.Proofs.YtloloifngbmibaaGreatDoor
open Go.RowKit

def iv (neg : Bool) (l : List Int) : Int := if neg then -(bv l) else bv l
def sgnc (x y : Int) : Int := if x < y then -1 else if x = y then 0 else 1
theorem sgnc_self (x : Int) : sgnc x x = 0 := by simp [sgnc]
theorem sgnc_lt {x y : Int} (h : x < y) : sgnc x y = -1 := by unfold sgnc; rw [if_pos h]
theorem sgnc_gt {x y : Int} (h : y < x) : sgnc x y = 1 := by unfold sgnc; rw [if_neg (by omega), if_neg (by omega)]
theorem sgnc_congr {x y x' y' : Int} (h : (x < y ↔ x' < y') ∧ (x = y ↔ x' = y')) : sgnc x y = sgnc x' y' := by
  rcases Int.lt_trichotomy x y with h1 | h1 | h1
  · rw [sgnc_lt h1, sgnc_lt (h.1.1 h1)]
  · rw [h1, h.2.1 h1, sgnc_self, sgnc_self]
  · have h2 : ¬ x' < y' := fun h3 => by have := h.1.2 h3; omega
    have h3 : ¬ x' = y' := fun h3 => by have := h.2.2 h3; omega
    rw [sgnc_gt h1, sgnc_gt (by omega)]
theorem sgnc_eq0 {x y : Int} (h : sgnc x y = 0) : x = y := by
  rcases Int.lt_trichotomy x y with h1 | h1 | h1
  · rw [sgnc_lt h1] at h; simp at h
  · exact h1
  · rw [sgnc_gt h1] at h; simp at h
theorem pw256 {a b : Nat} (h : a ≤ b) : (256 : Int) ^ a ≤ 256 ^ b := by
  obtain ⟨k, rfl⟩ := Nat.exists_eq_add_of_le h
  rw [Int.pow_add]
  have hp : (0 : Int) < 256 ^ a := Int.pow_pos (by decide)
  have hq : (0 : Int) < 256 ^ k := Int.pow_pos (by decide)
  have := Int.mul_le_mul_of_nonneg_left (show (1 : Int) ≤ 256 ^ k by omega) (show (0 : Int) ≤ 256 ^ a by omega)
  omega
theorem cmpL_bv : ∀ {a b : List Int}, a.length = b.length → ByL a → ByL b → cmpL a b = sgnc (bv a) (bv b)
  | [], [], _, _, _ => rfl
  | x :: xs, y :: ys, hl, ha, hb => by
    have hl' : xs.length = ys.length := by simpa using hl
    have h1 := bv_bd (ByL.cons.1 ha).2
    have h2 := bv_bd (ByL.cons.1 hb).2
    have hp : (0 : Int) < 256 ^ ys.length := Int.pow_pos (by decide)
    have ih := cmpL_bv hl' (ByL.cons.1 ha).2 (ByL.cons.1 hb).2
    rw [hl'] at h1
    simp only [cmpL, bv, hl']
    by_cases hxy : x = y
    · subst hxy
      rw [if_pos rfl, ih]
      exact sgnc_congr ⟨by omega, by omega⟩
    · rw [if_neg hxy]
      by_cases h3 : x < y
      · have := Int.mul_le_mul_of_nonneg_right (show x + 1 ≤ y by omega) (show (0 : Int) ≤ 256 ^ ys.length by omega)
        rw [Int.add_mul] at this
        rw [if_pos h3, sgnc_lt (by omega)]
      · have := Int.mul_le_mul_of_nonneg_right (show y + 1 ≤ x by omega) (show (0 : Int) ≤ 256 ^ ys.length by omega)
        rw [Int.add_mul] at this
        rw [if_neg h3, sgnc_gt (by omega)]
  | [], _ :: _, hl, _, _ => by simp at hl
  | _ :: _, [], hl, _, _ => by simp at hl
theorem short_lt {a b : List Int} (ha : ByL a) (hb : ByL b) (lb : Lead b) (h : a.length < b.length) : bv a < bv b := by
  have h1 := (bv_bd ha).2
  have h2 := bv_pos hb lb (by rintro rfl; simp at h)
  have h3 := pw256 (show a.length ≤ b.length - 1 by omega)
  omega
theorem ordL_bv {a b : List Int} (ha : ByL a) (hb : ByL b) (la : Lead a) (lb : Lead b) : ordL a b = sgnc (bv a) (bv b) := by
  unfold ordL
  by_cases h : a.length = b.length
  · rw [if_pos h, cmpL_bv h ha hb]
  · rw [if_neg h]
    unfold sgnc
    by_cases h1 : a.length < b.length
    · rw [if_pos h1, if_pos (short_lt ha hb lb h1)]
    · have := short_lt hb ha la (by omega : b.length < a.length)
      rw [if_neg h1, if_neg (by omega), if_neg (by omega)]
theorem bv_ne {a : List Int} (ha : ByL a) (la : Lead a) (h : a.length ≠ 0) : 0 < bv a := by
  have h2 := bv_pos ha la (by rintro rfl; simp at h)
  have hp : (0 : Int) < 256 ^ (a.length - 1) := Int.pow_pos (by decide)
  omega
theorem cmpI_iv {n1 n2 : Bool} {a b : List Int} (ha : ByL a) (hb : ByL b) (la : Lead a) (lb : Lead b) (h1 : n1 = true → a ≠ []) (h2 : n2 = true → b ≠ []) : cmpI n1 a n2 b = sgnc (iv n1 a) (iv n2 b) := by
  have key : ∀ {n : Bool} {l : List Int}, ByL l → Lead l → (n = true → l ≠ []) → (sgI n l.length = if iv n l < 0 then -1 else if iv n l = 0 then 0 else 1) := by
    intro n l hl ll hn
    unfold sgI iv
    by_cases h0 : l.length = 0
    · have : l = [] := List.eq_nil_of_length_eq_zero h0
      subst this
      cases n
      · simp [bv]
      · exact absurd rfl (hn rfl)
    · have hp := bv_ne hl ll h0
      rw [if_neg h0]
      cases n
      · simp only [Bool.false_eq_true, if_false]
        rw [if_neg (by omega), if_neg (by omega)]
      · simp only [if_true]
        rw [if_pos (by omega)]
  have k1 := key ha la h1
  have k2 := key hb lb h2
  have b1 := (bv_bd ha).1
  have b2 := (bv_bd hb).1
  have hcase : ∀ {n : Bool} {l : List Int}, ByL l → Lead l → (n = true → l ≠ []) → (n = true ∧ iv n l < 0) ∨ (n = false ∧ 0 ≤ iv n l) := by
    intro n l hl ll hn
    cases n
    · exact .inr ⟨rfl, (bv_bd hl).1⟩
    · have h0 : l.length ≠ 0 := fun h => hn rfl (List.eq_nil_of_length_eq_zero h)
      have := bv_ne hl ll h0
      exact .inl ⟨rfl, by unfold iv; rw [if_pos rfl]; omega⟩
  have c1 := hcase ha la h1
  have c2 := hcase hb lb h2
  unfold cmpI
  rw [k1, k2]
  rcases c1 with ⟨rfl, x0⟩ | ⟨rfl, x0⟩ <;> rcases c2 with ⟨rfl, y0⟩ | ⟨rfl, y0⟩
  · rw [if_pos x0, if_pos y0, if_pos rfl, if_pos rfl, ordL_bv hb ha lb la]
    unfold iv
    rw [if_pos rfl, if_pos rfl]
    exact sgnc_congr ⟨by omega, by omega⟩
  · rw [sgnc_lt (show iv true a < iv false b by omega), if_pos x0, if_neg (show ¬ iv false b < 0 by omega)]
    by_cases y1 : iv false b = 0
    · rw [if_pos y1]; simp
    · rw [if_neg y1]; simp
  · rw [sgnc_gt (show iv true b < iv false a by omega), if_pos y0, if_neg (show ¬ iv false a < 0 by omega)]
    by_cases y1 : iv false a = 0
    · rw [if_pos y1]; simp
    · rw [if_neg y1]; simp
  · rw [if_neg (show ¬ iv false a < 0 by omega), if_neg (show ¬ iv false b < 0 by omega)]
    by_cases x1 : iv false a = 0 <;> by_cases y1 : iv false b = 0
    · rw [if_pos x1, if_pos y1, if_pos rfl, if_neg (by simp), ordL_bv ha hb la lb]
      rfl
    · rw [if_pos x1, if_neg y1, sgnc_lt (show iv false a < iv false b by omega)]
      simp
    · rw [if_neg x1, if_pos y1, sgnc_gt (show iv false b < iv false a by omega)]
      simp
    · rw [if_neg x1, if_neg y1, if_pos rfl, if_neg (by simp), ordL_bv ha hb la lb]
      rfl

/-- Digits of the base 256, the lowest first. -/
def dv : List Int → Int
  | [] => 0
  | d :: ds => d + 256 * dv ds
theorem dv_app : ∀ (xs ys : List Int), dv (xs ++ ys) = dv xs + 256 ^ xs.length * dv ys
  | [], ys => by simp [dv]
  | x :: xs, ys => by
    simp only [List.cons_append, dv, dv_app xs ys, List.length_cons, Int.pow_succ, Int.mul_add]
    rw [Int.mul_comm (256 ^ xs.length) 256, Int.mul_assoc]
    omega
theorem dv_rev : ∀ (xs : List Int), dv xs.reverse = bv xs
  | [] => rfl
  | x :: xs => by
    rw [List.reverse_cons, dv_app, dv_rev xs, List.length_reverse]
    simp only [dv, bv, Int.mul_zero, Int.add_zero]
    rw [Int.mul_comm x]
    omega
theorem dv_bd {xs : List Int} (h : ByL xs) : 0 ≤ dv xs ∧ dv xs < 256 ^ xs.length := by
  have h1 : ByL xs.reverse := fun x hx => h x (List.mem_reverse.1 hx)
  have h2 := bv_bd h1
  rw [← dv_rev, List.reverse_reverse, List.length_reverse] at h2
  exact h2
theorem dv_take (xs : List Int) (k : Nat) : dv (xs.take (k + 1)) = dv (xs.take k) + (xs[k]?.getD 0) * 256 ^ k := by
  by_cases hk : k < xs.length
  · rw [List.take_succ_eq_append_getElem hk, dv_app, List.length_take, Nat.min_eq_left (by omega)]
    simp only [dv, Int.mul_zero, Int.add_zero, hk, List.getElem?_eq_getElem, Option.getD_some]
    rw [Int.mul_comm]
  · rw [List.take_of_length_le (by omega), List.take_of_length_le (by omega), List.getElem?_eq_none (by omega)]
    simp
theorem dv_zeros : ∀ (n : Nat), dv (List.replicate n 0) = 0
  | 0 => rfl
  | n + 1 => by simp [List.replicate_succ, dv, dv_zeros n]
theorem dv_set : ∀ (xs : List Int) (j : Nat) (v : Int), j < xs.length → dv (xs.set j v) = dv xs + (v - xs[j]?.getD 0) * 256 ^ j
  | [], j, v, h => by simp at h
  | x :: xs, 0, v, h => by simp [dv]; omega
  | x :: xs, j + 1, v, h => by
    have ih := dv_set xs j v (by simpa using h)
    simp only [List.set_cons_succ, dv, ih, List.getElem?_cons_succ, Int.pow_succ, Int.mul_add]
    rw [Int.mul_comm 256 ((v - xs[j]?.getD 0) * 256 ^ j), Int.mul_assoc]
    omega
theorem ByL.set {xs : List Int} (h : ByL xs) (k : Nat) {x : Int} (h0 : 0 ≤ x) (h1 : x < 256) : ByL (xs.set k x) := fun y hy => by
  rcases List.mem_or_eq_of_mem_set hy with hy | rfl
  · exact h y hy
  · exact ⟨h0, h1⟩
theorem ByL.zeros (n : Nat) : ByL (List.replicate n 0) := fun x hx => by
  have := (List.mem_replicate.1 hx).2
  omega
theorem ByL.rev {xs : List Int} (h : ByL xs) : ByL xs.reverse := fun x hx => h x (List.mem_reverse.1 hx)
end Go.Proofs.YtloloifngbmibaaGreatDoor
set_option linter.unusedVariables false
set_option maxRecDepth 4000
namespace Go.Proofs.YtloloifngbmibaaGreatDoor
open Go.RowKit

theorem makeSmall_any (x : Int) (w : World) :
    Calls Tryz.prog 94 #[.int .i64 x] w fun e w' => e = .returned (.agg #[.int .i64 x, .pointer none]) ∧ w.alloc (.cells #[.int .i64 x, .pointer none] 117) = w' := by
  go_enter Tryz.func94, Tryz.ntmps94
  go_wp2
  exact bodyPost_ret (v := .agg #[.int .i64 x, .pointer none]) (by simp [results, Tryz.results94, go_sem]) rfl ⟨rfl, rfl⟩

theorem makeBig_any (a : Option Addr) (w : World) :
    Calls Tryz.prog 95 #[.pointer a] w fun e w' => e = .returned (.agg #[.int .i64 0, .pointer a]) ∧ w.alloc (.cells #[.int .i64 0, .pointer a] 117) = w' := by
  go_enter Tryz.func95, Tryz.ntmps95
  go_wp2
  exact bodyPost_ret (v := .agg #[.int .i64 0, .pointer a]) (by simp [results, Tryz.results95, go_sem]) rfl ⟨rfl, rfl⟩

/-- A new int of the package. -/
def NewI (w : World) (v : Value) (neg : Bool) (xs : List Int) (w' : World) : Prop :=
  ∃ s a, v = .agg #[.int .i64 s, .pointer a] ∧ Below w.heap.size w w' ∧ BigOf w' (Nw w w') s a neg xs
theorem NewI.late {w W w' : World} {v : Value} {neg : Bool} {xs : List Int} (h : NewI W v neg xs w') (hb : Below w.heap.size w W) : NewI w v neg xs w' := by
  obtain ⟨s, a, h1, h2, h3⟩ := h
  exact ⟨s, a, h1, below_up hb h2, h3.mono (fun k hk => nw_late hb hk)⟩
/-- Its value is stored into a block that was there before. -/
theorem NewI.put {w w' : World} {s : Int} {a : Option Addr} {g : Nat} {neg : Bool} {xs : List Int} (h : NewI (w.alloc (.cells #[.int .i64 0, .pointer none] 117)) (.agg #[.int .i64 s, .pointer a]) neg xs w') (hg : g = w.heap.size) :
    NewI w (.agg #[.int .i64 s, .pointer a]) neg xs ((w'.setCell ⟨g, 0, none⟩ (.int .i64 s)).setCell ⟨g, 1, none⟩ (.pointer a)) := by
  subst hg
  obtain ⟨s', a', h1, h2, h3⟩ := h
  obtain ⟨rfl, rfl⟩ : s = s' ∧ a = a' := by simpa using h1
  have hb : Below w.heap.size w w' := below_up ((Below.refl _ _).alloc (Nat.le_refl _) _) h2
  refine ⟨_, _, rfl, (hb.setCell (Nat.le_refl _) _).setCell (Nat.le_refl _) _, ?_⟩
  have hne : ∀ k, Nw (w.alloc (.cells #[.int .i64 0, .pointer none] 117)) w' k → k ≠ w.heap.size := fun k hk => by have := hk.1; simp at this; omega
  refine (h3.keep (((Still.refl _ w').set (p := ⟨w.heap.size, 0, none⟩) hne _).set (p := ⟨w.heap.size, 1, none⟩) hne _)).mono ?_
  exact fun k hk => ⟨by have := hk.1; simp at this; omega, by simpa using hk.2⟩
theorem NewBig.of {w w' : World} {b : Nat} {neg : Bool} {xs : List Int} (h : NewBig w b neg xs w') (h1 : xs.length ≤ 4294967296) : BigOf w' (Nw w w') 0 (some ⟨b, 0, none⟩) neg xs := by
  have hb := h.big
  obtain ⟨_, _, v, hv, _⟩ := h
  exact BigOf.big w' (Nw w w') b neg xs h1 _ _ hv hb (fun k hk => hk.2)
theorem absW_len (x : Int) : (absW x).length ≤ 1 := by
  unfold absW
  split <;> simp

theorem makeInt64_any (x : Int) (h0 : -9223372036854775808 ≤ x) (h1 : x ≤ 9223372036854775807) (w : World) :
    Calls Tryz.prog 61 #[.int .i64 x] w fun e w' => ∃ v, e = .returned v ∧ NewI w v (decide (x < 0)) (absW x) w' := by
  by_cases hs : -2147483648 ≤ x ∧ x ≤ 2147483647
  · have d0 := dec_yes hs.1
    have d1 := dec_yes hs.2
    obtain ⟨g0, g1⟩ := hs
    go_enter Tryz.func61, Tryz.ntmps61
    go_wp2_with (go_at_call 94; refine (makeSmall_any _ _).mono ?_; rintro e w' ⟨rfl, rfl⟩)
    refine bodyPost_ret (v := .agg #[.int .i64 x, .pointer none]) (by simp [results, Tryz.results61, go_sem]) rfl ⟨_, rfl, _, _, rfl, ((Below.refl _ _).alloc (Nat.le_refl _) _).alloc (by simp) _, BigOf.small _ x h0 h1 _⟩
  · have key : ∀ (W : World) (b : Nat) (w1 : World), W = w.alloc (.cells #[.int .i64 0, .pointer none] 117) → NewBig W b (decide (x < 0)) (absW x) w1 →
        Blk w1 w.heap.size 117 #[.int .i64 0, .pointer none] ∧ NewI (w.alloc (.cells #[.int .i64 0, .pointer none] 117)) (.agg #[.int .i64 0, .pointer (some ⟨b, 0, none⟩)]) (decide (x < 0)) (absW x) (w1.alloc (.cells #[.int .i64 0, .pointer (some ⟨b, 0, none⟩)] 117)) := by
      rintro W b w1 rfl hb
      refine ⟨(Blk.new w 117 #[.int .i64 0, .pointer none]).below hb.1 (by simp), _, _, rfl, hb.1.alloc hb.1.size _, ?_⟩
      exact ((hb.of (Nat.le_trans (absW_len x) (by omega))).keep ((Still.refl _ _).alloc (fun k hk => hk.2) _)).mono (fun k hk => ⟨hk.1, by have := hk.2; simp; omega⟩)
    have HK := Lib.hid key
    clear key
    by_cases hl : x < -2147483648
    · have d0 := dec_no (show ¬ -2147483648 ≤ x by omega)
      clear hs
      go_enter Tryz.func61, Tryz.ntmps61
      go_wp2_with (go_at_call 96; refine (newInt_any x h0 h1 _).mono ?_; rintro e w1 ⟨b, rfl, hb⟩; obtain ⟨hrow, hfin⟩ := HK.out _ b w1 rfl hb; clear hb; have c0 := hrow.cell 0; have c1 := hrow.cell 1; have f0 := hrow.frozen 0; have f1 := hrow.frozen 1; have hlt := hrow.lt; simp at c0 c1)
      refine (makeBig_any _ _).mono ?_
      rintro e w' ⟨rfl, rfl⟩
      go_wp2
      refine bodyPost_ret (v := .agg #[.int .i64 0, .pointer (some ⟨b, 0, none⟩)]) (by simp [results, Tryz.results61, go_sem, c0, c1, hlt]) rfl ⟨_, rfl, ?_⟩
      have := hfin.put rfl
      rwa [World.setCell_alloc_past _ _ _ _ hlt, World.setCell_alloc_past _ _ _ _ (by simpa using hlt)] at this
    · have d0 := dec_yes (show -2147483648 ≤ x by omega)
      have d1 := dec_no (show ¬ x ≤ 2147483647 by omega)
      have e0 : -2147483648 ≤ x := by omega
      have e1 : ¬ x ≤ 2147483647 := by omega
      clear hs
      go_enter Tryz.func61, Tryz.ntmps61
      go_wp2_with (go_at_call 96; refine (newInt_any x h0 h1 _).mono ?_; rintro e w1 ⟨b, rfl, hb⟩; obtain ⟨hrow, hfin⟩ := HK.out _ b w1 rfl hb; clear hb; have c0 := hrow.cell 0; have c1 := hrow.cell 1; have f0 := hrow.frozen 0; have f1 := hrow.frozen 1; have hlt := hrow.lt; simp at c0 c1)
      refine (makeBig_any _ _).mono ?_
      rintro e w' ⟨rfl, rfl⟩
      go_wp2
      refine bodyPost_ret (v := .agg #[.int .i64 0, .pointer (some ⟨b, 0, none⟩)]) (by simp [results, Tryz.results61, go_sem, c0, c1, hlt]) rfl ⟨_, rfl, ?_⟩
      have := hfin.put rfl
      rwa [World.setCell_alloc_past _ _ _ _ hlt, World.setCell_alloc_past _ _ _ _ (by simpa using hlt)] at this

/-- 'new(big.Int).SetUint64(x)', behind the new. -/
theorem setU_new (x : Int) (hx : ¬ x = 0) (h0 : 0 ≤ x) (h1 : x ≤ 18446744073709551615) (W : World) (g : Nat) (hg : g = W.heap.size) :
    Calls Tryz.prog 97 #[.pointer (some ⟨g, 0, none⟩), .int .u64 x] (W.alloc (.cells #[.bool false, .slice none 0 0] 189)) fun e w' => e = .returned (.pointer (some ⟨g, 0, none⟩)) ∧ NewBig W g false (absW x) w' := by
  subst hg
  have hbn := Blk.new W 189 #[.bool false, .slice none 0 0]
  refine (setU_pos x hx h0 h1 (W.alloc (.cells #[.bool false, .slice none 0 0] 189)) W.heap.size 0 (by simp) (.bool false) (by rw [hbn.cell]; rfl) (by rw [hbn.cell]; rfl) (hbn.frozen 0) (hbn.frozen 1)).mono ?_
  rintro e w' ⟨he, rfl⟩
  refine ⟨he, (((((Below.refl _ _).alloc (Nat.le_refl _) _).setCell (Nat.le_refl _) _).setCell (Nat.le_refl _) _).alloc (by simp) _), Nat.le_refl _, _, (((hbn.set 1 _).set 0 _).alloc _), .inr ⟨W.heap.size + 1, [], by omega, by omega, ?_, ?_⟩⟩
  · have e1 : (x.natAbs : Int) = x := by omega
    simp [absW, hx]
  · have := Blk.new (((W.alloc (.cells #[.bool false, .slice none 0 0] 189)).setCell ⟨W.heap.size, 1, none⟩ (.slice (some ⟨(W.alloc (.cells #[.bool false, .slice none 0 0] 189)).heap.size, 0, none⟩) 1 1)).setCell ⟨W.heap.size, 0, none⟩ (.bool false)) 236 #[.int .u64 x]
    have e1 : (x.natAbs : Int) = x := by omega
    simpa [absW, hx, ints, e1] using this

theorem makeUint64_any (x : Int) (h0 : 0 ≤ x) (h1 : x ≤ 18446744073709551615) (w : World) :
    Calls Tryz.prog 62 #[.int .u64 x] w fun e w' => ∃ v, e = .returned v ∧ NewI w v false (absW x) w' := by
  by_cases hs : x ≤ 2147483647
  · have d0 := dec_yes hs
    go_enter Tryz.func62, Tryz.ntmps62
    go_wp2_with (go_at_call 94; refine (makeSmall_any _ _).mono ?_; rintro e w' ⟨rfl, rfl⟩)
    refine bodyPost_ret (v := .agg #[.int .i64 x, .pointer none]) (by simp [results, Tryz.results62, go_sem]) rfl ⟨_, rfl, _, _, rfl, ((Below.refl _ _).alloc (Nat.le_refl _) _).alloc (by simp) _, ?_⟩
    have := BigOf.small (Nw w ((w.alloc (.cells #[.int .i64 x, .pointer none] 117)).alloc (.cells #[.int .i64 x, .pointer none] 117))) x (by omega) (by omega) ((w.alloc (.cells #[.int .i64 x, .pointer none] 117)).alloc (.cells #[.int .i64 x, .pointer none] 117))
    rwa [dec_no (show ¬ x < 0 by omega)] at this
  · have d0 := dec_no hs
    have hx : ¬ x = 0 := by omega
    have HX := Lib.hid hx
    clear hx hs
    go_enter Tryz.func62, Tryz.ntmps62
    go_wp2_with fail
    refine (setU_new x HX.out h0 h1 _ _ (by simp)).mono ?_
    rintro e w1 ⟨rfl, hb⟩
    have hrow := (Blk.new w 117 #[.int .i64 0, .pointer none]).below hb.1 (by simp)
    have hfin : NewI (w.alloc (.cells #[.int .i64 0, .pointer none] 117)) (.agg #[.int .i64 0, .pointer (some ⟨w.heap.size + 1, 0, none⟩)]) false (absW x) (w1.alloc (.cells #[.int .i64 0, .pointer (some ⟨w.heap.size + 1, 0, none⟩)] 117)) :=
      ⟨_, _, rfl, hb.1.alloc hb.1.size _, ((hb.of (Nat.le_trans (absW_len x) (by omega))).keep ((Still.refl _ _).alloc (fun k hk => hk.2) _)).mono (fun k hk => ⟨hk.1, by have := hk.2; simp; omega⟩)⟩
    clear hb
    have c0 := hrow.cell 0
    have c1 := hrow.cell 1
    have f0 := hrow.frozen 0
    have f1 := hrow.frozen 1
    have hlt := hrow.lt
    simp at c0 c1
    go_wp2_with fail
    refine (makeBig_any _ _).mono ?_
    rintro e w' ⟨rfl, rfl⟩
    go_wp2
    refine bodyPost_ret (v := .agg #[.int .i64 0, .pointer (some ⟨w.heap.size + 1, 0, none⟩)]) (by simp [results, Tryz.results62, go_sem, c0, c1, hlt]) rfl ⟨_, rfl, ?_⟩
    have := hfin.put rfl
    rwa [World.setCell_alloc_past _ _ _ _ hlt, World.setCell_alloc_past _ _ _ _ (by simpa using hlt)] at this
end Go.Proofs.YtloloifngbmibaaGreatDoor
