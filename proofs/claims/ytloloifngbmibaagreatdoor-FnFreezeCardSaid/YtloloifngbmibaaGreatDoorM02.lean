/- The arithmetic of the division of two words by one: one digit of a schoolbook division, and a division by an inverse. No program stands here. nat.bytes: a magnitude's bytes, the highest first. Walks of the reference's integers: bytesOf, cut, Of, Small, Num, IntVal, Sign, order, Cmp. -/
import Derived.Test.YtloloifngbmibaaGreatDoorM01
set_option linter.unusedVariables false
namespace Go.Proofs.YtloloifngbmibaaGreatDoor

/-- A digit of a schoolbook division that may be too great still, with what is left of the high part. -/
structure Dig (a b yn1 yn0 q r : Nat) : Prop where
  le : (a * 4294967296 + b) / (yn1 * 4294967296 + yn0) ≤ q
  sum : q * yn1 + r = a
theorem dig_q {a b yn1 yn0 : Nat} (h0 : yn0 < 4294967296) (h1 : 2147483648 ≤ yn1) (ha : a < yn1 * 4294967296 + yn0) (hb : b < 4294967296) : (a * 4294967296 + b) / (yn1 * 4294967296 + yn0) < 4294967296 := by
  rw [Nat.div_lt_iff_lt_mul (by omega)]
  have : (a + 1) * 4294967296 ≤ (yn1 * 4294967296 + yn0) * 4294967296 := Nat.mul_le_mul_right _ ha
  rw [Nat.mul_comm 4294967296 (yn1 * 4294967296 + yn0)]
  omega
theorem dig_start {a b yn1 yn0 : Nat} (h0 : yn0 < 4294967296) (h1 : 2147483648 ≤ yn1) (ha : a < yn1 * 4294967296 + yn0) (hb : b < 4294967296) : Dig a b yn1 yn0 (a / yn1) (a % yn1) ∧ a / yn1 ≤ 4294967297 ∧ a % yn1 < yn1 := by
  have hpos : 0 < yn1 := by omega
  refine ⟨⟨?_, ?_⟩, ?_, Nat.mod_lt _ hpos⟩
  · rw [Nat.le_div_iff_mul_le hpos]
    obtain ⟨Q, hQ⟩ : ∃ Q, Q = (a * 4294967296 + b) / (yn1 * 4294967296 + yn0) := ⟨_, rfl⟩
    rw [← hQ]
    have h : Q * (yn1 * 4294967296 + yn0) ≤ a * 4294967296 + b := by
      rw [hQ]
      exact Nat.div_mul_le_self _ _
    rw [Nat.mul_add, ← Nat.mul_assoc] at h
    have : Q * yn1 * 4294967296 < (a + 1) * 4294967296 := by omega
    have := Nat.lt_of_mul_lt_mul_right this
    omega
  · rw [Nat.mul_comm]
    exact Nat.div_add_mod a yn1
  · have : a / yn1 < 4294967298 := by
      rw [Nat.div_lt_iff_lt_mul hpos]
      have e : 4294967298 * yn1 = yn1 * 4294967296 + 2 * yn1 := by omega
      omega
    omega
theorem dig_step {a b yn1 yn0 q r : Nat} (h0 : yn0 < 4294967296) (h1 : 2147483648 ≤ yn1) (ha : a < yn1 * 4294967296 + yn0) (hb : b < 4294967296) (h : Dig a b yn1 yn0 q r) (hc : 4294967296 ≤ q ∨ 4294967296 * r + b < q * yn0) : 0 < q ∧ Dig a b yn1 yn0 (q - 1) (r + yn1) := by
  have hlt : (a * 4294967296 + b) / (yn1 * 4294967296 + yn0) < q := by
    rcases hc with hc | hc
    · exact Nat.lt_of_lt_of_le (dig_q h0 h1 ha hb) hc
    · rw [Nat.div_lt_iff_lt_mul (by omega), Nat.mul_add, ← Nat.mul_assoc]
      have := h.sum
      have e : a * 4294967296 = q * yn1 * 4294967296 + r * 4294967296 := by rw [← this, Nat.add_mul]
      omega
  have hpos : 0 < q := Nat.lt_of_le_of_lt (Nat.zero_le _) hlt
  refine ⟨hpos, Nat.le_sub_one_of_lt hlt, ?_⟩
  have := h.sum
  obtain ⟨p, rfl⟩ : ∃ p, q = p + 1 := ⟨q - 1, by omega⟩
  rw [Nat.add_mul] at this
  rw [Nat.add_sub_cancel]
  omega
theorem dig_end {a b yn1 yn0 q r : Nat} (h0 : yn0 < 4294967296) (h1 : 2147483648 ≤ yn1) (h : Dig a b yn1 yn0 q r) (hc : q * yn0 ≤ 4294967296 * r + b) : q = (a * 4294967296 + b) / (yn1 * 4294967296 + yn0) := by
  have hle : q ≤ (a * 4294967296 + b) / (yn1 * 4294967296 + yn0) := by
    rw [Nat.le_div_iff_mul_le (by omega), Nat.mul_add, ← Nat.mul_assoc]
    have := h.sum
    have e : a * 4294967296 = q * yn1 * 4294967296 + r * 4294967296 := by rw [← this, Nat.add_mul]
    omega
  have := h.le
  omega
theorem dig_break {a b yn1 yn0 q r : Nat} (h0 : yn0 < 4294967296) (h1 : 2147483648 ≤ yn1) (h : Dig a b yn1 yn0 q r) (hq : q ≤ 4294967296) (hr : 4294967296 ≤ r) : q = (a * 4294967296 + b) / (yn1 * 4294967296 + yn0) := by
  refine dig_end h0 h1 h ?_
  have h2 : q * yn0 ≤ 4294967296 * yn0 := Nat.mul_le_mul_right _ hq
  have h3 : 4294967296 * yn0 ≤ 4294967296 * r := Nat.mul_le_mul_left _ (by omega)
  omega

/-- A division by an inverse: the quotient's guess is too low by at most two. V is (B*B - 1) / d. -/
theorem inv_div {d x1 x0 V : Nat} (hd : 0 < d) (hdB : d < 18446744073709551616) (hx1 : x1 < d) (hx0 : x0 < 18446744073709551616) (hV : V = (18446744073709551616 * 18446744073709551616 - 1) / d) :
    d * ((x1 * V + x0) / 18446744073709551616) ≤ x1 * 18446744073709551616 + x0 ∧ x1 * 18446744073709551616 + x0 < d * ((x1 * V + x0) / 18446744073709551616) + d + 18446744073709551616 := by
  obtain ⟨t, ht⟩ : ∃ t, t = (x1 * V + x0) / 18446744073709551616 := ⟨_, rfl⟩
  rw [← ht]
  have hV1 : d * V ≤ 340282366920938463463374607431768211455 := by
    rw [hV]
    exact Nat.mul_div_le _ _
  have hV2 : 340282366920938463463374607431768211455 < d * V + d := by
    have := Nat.lt_mul_div_succ (18446744073709551616 * 18446744073709551616 - 1) hd
    rw [← hV, Nat.mul_add] at this
    omega
  have ht1 : t * 18446744073709551616 ≤ x1 * V + x0 := by omega
  have ht2 : x1 * V + x0 < t * 18446744073709551616 + 18446744073709551616 := by omega
  have m1 : d * (t * 18446744073709551616) ≤ d * (x1 * V + x0) := Nat.mul_le_mul_left _ ht1
  have m2 : d * (x1 * V + x0 + 1) ≤ d * (t * 18446744073709551616 + 18446744073709551616) := Nat.mul_le_mul_left _ ht2
  have m3 : x1 * (d * V) ≤ x1 * 340282366920938463463374607431768211455 := Nat.mul_le_mul_left _ hV1
  have m4 : x1 * 340282366920938463463374607431768211456 ≤ x1 * (d * V + d) := Nat.mul_le_mul_left _ (by omega)
  have e1 : d * (x1 * V + x0) = x1 * (d * V) + d * x0 := by
    rw [Nat.mul_add, Nat.mul_left_comm]
  have e2 : d * (x1 * V + x0 + 1) = x1 * (d * V) + d * x0 + d := by
    rw [Nat.mul_add, e1, Nat.mul_one]
  have e3 : d * (t * 18446744073709551616) = d * t * 18446744073709551616 := by rw [Nat.mul_assoc]
  have e4 : d * (t * 18446744073709551616 + 18446744073709551616) = d * t * 18446744073709551616 + d * 18446744073709551616 := by rw [Nat.mul_add, e3]
  have e5 : x1 * (d * V + d) = x1 * (d * V) + x1 * d := by rw [Nat.mul_add]
  have m5 : d * x0 ≤ 18446744073709551615 * x0 := Nat.mul_le_mul_right _ (by omega)
  have m6 : x1 * d ≤ (d - 1) * d := Nat.mul_le_mul_right _ (by omega)
  have m7 : (d - 1) * d ≤ (d - 1) * 18446744073709551615 := Nat.mul_le_mul_left _ (by omega)
  have m8 : (18446744073709551616 - d) * x0 ≤ (18446744073709551616 - d) * 18446744073709551615 := Nat.mul_le_mul_left _ (by omega)
  have e8 : (18446744073709551616 - d) * x0 = 18446744073709551616 * x0 - d * x0 := Nat.sub_mul _ _ _
  have m9 : d * x0 ≤ 18446744073709551616 * x0 := Nat.mul_le_mul_right _ (by omega)
  obtain ⟨p1, hp1⟩ : ∃ p, p = x1 * (d * V) := ⟨_, rfl⟩
  obtain ⟨p2, hp2⟩ : ∃ p, p = d * x0 := ⟨_, rfl⟩
  obtain ⟨p3, hp3⟩ : ∃ p, p = d * t := ⟨_, rfl⟩
  obtain ⟨p4, hp4⟩ : ∃ p, p = x1 * d := ⟨_, rfl⟩
  obtain ⟨p5, hp5⟩ : ∃ p, p = (d - 1) * d := ⟨_, rfl⟩
  rw [e1, e3] at m1
  rw [e2, e4] at m2
  rw [e5] at m4
  rw [e8] at m8
  rw [← hp1, ← hp2, ← hp3] at m1 m2
  rw [← hp1] at m3
  rw [← hp1, ← hp4] at m4
  rw [← hp2] at m5 m8 m9
  rw [← hp4, ← hp5] at m6
  rw [← hp5] at m7
  rw [← hp3]
  omega
end Go.Proofs.YtloloifngbmibaaGreatDoor
set_option linter.unusedVariables false
set_option maxRecDepth 4000
namespace Go.Proofs.YtloloifngbmibaaGreatDoor
open Go.RowKit

/-- The eight bytes of a word, the highest first. -/
def be8 (x : Int) : List Int := [x / 72057594037927936 % 256, x / 281474976710656 % 256, x / 1099511627776 % 256, x / 4294967296 % 256, x / 16777216 % 256, x / 65536 % 256, x / 256 % 256, x % 256]
theorem be8_len (x : Int) : (be8 x).length = 8 := rfl
/-- The bytes of a magnitude, the highest first. -/
def beB : List Int → List Int
  | [] => []
  | x :: xs => beB xs ++ be8 x
theorem beB_len (xs : List Int) : (beB xs).length = 8 * xs.length := by
  induction xs with
  | nil => rfl
  | cons x xs ih => simp only [beB, List.length_append, ih, be8_len, List.length_cons]; omega
theorem beB_append (xs ys : List Int) : beB (xs ++ ys) = beB ys ++ beB xs := by
  induction xs with
  | nil => simp [beB]
  | cons x xs ih => simp [beB, ih]
theorem beB_take (xs : List Int) (k : Nat) (hk : k < xs.length) : beB (xs.take (k + 1)) = be8 (xs[k]?.getD 0) ++ beB (xs.take k) := by
  rw [List.take_add_one, beB_append]
  simp [hk, beB]

/-- What is left of a word behind j bytes. -/
def shb (x : Int) : Nat → Int
  | 0 => x
  | j + 1 => shb x j / 256
theorem be8_step (x : Int) (j : Nat) (hj : j < 8) : (be8 x).drop (8 - (j + 1)) = shb x j % 256 :: (be8 x).drop (8 - j) := by
  have : j = 0 ∨ j = 1 ∨ j = 2 ∨ j = 3 ∨ j = 4 ∨ j = 5 ∨ j = 6 ∨ j = 7 := by omega
  rcases this with rfl | rfl | rfl | rfl | rfl | rfl | rfl | rfl <;> simp [be8, shb] <;> omega
theorem shb_bd (x : Int) (h0 : 0 ≤ x) (h1 : x < 18446744073709551616) (j : Nat) : 0 ≤ shb x j ∧ shb x j < 18446744073709551616 := by
  induction j with
  | zero => exact ⟨h0, h1⟩
  | succ j ih => simp only [shb]; omega

/-- Leading zeros. -/
def lz : List Int → Nat
  | [] => 0
  | x :: xs => if x = 0 then lz xs + 1 else 0
theorem lz_le (l : List Int) : lz l ≤ l.length := by
  induction l with
  | nil => simp [lz]
  | cons x xs ih => simp only [lz, List.length_cons]; split <;> omega
/-- A search for the first that is no zero has come to k. -/
def Lzat (l : List Int) (k : Nat) : Prop := k + lz (l.drop k) = lz l
theorem lzat0 (l : List Int) : Lzat l 0 := by simp [Lzat]
theorem lzat_lt (l : List Int) (k : Nat) (h : Lzat l k) : k ≤ l.length := by
  have := lz_le l
  unfold Lzat at h
  omega
theorem lzat_succ (l : List Int) (k : Nat) (hk : k < l.length) (h : Lzat l k) (hz : l[k]?.getD 0 = 0) : Lzat l (k + 1) := by
  unfold Lzat at h ⊢
  rw [List.drop_eq_getElem_cons hk] at h
  have e : l[k] = 0 := by simpa [hk] using hz
  simp only [lz, e, if_true] at h
  omega
theorem lzat_end (l : List Int) (k : Nat) (h : Lzat l k) (he : k < l.length → ¬ l[k]?.getD 0 = 0) (hk : k ≤ l.length) : k = lz l := by
  unfold Lzat at h
  by_cases hlt : k < l.length
  · have hz := he hlt
    rw [List.drop_eq_getElem_cons hlt] at h
    have e : ¬ l[k] = 0 := by simpa [hlt] using hz
    simp only [lz, e, if_false] at h
    omega
  · rw [List.drop_eq_nil_of_le (by omega)] at h
    simpa [lz] using h

/-- Only block g has turned, and new blocks have come. -/
theorem only_set {a w : World} {g : Nat} (h : a.grownBy w (some g)) (i : Nat) (u : Value) : a.grownBy (w.setCell ⟨g, i, none⟩ u) (some g) :=
  ⟨h.os, h.tape, h.output, by simpa [World.setCell] using h.size, fun j hj hne => (Below.heap_setCell w ⟨g, i, none⟩ u j (by rintro rfl; exact hne rfl)).trans (h.block j hj hne)⟩

theorem bytes_any (S : Nat → Prop) (A : Option Addr) (c g : Nat) (xs cur : List Int) (hn : xs.length ≤ 268435456) (hx : ∀ x ∈ xs, 0 ≤ x ∧ x < 18446744073709551616) (w : World) (hr : Rd w S A (ints .u64 xs)) (hS : ∀ k, S k → k ≠ g)
    (hcur : cur.length = 8 * xs.length) (hg : Blk w g 5 (ints .u8 cur).toArray) :
    Calls Tryz.prog 115 #[.slice A xs.length c, .slice (some ⟨g, 0, none⟩) (8 * xs.length) (8 * xs.length)] w fun e w' =>
      e = .returned (.int .i64 (lz (beB xs))) ∧ Blk w' g 5 (ints .u8 (beB xs)).toArray ∧ w.grownBy w' (some g) := by
  obtain ⟨n, hn'⟩ : ∃ n, n = xs.length := ⟨_, rfl⟩
  rw [← hn'] at hcur hn ⊢
  have HR := Lib.hid hr
  have HX := Lib.hid hx
  have HS := Lib.hid hS
  have HN := Lib.hid hn'
  have HC := Lib.hid hcur
  clear hr hx hS hn' hcur
  go_enter Tryz.func115, Tryz.ntmps115
  go_wp2
  go_loopw [4, 12] (fun i k wr => ∃ (q : Nat) (cr : List Int), q ≤ n ∧ k = .int .i64 q ∧ i = .int .i64 ((8 * (n - q) : Nat) : Int) ∧ Hid (cr.length = 8 * n) ∧ Hid (cr.drop (8 * (n - q)) = beB (xs.take q)) ∧ Blk wr g 5 (ints .u8 cr).toArray ∧ w.grownBy wr (some g)) (fun _ k _ => n - (intOf k).toNat)
  case atStart => exact ⟨0, cur, Nat.zero_le _, rfl, by simp, HC, by show _ = _; rw [Nat.sub_zero, List.drop_eq_nil_of_le (by rw [HC.out]; exact Nat.le_refl _)]; simp [beB], hg, World.grownBy.refl _ _⟩
  case round =>
    obtain ⟨q, cr, hq, rfl, rfl, hcl, hcd, hb, hgr⟩ := hrel
    by_cases hlt : q < n
    · obtain ⟨b, o, e, hSb, hc⟩ := rd_int HR.out (j := q) (by rw [← HN.out]; exact hlt)
      cases e
      have hcell := hgr.cell hc (by have := HS.out b hSb; simpa using this)
      obtain ⟨x, hx⟩ : ∃ x, x = xs[q]?.getD 0 := ⟨_, rfl⟩
      rw [← hx] at hcell
      have hxb : 0 ≤ x ∧ x < 18446744073709551616 := by
        have hq' : q < xs.length := by rw [← HN.out]; exact hlt
        have := HX.out xs[q] (List.getElem_mem hq')
        rw [hx]
        simpa [hq'] using this
      have HXE := Lib.hid hx
      have HXB := Lib.hid hxb
      clear hx hxb hc
      obtain ⟨wo, rfl⟩ : ∃ wo : World, wo = wr := ⟨_, rfl⟩
      go_wp2
      go_loopw [4, 6, 7] (fun i d j wp => ∃ (p : Nat) (cp : List Int), p ≤ 8 ∧ j = .int .i64 p ∧ i = .int .i64 ((8 * (n - q) - p : Nat) : Int) ∧ d = .int .u64 (shb x p) ∧ Hid (cp.length = 8 * n) ∧ Hid (cp.drop (8 * (n - q) - p) = (be8 x).drop (8 - p) ++ beB (xs.take q)) ∧ Blk wp g 5 (ints .u8 cp).toArray ∧ w.grownBy wp (some g)) (fun _ _ j _ => 8 - (intOf j).toNat)
      case atStart => exact ⟨0, cr, by omega, rfl, by simp, rfl, hcl, by show _ = _; rw [Nat.sub_zero, hcd.out]; simp [be8], hb, hgr⟩
      case round =>
        obtain ⟨p, cp, hp, rfl, rfl, rfl, hcpl, hcpd, hbp, hgp⟩ := hrel
        by_cases hp8 : p < 8
        · have hbd := shb_bd x HXB.out.1 HXB.out.2 p
          have hi : 8 * (n - q) - p - 1 < cp.length := by rw [hcpl.out]; omega
          have f0 := hbp.frozen (8 * (n - q) - p - 1)
          have c0 := (hbp.cell (8 * (n - q) - p - 1)).trans (show _ = some (Value.int .u8 (cp[8 * (n - q) - p - 1]'hi)) by simp [ints, hi])
          go_wp2
          go_roundw
          case rel =>
            refine ⟨p + 1, cp.set (8 * (n - q) - p - 1) (shb x p % 256), by omega, by go_num, ?_, ?_, ?_, ?_, ?_, only_set hgp _ _⟩
            · go_num
            · rfl
            · show _ = _
              rw [List.length_set]
              exact hcpl.out
            · show _ = _
              have e1 : 8 * (n - q) - (p + 1) = 8 * (n - q) - p - 1 := by omega
              rw [e1, be8_step x p hp8, List.cons_append, ← hcpd.out]
              rw [List.drop_eq_getElem_cons (by rw [List.length_set]; exact hi), List.getElem_set_self, List.drop_set_of_lt (by omega)]
              congr 2
              omega
            · have := hbp.set (8 * (n - q) - p - 1) (.int .u8 (shb x p % 256))
              simpa [ints, List.map_set] using this
          case measure => simp [intOf]; omega
        · obtain rfl : p = 8 := by omega
          go_wp2
          go_roundw
          case rel =>
            refine ⟨q + 1, cp, by omega, by go_num, by go_num, hcpl, ?_, hbp, hgp⟩
            show _ = _
            have e1 : 8 * (n - (q + 1)) = 8 * (n - q) - 8 := by omega
            rw [e1, hcpd.out, beB_take xs q (by rw [← HN.out]; exact hlt), ← HXE.out]
            rfl
          case measure => simp [intOf]; omega
    · obtain rfl : q = n := by omega
      have hcr : cr = beB xs := by
        have := hcd.out
        rw [Nat.sub_self, Nat.mul_zero, List.drop_zero, HN.out, List.take_length] at this
        exact this
      subst hcr
      have hl : (beB xs).length = 8 * q := hcl.out
      have HL := Lib.hid hl
      have hz : 8 * (q - q) = 0 := by omega
      clear hl
      go_wp2
      go_loop [4] (fun i => ∃ k : Nat, k ≤ 8 * q ∧ i = .int .i64 k ∧ Hid (Lzat (beB xs) k)) (fun i => 8 * q - (intOf i).toNat)
      case atStart => exact ⟨0, Nat.zero_le _, by simp, lzat0 _⟩
      case round =>
        obtain ⟨k, hk, rfl, hz⟩ := hrel
        by_cases hk8 : k < 8 * q
        · have hi : k < (beB xs).length := by rw [HL.out]; exact hk8
          have c0 := (hb.cell k).trans (show _ = some (Value.int .u8 ((beB xs)[k]?.getD 0)) by simp [ints, hi])
          obtain ⟨y, hy⟩ : ∃ y, y = (beB xs)[k]?.getD 0 := ⟨_, rfl⟩
          rw [← hy] at c0
          have HY := Lib.hid hy
          clear hy
          by_cases hy0 : y = 0
          · subst hy0
            go_wp2
            go_round
            case rel => exact ⟨k + 1, by omega, by go_num, lzat_succ _ _ hi hz.out HY.out.symm⟩
            case measure => simp [intOf]; omega
          · have hy1 := beq_no hy0
            clear hy0
            go_wp2
            go_ret
            refine ⟨?_, hb, hgr⟩
            rw [lzat_end _ k hz.out (fun _ h => by rw [← HY.out] at h; simp [h] at hy1) (by omega)]
            rfl
        · go_wp2
          go_ret
          refine ⟨?_, hb, hgr⟩
          rw [lzat_end _ k hz.out (fun h => absurd h (by rw [HL.out]; exact hk8)) (by rw [HL.out]; exact hk)]
          rfl
end Go.Proofs.YtloloifngbmibaaGreatDoor
set_option linter.unusedVariables false
set_option maxRecDepth 4000
namespace Go.Proofs.YtloloifngbmibaaGreatDoor
open Go.RowKit

theorem info_u8 : (Tryz.prog.info? 5).map (fun i => (i.zero, i.size, i.bytes)) = some (some (.int .u8 0), 1, 1) := by kernel_rfl
/-- Without leading zeros. -/
def strip (l : List Int) : List Int := l.drop (lz l)

theorem cut_done {w w0 w2 : World} {v : Value} {l : List Int} {n : Nat} {row : Option Nat} (hb : Below w.heap.size w w0) (ho : w2.ownsRow w0.heap.size 5 1 v n (ints .u8 l)) (hg : (w0.alloc (.cells #[] 5)).grownBy w2 row) (hr : row = none ∨ row = some w0.heap.size) :
    SlV w2 (Nw w w2) .u8 v l ∧ Below w.heap.size w w2 := by
  refine ⟨(own_sl ho).mono (fun k hk => ⟨Nat.le_trans hb.size hk.1, hk.2⟩), (hb.alloc hb.size _).grown hg (by have := hb.size; simp; omega) (fun k hk => ?_)⟩
  rcases hr with rfl | rfl
  · cases hk
  · injection hk with hk
    have := hb.size
    omega

theorem cut_pos (S : Nat → Prop) (b o c : Nat) (l : List Int) (h0 : 0 < l.length) (hc : l.length ≤ c) (hn : l.length ≤ 140737488355328) (w : World) (hS : S b) (hcl : ∀ j, j < l.length → w.cell? ⟨b, o + j, none⟩ = some (.int .u8 (l[j]?.getD 0))) :
    Calls Tryz.prog 52 #[.slice (some ⟨b, o, none⟩) l.length c] w fun e w' => ∃ v, e = .returned v ∧ SlV w' (Nw w w') .u8 v (strip l) ∧ Below w.heap.size w w' := by
  obtain ⟨n, hn'⟩ : ∃ n, n = l.length := ⟨_, rfl⟩
  rw [← hn'] at h0 hc hn ⊢
  have HN := Lib.hid hn'
  have HC := Lib.hid hcl
  clear hn' hcl
  go_enter Tryz.func52, Tryz.ntmps52
  go_wp2
  go_loop [3] (fun i => ∃ k : Nat, k ≤ n ∧ i = .int .i64 k ∧ Hid (Lzat l k)) (fun i => n - (intOf i).toNat)
  case atStart => exact ⟨0, Nat.zero_le _, rfl, lzat0 _⟩
  case round =>
    obtain ⟨k, hk, rfl, hz⟩ := hrel
    by_cases hrun : k < n ∧ l[k]?.getD 0 = 0
    · obtain ⟨hk8, hy0⟩ := hrun
      have c0 := HC.out k (by rw [← HN.out]; exact hk8)
      rw [hy0] at c0
      have HY := Lib.hid hy0
      clear hy0
      go_wp2
      go_round
      case rel => exact ⟨k + 1, by omega, by go_num, lzat_succ _ _ (by rw [← HN.out]; exact hk8) hz.out HY.out⟩
      case measure => simp [intOf]; omega
    · have hkz : k = lz l := lzat_end _ k hz.out (fun h h' => hrun ⟨by rw [HN.out]; exact h, h'⟩) (by rw [← HN.out]; exact hk)
      have HL : Hid ((ints .u8 (strip l)).length = (n - k) * 1) := by
        show _ = _
        rw [ints_length, strip, List.length_drop, ← hkz, ← HN.out, Nat.mul_one]
      have HR : Hid (∀ (ob : Obj) (A : Option Addr), (A = some ⟨b, o + k, none⟩ ∨ n = k) → Rd (w.alloc ob) (fun j => j = b) A (ints .u8 (strip l))) := by
        intro ob A hA hp
        have hlt : k < n := by
          have := HL.out
          omega
        rcases hA with rfl | hA
        · refine ⟨b, o + k, rfl, rfl, fun j u hu => ?_⟩
          have hj : j < (strip l).length := by
            have := (List.getElem?_eq_some_iff.1 hu).1
            rwa [ints_length] at this
          have hj2 : k + j < l.length := by
            have := hj
            rw [strip, List.length_drop, ← hkz] at this
            omega
          have hcell := HC.out (k + j) hj2
          have hb : b < w.heap.size := World.block_lt_of_cell? w _ hcell
          rw [World.cell?_alloc_lt w ob ⟨b, o + k + j, none⟩ hb, Nat.add_assoc, hcell, ← hu, ints_get _ _ j hj, strip, List.getElem?_drop, ← hkz]
        · omega
      have HO : Hid ((w.alloc (.cells #[] 5)).ownsRow w.heap.size 5 1 (.slice (some ⟨w.heap.size, 0, none⟩) 0 0) 0 []) := World.ownsRow_made w #[] 0 (Nat.le_refl _) (by unfold maxLen; omega) (by simp)
      have hend : (k < n ∧ (l[k]?.getD 0 == 0) = false) ∨ k = n := by
        by_cases h : k < n
        · exact .inl ⟨h, beq_no (fun h' => hrun ⟨h, h'⟩)⟩
        · exact .inr (by omega)
      clear hrun hkz hz
      rcases hend with ⟨hk8, hy1⟩ | rfl
      · have c0 := HC.out k (by rw [← HN.out]; exact hk8)
        obtain ⟨y, hy⟩ : ∃ y, y = l[k]?.getD 0 := ⟨_, rfl⟩
        rw [← hy] at c0 hy1
        clear hy
        have hkc : ¬ c = k := by omega
        go_wp2_with (at_builtin; refine wpList_append_rd _ rfl _ _ 22 rfl w.heap.size 5 (.int .u8 0) 1 1 Tryz.underlying22 info_u8 rfl (by decide) (.slice (some ⟨w.heap.size, 0, none⟩) 0 0) 0 [] rfl HO.out (fun j => j = b) _ (n - k) _ (ints .u8 (strip l)) rfl HL.out (by exact HR.out _ _ (.inl rfl)) (ints_one _ _) (by unfold maxLen; omega) (by omega) (by simp) ?_; intro v2 w2 ho hg hrow)
        rw [Nat.zero_add, List.nil_append] at ho
        have hd := cut_done (Below.refl _ w) ho hg (by simp [Value.ownBlock])
        clear ho hg hrow
        go_ret
        exact ⟨_, rfl, hd⟩
      · have hs0 : strip l = [] := by
          have := HL.out
          rw [ints_length, Nat.sub_self] at this
          exact List.eq_nil_of_length_eq_zero (by omega)
        have H0 := Lib.hid hs0
        clear HL HR HO hs0
        go_wp2
        all_goals
          go_ret
          exact ⟨_, rfl, by rw [H0.out]; exact ⟨_, _, rfl, Nat.le_refl _, Rd.nil _ _ _⟩, (Below.refl _ _).alloc (Nat.le_refl _) _⟩

theorem cut_zero (A : Option Addr) (c : Nat) (w : World) :
    Calls Tryz.prog 52 #[.slice A 0 c] w fun e w' => ∃ v, e = .returned v ∧ SlV w' (Nw w w') .u8 v [] ∧ Below w.heap.size w w' := by
  cases A with
  | none =>
    go_enter Tryz.func52, Tryz.ntmps52
    go_wp2
    go_loop [3] (fun i => i = .int .i64 0) (fun i => 0)
    case atStart => rfl
    case round =>
      subst hrel
      go_wp2
      all_goals
        go_ret
        exact ⟨_, rfl, ⟨_, _, rfl, Nat.le_refl _, Rd.nil _ _ _⟩, (Below.refl _ _).alloc (Nat.le_refl _) _⟩
  | some ad =>
    go_enter Tryz.func52, Tryz.ntmps52
    go_wp2
    go_loop [3] (fun i => i = .int .i64 0) (fun i => 0)
    case atStart => rfl
    case round =>
      subst hrel
      go_wp2
      all_goals
        go_ret
        exact ⟨_, rfl, ⟨_, _, rfl, Nat.le_refl _, Rd.nil _ _ _⟩, (Below.refl _ _).alloc (Nat.le_refl _) _⟩

theorem cut_any (S : Nat → Prop) (v : Value) (l : List Int) (hn : l.length ≤ 140737488355328) (w : World) (h : SlV w S .u8 v l) :
    Calls Tryz.prog 52 #[v] w fun e w' => ∃ v, e = .returned v ∧ SlV w' (Nw w w') .u8 v (strip l) ∧ Below w.heap.size w w' := by
  obtain ⟨A, c, rfl, hlc, hr⟩ := h
  by_cases h0 : 0 < l.length
  · obtain ⟨b, o, rfl, hS, hc⟩ := hr (by rwa [ints_length])
    exact cut_pos S b o c l h0 hlc hn w hS (fun j hj => hc j _ (ints_get _ _ j hj))
  · have : l = [] := List.eq_nil_of_length_eq_zero (by omega)
    subst this
    exact cut_zero A c w

/-- An integer of the reference. -/
def SpI (w : World) (S : Nat → Prop) (v : Value) (neg : Bool) (mag : List Int) : Prop := ∃ mv, v = .agg #[.bool neg, mv] ∧ SlV w S .u8 mv mag
theorem SpI.keep {w w' : World} {S : Nat → Prop} {v : Value} {neg : Bool} {mag : List Int} (h : SpI w S v neg mag) (hk : Still S w w') : SpI w' S v neg mag := by
  obtain ⟨mv, h1, h2⟩ := h
  exact ⟨mv, h1, h2.keep hk⟩
theorem SpI.mono {w : World} {S S' : Nat → Prop} {v : Value} {neg : Bool} {mag : List Int} (h : SpI w S v neg mag) (hs : ∀ k, S k → S' k) : SpI w S' v neg mag := by
  obtain ⟨mv, h1, h2⟩ := h
  exact ⟨mv, h1, h2.mono hs⟩

/-- The sign that an integer of the reference bears. -/
def sgn2 (neg : Bool) (l : List Int) : Bool := neg && decide (0 < l.length)

theorem of_any (S : Nat → Prop) (neg : Bool) (v : Value) (l : List Int) (hn : l.length ≤ 140737488355328) (w : World) (h : SlV w S .u8 v l) (hS : ∀ k, S k → k < w.heap.size) :
    Calls Tryz.prog 23 #[.bool neg, v] w fun e w' => ∃ v', e = .returned v' ∧ SpI w' (Nw w w') v' (sgn2 neg (strip l)) (strip l) ∧ Below w.heap.size w w' := by
  have HC : Hid (∀ W : World, Below w.heap.size w W → Calls Tryz.prog 52 #[v] W fun e w' => ∃ v, e = .returned v ∧ SlV w' (Nw W w') .u8 v (strip l) ∧ Below W.heap.size W w') :=
    fun W hW => cut_any S v l hn W (h.keep (still_below hW hS))
  obtain ⟨A0, c0, hv0, _⟩ := h
  subst hv0
  clear hS
  cases neg
  all_goals
    go_enter Tryz.func23, Tryz.ntmps23
    go_wp2_with fail
    refine (HC.out _ ((Below.refl _ _).alloc (Nat.le_refl _) _)).mono ?_
    rintro e w1 ⟨mv, rfl, hv, hb⟩
    have hrow := (Blk.new w 32 #[.bool false, .slice none 0 0]).below hb (by simp)
    obtain ⟨A, c, rfl, hlc, hr⟩ := hv
    have c0 := hrow.cell 0
    have c1 := hrow.cell 1
    have f0 := hrow.frozen 0
    have f1 := hrow.frozen 1
    have hlt := hrow.lt
    simp at c0 c1
    go_wp2
    refine bodyPost_ret (v := .agg #[.bool (sgn2 _ (strip l)), .slice A (strip l).length c]) (by simp [results, Tryz.results23, go_sem, c0, c1, sgn2]) rfl ⟨_, rfl, ⟨_, rfl, ?_⟩, ?_⟩
    · have hne : ∀ k, Nw (w.alloc (.cells #[.bool false, .slice none 0 0] 32)) w1 k → k ≠ w.heap.size := fun k hk => by have := hk.1; simp at this; omega
      exact sl_done hr hlc rfl (((Still.refl _ _).set (p := ⟨w.heap.size, 0, none⟩) hne _).set (p := ⟨w.heap.size, 1, none⟩) hne _) (fun k hk => ⟨by have := hk.1; simp at this; omega, by simpa using hk.2⟩)
    · exact (((below_up ((Below.refl _ _).alloc (Nat.le_refl _) _) hb).setCell (Nat.le_refl _) _).setCell (Nat.le_refl _) _)

/-- It is stored into a block that was there before it was made. -/
theorem SpI.put {w W w1 : World} {v : Value} {neg : Bool} {mag : List Int} {g : Nat} {u0 u1 : Value} (h : SpI w1 (Nw W w1) v neg mag) (hg : g < W.heap.size) (hw : w.heap.size ≤ W.heap.size) :
    SpI ((w1.setCell ⟨g, 0, none⟩ u0).setCell ⟨g, 1, none⟩ u1) (Nw w ((w1.setCell ⟨g, 0, none⟩ u0).setCell ⟨g, 1, none⟩ u1)) v neg mag := by
  have hne : ∀ k, Nw W w1 k → k ≠ g := fun k hk => by have := hk.1; omega
  exact (h.keep (((Still.refl _ _).set (p := ⟨g, 0, none⟩) hne _).set (p := ⟨g, 1, none⟩) hne _)).mono (fun k hk => ⟨Nat.le_trans hw hk.1, by simpa using hk.2⟩)

theorem num_any (S : Nat → Prop) (k : Int) (neg : Bool) (v : Value) (l : List Int) (bits : Int) (s : ByteArray) (kv : Value) (hk1 : kv.oneCell' = true) (hn : l.length ≤ 140737488355328) (w : World) (h : SlV w S .u8 v l) (hS : ∀ k, S k → k < w.heap.size) :
    Calls Tryz.prog 11 #[.agg #[.int .i64 k, .bool neg, v, .int .u64 bits, .string s, kv]] w fun e w' => ∃ v', e = .returned v' ∧ SpI w' (Nw w w') v' (sgn2 neg (strip l)) (strip l) ∧ Below w.heap.size w w' := by
  have HC : Hid (∀ W : World, Below w.heap.size w W → Calls Tryz.prog 23 #[.bool neg, v] W fun e w' => ∃ v', e = .returned v' ∧ SpI w' (Nw W w') v' (sgn2 neg (strip l)) (strip l) ∧ Below W.heap.size W w') :=
    fun W hW => of_any S neg v l hn W (h.keep (still_below hW hS)) (fun k hk => Nat.lt_of_lt_of_le (hS k hk) hW.size)
  obtain ⟨A0, c0, hv0, _⟩ := h
  subst hv0
  clear hS
  go_enter Tryz.func11, Tryz.ntmps11
  go_wp2_with fail
  refine (HC.out _ (((Below.refl _ _).alloc (Nat.le_refl _) _).alloc (by simp) _)).mono ?_
  rintro e w1 ⟨v', rfl, hv, hb⟩
  obtain ⟨mv, rfl, hmv⟩ := id hv
  obtain ⟨A, c, rfl, hlc, hr⟩ := hmv
  have hrow := (Blk.new (w.alloc (.cells #[.int .i64 k, .bool neg, .slice A0 l.length c0, .int .u64 bits, .string s, kv] 26)) 32 #[.bool false, .slice none 0 0]).below hb (by simp)
  rw [show (w.alloc (.cells #[.int .i64 k, .bool neg, .slice A0 l.length c0, .int .u64 bits, .string s, kv] 26)).heap.size = w.heap.size + 1 by simp] at hrow
  have c0 := hrow.cell 0
  have c1 := hrow.cell 1
  have f0 := hrow.frozen 0
  have f1 := hrow.frozen 1
  have hlt := hrow.lt
  simp at c0 c1
  have hfin := hv.put (w := w) (g := w.heap.size + 1) (u0 := .bool (sgn2 neg (strip l))) (u1 := .slice A (strip l).length c) (by simp) (by simp; omega)
  have hbe := below_up (((Below.refl _ _).alloc (Nat.le_refl _) _).alloc (by simp) _) hb
  clear hv hr HC hb
  go_wp2
  exact bodyPost_ret (v := .agg #[.bool (sgn2 neg (strip l)), .slice A (strip l).length c]) (by simp [results, Tryz.results11, go_sem, c0, c1]) rfl ⟨_, rfl, hfin, (hbe.setCell (by simp) _).setCell (by simp) _⟩

theorem zero_any (neg : Bool) (A : Option Addr) (n c : Nat) (w : World) :
    Calls Tryz.prog 53 #[.agg #[.bool neg, .slice A n c]] w fun e w' => e = .returned (.bool (decide (n = 0))) ∧ ∃ o, w.alloc o = w' := by
  by_cases hn : n = 0
  · subst hn
    go_enter Tryz.func53, Tryz.ntmps53
    go_wp2
    go_ret
    exact ⟨rfl, _, rfl⟩
  · have h0 : ((n : Int) == 0) = false := beq_no (by omega)
    have h1 := dec_no hn
    rw [h1]
    clear h1
    go_enter Tryz.func53, Tryz.ntmps53
    go_wp2
    go_ret
    exact ⟨rfl, _, rfl⟩

/-- The sign of an integer of the reference. -/
def sgI (neg : Bool) (n : Nat) : Int := if n = 0 then 0 else if neg then -1 else 1

theorem spSign_any (neg : Bool) (A : Option Addr) (n c : Nat) (w : World) :
    Calls Tryz.prog 25 #[.agg #[.bool neg, .slice A n c]] w fun e w' => e = .returned (.int .i64 (sgI neg n)) ∧ Below w.heap.size w w' := by
  by_cases hn : n = 0
  · have hd := dec_yes hn
    have hs : sgI neg n = 0 := by simp [sgI, hn]
    rw [hs]
    clear hs
    go_enter Tryz.func25, Tryz.ntmps25
    go_wp2_with (go_at_call 53; refine (zero_any _ _ _ _ _).mono ?_; rintro e w' ⟨rfl, o, rfl⟩)
    go_ret
    exact ⟨rfl, ((Below.refl _ _).alloc (Nat.le_refl _) _).alloc (by simp) _⟩
  · have hd := dec_no hn
    cases neg
    all_goals
      have hs : ∀ b, sgI b n = if b then -1 else 1 := fun b => by simp [sgI, hn]
      rw [hs]
      clear hs
      go_enter Tryz.func25, Tryz.ntmps25
      go_wp2_with (go_at_call 53; refine (zero_any _ _ _ _ _).mono ?_; rintro e w' ⟨rfl, o, rfl⟩)
      go_ret
      exact ⟨rfl, ((Below.refl _ _).alloc (Nat.le_refl _) _).alloc (by simp) _⟩
end Go.Proofs.YtloloifngbmibaaGreatDoor
