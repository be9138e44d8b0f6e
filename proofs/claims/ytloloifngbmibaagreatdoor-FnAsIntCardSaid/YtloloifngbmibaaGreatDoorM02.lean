/- Numbers in words of 64 bits, the lowest first: what they are worth, when they have no zeros ahead, that a number has one such form. No program stands here. The arithmetic of the division of two words by one: one digit of a schoolbook division, and a division by an inverse. No program stands here. nat.bytes: a magnitude's bytes, the highest first. -/
import Derived.Test.YtloloifngbmibaaGreatDoorM01
set_option linter.unusedVariables false
namespace Go.Proofs.YtloloifngbmibaaGreatDoor

/-- Words, the lowest first. -/
def nv : List Int → Int
  | [] => 0
  | x :: xs => x + 18446744073709551616 * nv xs
def WL (xs : List Int) : Prop := ∀ x ∈ xs, 0 ≤ x ∧ x < 18446744073709551616
theorem WL.nil : WL [] := fun x hx => by cases hx
theorem WL.cons {x : Int} {xs : List Int} : WL (x :: xs) ↔ (0 ≤ x ∧ x < 18446744073709551616) ∧ WL xs := by
  constructor
  · intro h
    exact ⟨h x (by simp), fun y hy => h y (by simp [hy])⟩
  · rintro ⟨h1, h2⟩ y hy
    rcases List.mem_cons.1 hy with rfl | hy
    · exact h1
    · exact h2 y hy
theorem WL.one {x : Int} (h0 : 0 ≤ x) (h1 : x < 18446744073709551616) : WL [x] := WL.cons.2 ⟨⟨h0, h1⟩, WL.nil⟩
theorem WL.app {xs ys : List Int} (h : WL xs) (h' : WL ys) : WL (xs ++ ys) := fun x hx => by
  rcases List.mem_append.1 hx with hx | hx
  · exact h x hx
  · exact h' x hx
theorem WL.take {xs : List Int} (h : WL xs) (n : Nat) : WL (xs.take n) := fun x hx => h x (List.mem_of_mem_take hx)
theorem WL.drop {xs : List Int} (h : WL xs) (n : Nat) : WL (xs.drop n) := fun x hx => h x (List.mem_of_mem_drop hx)
theorem WL.at_ {xs : List Int} (h : WL xs) (k : Nat) : 0 ≤ xs[k]?.getD 0 ∧ xs[k]?.getD 0 < 18446744073709551616 := by
  cases hk : xs[k]? with
  | none => simp
  | some x => simpa using h x (List.mem_of_getElem? hk)
theorem WL.zeros (n : Nat) : WL (List.replicate n 0) := fun x hx => by
  have := (List.mem_replicate.1 hx).2
  omega
theorem WL.set {xs : List Int} (h : WL xs) (k : Nat) {x : Int} (h0 : 0 ≤ x) (h1 : x < 18446744073709551616) : WL (xs.set k x) := fun y hy => by
  rcases List.mem_or_eq_of_mem_set hy with hy | rfl
  · exact h y hy
  · exact ⟨h0, h1⟩
theorem nv_nonneg : ∀ {xs : List Int}, WL xs → 0 ≤ nv xs
  | [], _ => Int.le_refl _
  | x :: xs, h => by
    have h1 := (WL.cons.1 h).1
    have h2 := nv_nonneg (WL.cons.1 h).2
    simp only [nv]
    omega
theorem nv_zeros : ∀ (n : Nat), nv (List.replicate n 0) = 0
  | 0 => rfl
  | n + 1 => by simp [List.replicate_succ, nv, nv_zeros n]

/-- No zero stands at the high end. -/
def Nrm : List Int → Prop
  | [] => True
  | [x] => ¬ x = 0
  | _ :: y :: ys => Nrm (y :: ys)
theorem Nrm.tail : ∀ {x : Int} {xs : List Int}, Nrm (x :: xs) → Nrm xs
  | _, [], _ => trivial
  | _, _ :: _, h => h
theorem nrm_zero : ∀ {xs : List Int}, WL xs → Nrm xs → nv xs = 0 → xs = []
  | [], _, _, _ => rfl
  | [x], h, hn, hv => by
    have hn' : ¬ x = 0 := hn
    simp only [nv] at hv
    omega
  | x :: y :: ys, h, hn, hv => by
    have h1 := (WL.cons.1 h).1
    have h2 := nv_nonneg (WL.cons.1 h).2
    have hz : nv (y :: ys) = 0 := by
      have : nv (x :: y :: ys) = x + 18446744073709551616 * nv (y :: ys) := rfl
      omega
    have := nrm_zero (WL.cons.1 h).2 hn hz
    cases this
/-- A number has one such form. -/
theorem nv_inj : ∀ {xs ys : List Int}, WL xs → WL ys → Nrm xs → Nrm ys → nv xs = nv ys → xs = ys
  | [], ys, _, hy, _, hny, h => (nrm_zero hy hny h.symm).symm
  | x :: xs, [], hx, _, hnx, _, h => nrm_zero hx hnx h
  | x :: xs, y :: ys, hx, hy, hnx, hny, h => by
    have h1 := (WL.cons.1 hx).1
    have h2 := (WL.cons.1 hy).1
    simp only [nv] at h
    have e1 : x = y := by omega
    have e2 : nv xs = nv ys := by omega
    rw [e1, nv_inj (WL.cons.1 hx).2 (WL.cons.1 hy).2 hnx.tail hny.tail e2]

/-- Without the zeros at the high end. -/
def nrm : List Int → List Int
  | [] => []
  | x :: xs => if x = 0 ∧ nrm xs = [] then [] else x :: nrm xs
theorem nv_nrm : ∀ (xs : List Int), nv (nrm xs) = nv xs
  | [] => rfl
  | x :: xs => by
    have ih := nv_nrm xs
    simp only [nrm]
    split
    · rename_i h
      rw [h.2] at ih
      simp only [nv] at ih ⊢
      omega
    · simp only [nv]
      omega
theorem nrm_nrm : ∀ (xs : List Int), Nrm (nrm xs)
  | [] => trivial
  | x :: xs => by
    have ih := nrm_nrm xs
    simp only [nrm]
    split
    · trivial
    · rename_i h
      cases hn : nrm xs with
      | nil =>
        intro hx
        exact h ⟨hx, hn⟩
      | cons y ys =>
        rw [hn] at ih
        exact ih
theorem nrm_of : ∀ {xs : List Int}, Nrm xs → nrm xs = xs
  | [], _ => rfl
  | [x], h => by
    have : ¬ x = 0 := h
    simp [nrm, this]
  | x :: y :: ys, h => by
    have ih := nrm_of (xs := y :: ys) h
    have e : nrm (x :: y :: ys) = if x = 0 ∧ nrm (y :: ys) = [] then [] else x :: nrm (y :: ys) := rfl
    rw [e, ih]
    simp
theorem nrm_snoc0 : ∀ (xs : List Int), nrm (xs ++ [0]) = nrm xs
  | [] => by simp [nrm]
  | x :: xs => by
    have ih := nrm_snoc0 xs
    simp only [List.cons_append, nrm, ih]
theorem nrm_snoc : ∀ (xs : List Int) {x : Int}, ¬ x = 0 → Nrm (xs ++ [x])
  | [], _, h => h
  | [y], _, h => h
  | y :: z :: ys, x, h => nrm_snoc (z :: ys) h
theorem nrm_le (xs : List Int) : (nrm xs).length ≤ xs.length := by
  induction xs with
  | nil => exact Nat.le_refl _
  | cons x xs ih =>
    simp only [nrm]
    split
    · simp
    · simpa using ih
theorem nrm_pre : ∀ (xs : List Int), nrm xs = xs.take (nrm xs).length
  | [] => rfl
  | x :: xs => by
    have ih := nrm_pre xs
    simp only [nrm]
    split
    · rfl
    · simp only [List.length_cons, List.take_succ_cons]
      rw [← ih]
theorem WL.nrm {xs : List Int} (h : WL xs) : WL (nrm xs) := by
  rw [nrm_pre]
  exact h.take _
/-- A walk down from the high end has come to k. -/
def Nat_ (xs : List Int) (k : Nat) : Prop := nrm (xs.take k) = nrm xs
theorem nat0 (xs : List Int) : Nat_ xs xs.length := by simp [Nat_]
theorem nat_succ {xs : List Int} {k : Nat} (hk : k + 1 ≤ xs.length) (h : Nat_ xs (k + 1)) (hz : xs[k]?.getD 0 = 0) : Nat_ xs k := by
  have hlt : k < xs.length := by omega
  have e : xs.take (k + 1) = xs.take k ++ [0] := by
    rw [List.take_succ_eq_append_getElem hlt]
    simp [hlt] at hz
    rw [hz]
  unfold Nat_ at h ⊢
  rw [← h, e, nrm_snoc0]
theorem nat_end {xs : List Int} {k : Nat} (hk : k ≤ xs.length) (h : Nat_ xs k) (hz : 0 < k → ¬ xs[k - 1]?.getD 0 = 0) : nrm xs = xs.take k := by
  unfold Nat_ at h
  rw [← h]
  cases k with
  | zero => rfl
  | succ k =>
    have hlt : k < xs.length := by omega
    have hz' := hz (by omega)
    simp only [Nat.add_sub_cancel] at hz'
    simp [hlt] at hz'
    rw [List.take_succ_eq_append_getElem hlt]
    exact nrm_of (nrm_snoc _ hz')

theorem nv_app : ∀ (xs ys : List Int), nv (xs ++ ys) = nv xs + 18446744073709551616 ^ xs.length * nv ys
  | [], ys => by simp [nv]
  | x :: xs, ys => by
    have ih := nv_app xs ys
    simp only [List.cons_append, nv, ih, List.length_cons, Int.pow_succ]
    rw [Int.mul_add, Int.mul_comm ((18446744073709551616 : Int) ^ xs.length) 18446744073709551616, Int.mul_assoc]
    omega
end Go.Proofs.YtloloifngbmibaaGreatDoor
set_option linter.unusedVariables false
namespace Go.Proofs.YtloloifngbmibaaGreatDoor

/-- A digit of a schoolbook division that may be too great still, with what is left of the high part. -/
structure Dig (a b yn1 yn0 q r : Nat) : Prop where
  le : (a * 4294967296 + b) / (yn1 * 4294967296 + yn0) ≤ q
  sum : q * yn1 + r = a
theorem dig_q {a b yn1 yn0 : Nat} (h0 : yn0 < 4294967296) (h1 : 2147483648 ≤ yn1) (ha : a < yn1 * 4294967296 + yn0) (hb : b < 4294967296) : (a * 4294967296 + b) / (yn1 * 4294967296 + yn0) < 4294967296 := by
  rw [Nat.div_lt_iff_lt_mul (by omega)]
  have : (a + 1) * 4294967296 ≤ (yn1 * 4294967296 + yn0) * 4294967296 := Nat.mul_le_mul_right _ ha
  rw [Nat.mul_comm 4294967296 (yn1 * 4294967296 + yn0)]
  omega
theorem dig_start {a b yn1 yn0 : Nat} (h0 : yn0 < 4294967296) (h1 : 2147483648 ≤ yn1) (ha : a < yn1 * 4294967296 + yn0) (hb : b < 4294967296) : Dig a b yn1 yn0 (a / yn1) (a % yn1) ∧ a / yn1 ≤ 4294967297 ∧ a % yn1 < yn1 := by
  have hpos : 0 < yn1 := by omega
  refine ⟨⟨?_, ?_⟩, ?_, Nat.mod_lt _ hpos⟩
  · rw [Nat.le_div_iff_mul_le hpos]
    obtain ⟨Q, hQ⟩ : ∃ Q, Q = (a * 4294967296 + b) / (yn1 * 4294967296 + yn0) := ⟨_, rfl⟩
    rw [← hQ]
    have h : Q * (yn1 * 4294967296 + yn0) ≤ a * 4294967296 + b := by
      rw [hQ]
      exact Nat.div_mul_le_self _ _
    rw [Nat.mul_add, ← Nat.mul_assoc] at h
    have : Q * yn1 * 4294967296 < (a + 1) * 4294967296 := by omega
    have := Nat.lt_of_mul_lt_mul_right this
    omega
  · rw [Nat.mul_comm]
    exact Nat.div_add_mod a yn1
  · have : a / yn1 < 4294967298 := by
      rw [Nat.div_lt_iff_lt_mul hpos]
      have e : 4294967298 * yn1 = yn1 * 4294967296 + 2 * yn1 := by omega
      omega
    omega
theorem dig_step {a b yn1 yn0 q r : Nat} (h0 : yn0 < 4294967296) (h1 : 2147483648 ≤ yn1) (ha : a < yn1 * 4294967296 + yn0) (hb : b < 4294967296) (h : Dig a b yn1 yn0 q r) (hc : 4294967296 ≤ q ∨ 4294967296 * r + b < q * yn0) : 0 < q ∧ Dig a b yn1 yn0 (q - 1) (r + yn1) := by
  have hlt : (a * 4294967296 + b) / (yn1 * 4294967296 + yn0) < q := by
    rcases hc with hc | hc
    · exact Nat.lt_of_lt_of_le (dig_q h0 h1 ha hb) hc
    · rw [Nat.div_lt_iff_lt_mul (by omega), Nat.mul_add, ← Nat.mul_assoc]
      have := h.sum
      have e : a * 4294967296 = q * yn1 * 4294967296 + r * 4294967296 := by rw [← this, Nat.add_mul]
      omega
  have hpos : 0 < q := Nat.lt_of_le_of_lt (Nat.zero_le _) hlt
  refine ⟨hpos, Nat.le_sub_one_of_lt hlt, ?_⟩
  have := h.sum
  obtain ⟨p, rfl⟩ : ∃ p, q = p + 1 := ⟨q - 1, by omega⟩
  rw [Nat.add_mul] at this
  rw [Nat.add_sub_cancel]
  omega
theorem dig_end {a b yn1 yn0 q r : Nat} (h0 : yn0 < 4294967296) (h1 : 2147483648 ≤ yn1) (h : Dig a b yn1 yn0 q r) (hc : q * yn0 ≤ 4294967296 * r + b) : q = (a * 4294967296 + b) / (yn1 * 4294967296 + yn0) := by
  have hle : q ≤ (a * 4294967296 + b) / (yn1 * 4294967296 + yn0) := by
    rw [Nat.le_div_iff_mul_le (by omega), Nat.mul_add, ← Nat.mul_assoc]
    have := h.sum
    have e : a * 4294967296 = q * yn1 * 4294967296 + r * 4294967296 := by rw [← this, Nat.add_mul]
    omega
  have := h.le
  omega
theorem dig_break {a b yn1 yn0 q r : Nat} (h0 : yn0 < 4294967296) (h1 : 2147483648 ≤ yn1) (h : Dig a b yn1 yn0 q r) (hq : q ≤ 4294967296) (hr : 4294967296 ≤ r) : q = (a * 4294967296 + b) / (yn1 * 4294967296 + yn0) := by
  refine dig_end h0 h1 h ?_
  have h2 : q * yn0 ≤ 4294967296 * yn0 := Nat.mul_le_mul_right _ hq
  have h3 : 4294967296 * yn0 ≤ 4294967296 * r := Nat.mul_le_mul_left _ (by omega)
  omega

/-- A division by an inverse: the quotient's guess is too low by at most two. V is (B*B - 1) / d. -/
theorem inv_div {d x1 x0 V : Nat} (hd : 0 < d) (hdB : d < 18446744073709551616) (hx1 : x1 < d) (hx0 : x0 < 18446744073709551616) (hV : V = (18446744073709551616 * 18446744073709551616 - 1) / d) :
    d * ((x1 * V + x0) / 18446744073709551616) ≤ x1 * 18446744073709551616 + x0 ∧ x1 * 18446744073709551616 + x0 < d * ((x1 * V + x0) / 18446744073709551616) + d + 18446744073709551616 := by
  obtain ⟨t, ht⟩ : ∃ t, t = (x1 * V + x0) / 18446744073709551616 := ⟨_, rfl⟩
  rw [← ht]
  have hV1 : d * V ≤ 340282366920938463463374607431768211455 := by
    rw [hV]
    exact Nat.mul_div_le _ _
  have hV2 : 340282366920938463463374607431768211455 < d * V + d := by
    have := Nat.lt_mul_div_succ (18446744073709551616 * 18446744073709551616 - 1) hd
    rw [← hV, Nat.mul_add] at this
    omega
  have ht1 : t * 18446744073709551616 ≤ x1 * V + x0 := by omega
  have ht2 : x1 * V + x0 < t * 18446744073709551616 + 18446744073709551616 := by omega
  have m1 : d * (t * 18446744073709551616) ≤ d * (x1 * V + x0) := Nat.mul_le_mul_left _ ht1
  have m2 : d * (x1 * V + x0 + 1) ≤ d * (t * 18446744073709551616 + 18446744073709551616) := Nat.mul_le_mul_left _ ht2
  have m3 : x1 * (d * V) ≤ x1 * 340282366920938463463374607431768211455 := Nat.mul_le_mul_left _ hV1
  have m4 : x1 * 340282366920938463463374607431768211456 ≤ x1 * (d * V + d) := Nat.mul_le_mul_left _ (by omega)
  have e1 : d * (x1 * V + x0) = x1 * (d * V) + d * x0 := by
    rw [Nat.mul_add, Nat.mul_left_comm]
  have e2 : d * (x1 * V + x0 + 1) = x1 * (d * V) + d * x0 + d := by
    rw [Nat.mul_add, e1, Nat.mul_one]
  have e3 : d * (t * 18446744073709551616) = d * t * 18446744073709551616 := by rw [Nat.mul_assoc]
  have e4 : d * (t * 18446744073709551616 + 18446744073709551616) = d * t * 18446744073709551616 + d * 18446744073709551616 := by rw [Nat.mul_add, e3]
  have e5 : x1 * (d * V + d) = x1 * (d * V) + x1 * d := by rw [Nat.mul_add]
  have m5 : d * x0 ≤ 18446744073709551615 * x0 := Nat.mul_le_mul_right _ (by omega)
  have m6 : x1 * d ≤ (d - 1) * d := Nat.mul_le_mul_right _ (by omega)
  have m7 : (d - 1) * d ≤ (d - 1) * 18446744073709551615 := Nat.mul_le_mul_left _ (by omega)
  have m8 : (18446744073709551616 - d) * x0 ≤ (18446744073709551616 - d) * 18446744073709551615 := Nat.mul_le_mul_left _ (by omega)
  have e8 : (18446744073709551616 - d) * x0 = 18446744073709551616 * x0 - d * x0 := Nat.sub_mul _ _ _
  have m9 : d * x0 ≤ 18446744073709551616 * x0 := Nat.mul_le_mul_right _ (by omega)
  obtain ⟨p1, hp1⟩ : ∃ p, p = x1 * (d * V) := ⟨_, rfl⟩
  obtain ⟨p2, hp2⟩ : ∃ p, p = d * x0 := ⟨_, rfl⟩
  obtain ⟨p3, hp3⟩ : ∃ p, p = d * t := ⟨_, rfl⟩
  obtain ⟨p4, hp4⟩ : ∃ p, p = x1 * d := ⟨_, rfl⟩
  obtain ⟨p5, hp5⟩ : ∃ p, p = (d - 1) * d := ⟨_, rfl⟩
  rw [e1, e3] at m1
  rw [e2, e4] at m2
  rw [e5] at m4
  rw [e8] at m8
  rw [← hp1, ← hp2, ← hp3] at m1 m2
  rw [← hp1] at m3
  rw [← hp1, ← hp4] at m4
  rw [← hp2] at m5 m8 m9
  rw [← hp4, ← hp5] at m6
  rw [← hp5] at m7
  rw [← hp3]
  omega
end Go.Proofs.YtloloifngbmibaaGreatDoor
set_option linter.unusedVariables false
set_option maxRecDepth 4000
namespace Go.Proofs.YtloloifngbmibaaGreatDoor
open Go.RowKit

/-- The eight bytes of a word, the highest first. -/
def be8 (x : Int) : List Int := [x / 72057594037927936 % 256, x / 281474976710656 % 256, x / 1099511627776 % 256, x / 4294967296 % 256, x / 16777216 % 256, x / 65536 % 256, x / 256 % 256, x % 256]
theorem be8_len (x : Int) : (be8 x).length = 8 := rfl
/-- The bytes of a magnitude, the highest first. -/
def beB : List Int → List Int
  | [] => []
  | x :: xs => beB xs ++ be8 x
theorem beB_len (xs : List Int) : (beB xs).length = 8 * xs.length := by
  induction xs with
  | nil => rfl
  | cons x xs ih => simp only [beB, List.length_append, ih, be8_len, List.length_cons]; omega
theorem beB_append (xs ys : List Int) : beB (xs ++ ys) = beB ys ++ beB xs := by
  induction xs with
  | nil => simp [beB]
  | cons x xs ih => simp [beB, ih]
theorem beB_take (xs : List Int) (k : Nat) (hk : k < xs.length) : beB (xs.take (k + 1)) = be8 (xs[k]?.getD 0) ++ beB (xs.take k) := by
  rw [List.take_add_one, beB_append]
  simp [hk, beB]

/-- What is left of a word behind j bytes. -/
def shb (x : Int) : Nat → Int
  | 0 => x
  | j + 1 => shb x j / 256
theorem be8_step (x : Int) (j : Nat) (hj : j < 8) : (be8 x).drop (8 - (j + 1)) = shb x j % 256 :: (be8 x).drop (8 - j) := by
  have : j = 0 ∨ j = 1 ∨ j = 2 ∨ j = 3 ∨ j = 4 ∨ j = 5 ∨ j = 6 ∨ j = 7 := by omega
  rcases this with rfl | rfl | rfl | rfl | rfl | rfl | rfl | rfl <;> simp [be8, shb] <;> omega
theorem shb_bd (x : Int) (h0 : 0 ≤ x) (h1 : x < 18446744073709551616) (j : Nat) : 0 ≤ shb x j ∧ shb x j < 18446744073709551616 := by
  induction j with
  | zero => exact ⟨h0, h1⟩
  | succ j ih => simp only [shb]; omega

/-- Leading zeros. -/
def lz : List Int → Nat
  | [] => 0
  | x :: xs => if x = 0 then lz xs + 1 else 0
theorem lz_le (l : List Int) : lz l ≤ l.length := by
  induction l with
  | nil => simp [lz]
  | cons x xs ih => simp only [lz, List.length_cons]; split <;> omega
/-- A search for the first that is no zero has come to k. -/
def Lzat (l : List Int) (k : Nat) : Prop := k + lz (l.drop k) = lz l
theorem lzat0 (l : List Int) : Lzat l 0 := by simp [Lzat]
theorem lzat_lt (l : List Int) (k : Nat) (h : Lzat l k) : k ≤ l.length := by
  have := lz_le l
  unfold Lzat at h
  omega
theorem lzat_succ (l : List Int) (k : Nat) (hk : k < l.length) (h : Lzat l k) (hz : l[k]?.getD 0 = 0) : Lzat l (k + 1) := by
  unfold Lzat at h ⊢
  rw [List.drop_eq_getElem_cons hk] at h
  have e : l[k] = 0 := by simpa [hk] using hz
  simp only [lz, e, if_true] at h
  omega
theorem lzat_end (l : List Int) (k : Nat) (h : Lzat l k) (he : k < l.length → ¬ l[k]?.getD 0 = 0) (hk : k ≤ l.length) : k = lz l := by
  unfold Lzat at h
  by_cases hlt : k < l.length
  · have hz := he hlt
    rw [List.drop_eq_getElem_cons hlt] at h
    have e : ¬ l[k] = 0 := by simpa [hlt] using hz
    simp only [lz, e, if_false] at h
    omega
  · rw [List.drop_eq_nil_of_le (by omega)] at h
    simpa [lz] using h

/-- Only block g has turned, and new blocks have come. -/
theorem only_set {a w : World} {g : Nat} (h : a.grownBy w (some g)) (i : Nat) (u : Value) : a.grownBy (w.setCell ⟨g, i, none⟩ u) (some g) :=
  ⟨h.os, h.tape, h.output, by simpa [World.setCell] using h.size, fun j hj hne => (Below.heap_setCell w ⟨g, i, none⟩ u j (by rintro rfl; exact hne rfl)).trans (h.block j hj hne)⟩

theorem bytes_any (S : Nat → Prop) (A : Option Addr) (c g : Nat) (xs cur : List Int) (hn : xs.length ≤ 268435456) (hx : ∀ x ∈ xs, 0 ≤ x ∧ x < 18446744073709551616) (w : World) (hr : Rd w S A (ints .u64 xs)) (hS : ∀ k, S k → k ≠ g)
    (hcur : cur.length = 8 * xs.length) (hg : Blk w g 5 (ints .u8 cur).toArray) :
    Calls Tryz.prog 115 #[.slice A xs.length c, .slice (some ⟨g, 0, none⟩) (8 * xs.length) (8 * xs.length)] w fun e w' =>
      e = .returned (.int .i64 (lz (beB xs))) ∧ Blk w' g 5 (ints .u8 (beB xs)).toArray ∧ w.grownBy w' (some g) := by
  obtain ⟨n, hn'⟩ : ∃ n, n = xs.length := ⟨_, rfl⟩
  rw [← hn'] at hcur hn ⊢
  have HR := Lib.hid hr
  have HX := Lib.hid hx
  have HS := Lib.hid hS
  have HN := Lib.hid hn'
  have HC := Lib.hid hcur
  clear hr hx hS hn' hcur
  go_enter Tryz.func115, Tryz.ntmps115
  go_wp2
  go_loopw [4, 12] (fun i k wr => ∃ (q : Nat) (cr : List Int), q ≤ n ∧ k = .int .i64 q ∧ i = .int .i64 ((8 * (n - q) : Nat) : Int) ∧ Hid (cr.length = 8 * n) ∧ Hid (cr.drop (8 * (n - q)) = beB (xs.take q)) ∧ Blk wr g 5 (ints .u8 cr).toArray ∧ w.grownBy wr (some g)) (fun _ k _ => n - (intOf k).toNat)
  case atStart => exact ⟨0, cur, Nat.zero_le _, rfl, by simp, HC, by show _ = _; rw [Nat.sub_zero, List.drop_eq_nil_of_le (by rw [HC.out]; exact Nat.le_refl _)]; simp [beB], hg, World.grownBy.refl _ _⟩
  case round =>
    obtain ⟨q, cr, hq, rfl, rfl, hcl, hcd, hb, hgr⟩ := hrel
    by_cases hlt : q < n
    · obtain ⟨b, o, e, hSb, hc⟩ := rd_int HR.out (j := q) (by rw [← HN.out]; exact hlt)
      cases e
      have hcell := hgr.cell hc (by have := HS.out b hSb; simpa using this)
      obtain ⟨x, hx⟩ : ∃ x, x = xs[q]?.getD 0 := ⟨_, rfl⟩
      rw [← hx] at hcell
      have hxb : 0 ≤ x ∧ x < 18446744073709551616 := by
        have hq' : q < xs.length := by rw [← HN.out]; exact hlt
        have := HX.out xs[q] (List.getElem_mem hq')
        rw [hx]
        simpa [hq'] using this
      have HXE := Lib.hid hx
      have HXB := Lib.hid hxb
      clear hx hxb hc
      obtain ⟨wo, rfl⟩ : ∃ wo : World, wo = wr := ⟨_, rfl⟩
      go_wp2
      go_loopw [4, 6, 7] (fun i d j wp => ∃ (p : Nat) (cp : List Int), p ≤ 8 ∧ j = .int .i64 p ∧ i = .int .i64 ((8 * (n - q) - p : Nat) : Int) ∧ d = .int .u64 (shb x p) ∧ Hid (cp.length = 8 * n) ∧ Hid (cp.drop (8 * (n - q) - p) = (be8 x).drop (8 - p) ++ beB (xs.take q)) ∧ Blk wp g 5 (ints .u8 cp).toArray ∧ w.grownBy wp (some g)) (fun _ _ j _ => 8 - (intOf j).toNat)
      case atStart => exact ⟨0, cr, by omega, rfl, by simp, rfl, hcl, by show _ = _; rw [Nat.sub_zero, hcd.out]; simp [be8], hb, hgr⟩
      case round =>
        obtain ⟨p, cp, hp, rfl, rfl, rfl, hcpl, hcpd, hbp, hgp⟩ := hrel
        by_cases hp8 : p < 8
        · have hbd := shb_bd x HXB.out.1 HXB.out.2 p
          have hi : 8 * (n - q) - p - 1 < cp.length := by rw [hcpl.out]; omega
          have f0 := hbp.frozen (8 * (n - q) - p - 1)
          have c0 := (hbp.cell (8 * (n - q) - p - 1)).trans (show _ = some (Value.int .u8 (cp[8 * (n - q) - p - 1]'hi)) by simp [ints, hi])
          go_wp2
          go_roundw
          case rel =>
            refine ⟨p + 1, cp.set (8 * (n - q) - p - 1) (shb x p % 256), by omega, by go_num, ?_, ?_, ?_, ?_, ?_, only_set hgp _ _⟩
            · go_num
            · rfl
            · show _ = _
              rw [List.length_set]
              exact hcpl.out
            · show _ = _
              have e1 : 8 * (n - q) - (p + 1) = 8 * (n - q) - p - 1 := by omega
              rw [e1, be8_step x p hp8, List.cons_append, ← hcpd.out]
              rw [List.drop_eq_getElem_cons (by rw [List.length_set]; exact hi), List.getElem_set_self, List.drop_set_of_lt (by omega)]
              congr 2
              omega
            · have := hbp.set (8 * (n - q) - p - 1) (.int .u8 (shb x p % 256))
              simpa [ints, List.map_set] using this
          case measure => simp [intOf]; omega
        · obtain rfl : p = 8 := by omega
          go_wp2
          go_roundw
          case rel =>
            refine ⟨q + 1, cp, by omega, by go_num, by go_num, hcpl, ?_, hbp, hgp⟩
            show _ = _
            have e1 : 8 * (n - (q + 1)) = 8 * (n - q) - 8 := by omega
            rw [e1, hcpd.out, beB_take xs q (by rw [← HN.out]; exact hlt), ← HXE.out]
            rfl
          case measure => simp [intOf]; omega
    · obtain rfl : q = n := by omega
      have hcr : cr = beB xs := by
        have := hcd.out
        rw [Nat.sub_self, Nat.mul_zero, List.drop_zero, HN.out, List.take_length] at this
        exact this
      subst hcr
      have hl : (beB xs).length = 8 * q := hcl.out
      have HL := Lib.hid hl
      have hz : 8 * (q - q) = 0 := by omega
      clear hl
      go_wp2
      go_loop [4] (fun i => ∃ k : Nat, k ≤ 8 * q ∧ i = .int .i64 k ∧ Hid (Lzat (beB xs) k)) (fun i => 8 * q - (intOf i).toNat)
      case atStart => exact ⟨0, Nat.zero_le _, by simp, lzat0 _⟩
      case round =>
        obtain ⟨k, hk, rfl, hz⟩ := hrel
        by_cases hk8 : k < 8 * q
        · have hi : k < (beB xs).length := by rw [HL.out]; exact hk8
          have c0 := (hb.cell k).trans (show _ = some (Value.int .u8 ((beB xs)[k]?.getD 0)) by simp [ints, hi])
          obtain ⟨y, hy⟩ : ∃ y, y = (beB xs)[k]?.getD 0 := ⟨_, rfl⟩
          rw [← hy] at c0
          have HY := Lib.hid hy
          clear hy
          by_cases hy0 : y = 0
          · subst hy0
            go_wp2
            go_round
            case rel => exact ⟨k + 1, by omega, by go_num, lzat_succ _ _ hi hz.out HY.out.symm⟩
            case measure => simp [intOf]; omega
          · have hy1 := beq_no hy0
            clear hy0
            go_wp2
            go_ret
            refine ⟨?_, hb, hgr⟩
            rw [lzat_end _ k hz.out (fun _ h => by rw [← HY.out] at h; simp [h] at hy1) (by omega)]
            rfl
        · go_wp2
          go_ret
          refine ⟨?_, hb, hgr⟩
          rw [lzat_end _ k hz.out (fun h => absurd h (by rw [HL.out]; exact hk8)) (by rw [HL.out]; exact hk)]
          rfl
end Go.Proofs.YtloloifngbmibaaGreatDoor
