/- nat.bytes: a magnitude's bytes, the highest first. -/
import Derived.Test.YtgcdcchmdcdflaaBase
set_option linter.unusedVariables false
namespace Go.Proofs.Ytgcdcchmdcdflaa
open Go.RowKit

/-- The eight bytes of a word, the highest first. -/
def be8 (x : Int) : List Int := [x / 72057594037927936 % 256, x / 281474976710656 % 256, x / 1099511627776 % 256, x / 4294967296 % 256, x / 16777216 % 256, x / 65536 % 256, x / 256 % 256, x % 256]
theorem be8_len (x : Int) : (be8 x).length = 8 := rfl
/-- The bytes of a magnitude, the highest first. -/
def beB : List Int → List Int
  | [] => []
  | x :: xs => beB xs ++ be8 x
theorem beB_len (xs : List Int) : (beB xs).length = 8 * xs.length := by
  induction xs with
  | nil => rfl
  | cons x xs ih => simp only [beB, List.length_append, ih, be8_len, List.length_cons]; omega
theorem beB_append (xs ys : List Int) : beB (xs ++ ys) = beB ys ++ beB xs := by
  induction xs with
  | nil => simp [beB]
  | cons x xs ih => simp [beB, ih]
theorem beB_take (xs : List Int) (k : Nat) (hk : k < xs.length) : beB (xs.take (k + 1)) = be8 (xs[k]?.getD 0) ++ beB (xs.take k) := by
  rw [List.take_add_one, beB_append]
  simp [hk, beB]

/-- What is left of a word behind j bytes. -/
def shb (x : Int) : Nat → Int
  | 0 => x
  | j + 1 => shb x j / 256
theorem be8_step (x : Int) (j : Nat) (hj : j < 8) : (be8 x).drop (8 - (j + 1)) = shb x j % 256 :: (be8 x).drop (8 - j) := by
  have : j = 0 ∨ j = 1 ∨ j = 2 ∨ j = 3 ∨ j = 4 ∨ j = 5 ∨ j = 6 ∨ j = 7 := by omega
  rcases this with rfl | rfl | rfl | rfl | rfl | rfl | rfl | rfl <;> simp [be8, shb] <;> omega
theorem shb_bd (x : Int) (h0 : 0 ≤ x) (h1 : x < 18446744073709551616) (j : Nat) : 0 ≤ shb x j ∧ shb x j < 18446744073709551616 := by
  induction j with
  | zero => exact ⟨h0, h1⟩
  | succ j ih => simp only [shb]; omega

/-- Leading zeros. -/
def lz : List Int → Nat
  | [] => 0
  | x :: xs => if x = 0 then lz xs + 1 else 0
theorem lz_le (l : List Int) : lz l ≤ l.length := by
  induction l with
  | nil => simp [lz]
  | cons x xs ih => simp only [lz, List.length_cons]; split <;> omega
/-- A search for the first that is no zero has come to k. -/
def Lzat (l : List Int) (k : Nat) : Prop := k + lz (l.drop k) = lz l
theorem lzat0 (l : List Int) : Lzat l 0 := by simp [Lzat]
theorem lzat_lt (l : List Int) (k : Nat) (h : Lzat l k) : k ≤ l.length := by
  have := lz_le l
  unfold Lzat at h
  omega
theorem lzat_succ (l : List Int) (k : Nat) (hk : k < l.length) (h : Lzat l k) (hz : l[k]?.getD 0 = 0) : Lzat l (k + 1) := by
  unfold Lzat at h ⊢
  rw [List.drop_eq_getElem_cons hk] at h
  have e : l[k] = 0 := by simpa [hk] using hz
  simp only [lz, e, if_true] at h
  omega
theorem lzat_end (l : List Int) (k : Nat) (h : Lzat l k) (he : k < l.length → ¬ l[k]?.getD 0 = 0) (hk : k ≤ l.length) : k = lz l := by
  unfold Lzat at h
  by_cases hlt : k < l.length
  · have hz := he hlt
    rw [List.drop_eq_getElem_cons hlt] at h
    have e : ¬ l[k] = 0 := by simpa [hlt] using hz
    simp only [lz, e, if_false] at h
    omega
  · rw [List.drop_eq_nil_of_le (by omega)] at h
    simpa [lz] using h

/-- Only block g has turned, and new blocks have come. -/
theorem only_set {a w : World} {g : Nat} (h : a.grownBy w (some g)) (i : Nat) (u : Value) : a.grownBy (w.setCell ⟨g, i, none⟩ u) (some g) :=
  ⟨h.os, h.tape, h.output, by simpa [World.setCell] using h.size, fun j hj hne => (Below.heap_setCell w ⟨g, i, none⟩ u j (by rintro rfl; exact hne rfl)).trans (h.block j hj hne)⟩

theorem bytes_any (S : Nat → Prop) (A : Option Addr) (c g : Nat) (xs cur : List Int) (hn : xs.length ≤ 268435456) (hx : ∀ x ∈ xs, 0 ≤ x ∧ x < 18446744073709551616) (w : World) (hr : Rd w S A (ints .u64 xs)) (hS : ∀ k, S k → k ≠ g)
    (hcur : cur.length = 8 * xs.length) (hg : Blk w g 5 (ints .u8 cur).toArray) :
    Calls Try.prog 33 #[.slice A xs.length c, .slice (some ⟨g, 0, none⟩) (8 * xs.length) (8 * xs.length)] w fun e w' =>
      e = .returned (.int .i64 (lz (beB xs))) ∧ Blk w' g 5 (ints .u8 (beB xs)).toArray ∧ w.grownBy w' (some g) := by
  obtain ⟨n, hn'⟩ : ∃ n, n = xs.length := ⟨_, rfl⟩
  rw [← hn'] at hcur hn ⊢
  have HR := Lib.hid hr
  have HX := Lib.hid hx
  have HS := Lib.hid hS
  have HN := Lib.hid hn'
  have HC := Lib.hid hcur
  clear hr hx hS hn' hcur
  go_enter Try.func33, Try.ntmps33
  go_wp2
  go_loopw [4, 12] (fun i k wr => ∃ (q : Nat) (cr : List Int), q ≤ n ∧ k = .int .i64 q ∧ i = .int .i64 ((8 * (n - q) : Nat) : Int) ∧ Hid (cr.length = 8 * n) ∧ Hid (cr.drop (8 * (n - q)) = beB (xs.take q)) ∧ Blk wr g 5 (ints .u8 cr).toArray ∧ w.grownBy wr (some g)) (fun _ k _ => n - (intOf k).toNat)
  case atStart => exact ⟨0, cur, Nat.zero_le _, rfl, by simp, HC, by show _ = _; rw [Nat.sub_zero, List.drop_eq_nil_of_le (by rw [HC.out]; exact Nat.le_refl _)]; simp [beB], hg, World.grownBy.refl _ _⟩
  case round =>
    obtain ⟨q, cr, hq, rfl, rfl, hcl, hcd, hb, hgr⟩ := hrel
    by_cases hlt : q < n
    · obtain ⟨b, o, e, hSb, hc⟩ := rd_int HR.out (j := q) (by rw [← HN.out]; exact hlt)
      cases e
      have hcell := hgr.cell hc (by have := HS.out b hSb; simpa using this)
      obtain ⟨x, hx⟩ : ∃ x, x = xs[q]?.getD 0 := ⟨_, rfl⟩
      rw [← hx] at hcell
      have hxb : 0 ≤ x ∧ x < 18446744073709551616 := by
        have hq' : q < xs.length := by rw [← HN.out]; exact hlt
        have := HX.out xs[q] (List.getElem_mem hq')
        rw [hx]
        simpa [hq'] using this
      have HXE := Lib.hid hx
      have HXB := Lib.hid hxb
      clear hx hxb hc
      obtain ⟨wo, rfl⟩ : ∃ wo : World, wo = wr := ⟨_, rfl⟩
      go_wp2
      go_loopw [4, 6, 7] (fun i d j wp => ∃ (p : Nat) (cp : List Int), p ≤ 8 ∧ j = .int .i64 p ∧ i = .int .i64 ((8 * (n - q) - p : Nat) : Int) ∧ d = .int .u64 (shb x p) ∧ Hid (cp.length = 8 * n) ∧ Hid (cp.drop (8 * (n - q) - p) = (be8 x).drop (8 - p) ++ beB (xs.take q)) ∧ Blk wp g 5 (ints .u8 cp).toArray ∧ w.grownBy wp (some g)) (fun _ _ j _ => 8 - (intOf j).toNat)
      case atStart => exact ⟨0, cr, by omega, rfl, by simp, rfl, hcl, by show _ = _; rw [Nat.sub_zero, hcd.out]; simp [be8], hb, hgr⟩
      case round =>
        obtain ⟨p, cp, hp, rfl, rfl, rfl, hcpl, hcpd, hbp, hgp⟩ := hrel
        by_cases hp8 : p < 8
        · have hbd := shb_bd x HXB.out.1 HXB.out.2 p
          have hi : 8 * (n - q) - p - 1 < cp.length := by rw [hcpl.out]; omega
          have f0 := hbp.frozen (8 * (n - q) - p - 1)
          have c0 := (hbp.cell (8 * (n - q) - p - 1)).trans (show _ = some (Value.int .u8 (cp[8 * (n - q) - p - 1]'hi)) by simp [ints, hi])
          go_wp2
          go_roundw
          case rel =>
            refine ⟨p + 1, cp.set (8 * (n - q) - p - 1) (shb x p % 256), by omega, by go_num, ?_, ?_, ?_, ?_, ?_, only_set hgp _ _⟩
            · go_num
            · rfl
            · show _ = _
              rw [List.length_set]
              exact hcpl.out
            · show _ = _
              have e1 : 8 * (n - q) - (p + 1) = 8 * (n - q) - p - 1 := by omega
              rw [e1, be8_step x p hp8, List.cons_append, ← hcpd.out]
              rw [List.drop_eq_getElem_cons (by rw [List.length_set]; exact hi), List.getElem_set_self, List.drop_set_of_lt (by omega)]
              congr 2
              omega
            · have := hbp.set (8 * (n - q) - p - 1) (.int .u8 (shb x p % 256))
              simpa [ints, List.map_set] using this
          case measure => simp [intOf]; omega
        · obtain rfl : p = 8 := by omega
          go_wp2
          go_roundw
          case rel =>
            refine ⟨q + 1, cp, by omega, by go_num, by go_num, hcpl, ?_, hbp, hgp⟩
            show _ = _
            have e1 : 8 * (n - (q + 1)) = 8 * (n - q) - 8 := by omega
            rw [e1, hcpd.out, beB_take xs q (by rw [← HN.out]; exact hlt), ← HXE.out]
            rfl
          case measure => simp [intOf]; omega
    · obtain rfl : q = n := by omega
      have hcr : cr = beB xs := by
        have := hcd.out
        rw [Nat.sub_self, Nat.mul_zero, List.drop_zero, HN.out, List.take_length] at this
        exact this
      subst hcr
      have hl : (beB xs).length = 8 * q := hcl.out
      have HL := Lib.hid hl
      have hz : 8 * (q - q) = 0 := by omega
      clear hl
      go_wp2
      go_loop [4] (fun i => ∃ k : Nat, k ≤ 8 * q ∧ i = .int .i64 k ∧ Hid (Lzat (beB xs) k)) (fun i => 8 * q - (intOf i).toNat)
      case atStart => exact ⟨0, Nat.zero_le _, by simp, lzat0 _⟩
      case round =>
        obtain ⟨k, hk, rfl, hz⟩ := hrel
        by_cases hk8 : k < 8 * q
        · have hi : k < (beB xs).length := by rw [HL.out]; exact hk8
          have c0 := (hb.cell k).trans (show _ = some (Value.int .u8 ((beB xs)[k]?.getD 0)) by simp [ints, hi])
          obtain ⟨y, hy⟩ : ∃ y, y = (beB xs)[k]?.getD 0 := ⟨_, rfl⟩
          rw [← hy] at c0
          have HY := Lib.hid hy
          clear hy
          by_cases hy0 : y = 0
          · subst hy0
            go_wp2
            go_round
            case rel => exact ⟨k + 1, by omega, by go_num, lzat_succ _ _ hi hz.out HY.out.symm⟩
            case measure => simp [intOf]; omega
          · have hy1 := beq_no hy0
            clear hy0
            go_wp2
            go_ret
            refine ⟨?_, hb, hgr⟩
            rw [lzat_end _ k hz.out (fun _ h => by rw [← HY.out] at h; simp [h] at hy1) (by omega)]
            rfl
        · go_wp2
          go_ret
          refine ⟨?_, hb, hgr⟩
          rw [lzat_end _ k hz.out (fun h => absurd h (by rw [HL.out]; exact hk8)) (by rw [HL.out]; exact hk)]
          rfl
end Go.Proofs.Ytgcdcchmdcdflaa
