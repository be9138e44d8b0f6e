/- Bytes into words: plain facts; the walk of nat.setBytes. The walk of nat.setBytes. Int.SetBytes, Set of itself, Neg of itself; bitLen; low64. -/
import Derived.Test.YtloloifngbmibaaGreatDoorM17
import Derived.Lib.ItoaNum
set_option linter.unusedVariables false
set_option linter.unusedSimpArgs false
set_option maxRecDepth 4000
namespace Go.Proofs.YtloloifngbmibaaGreatDoor
open Go.RowKit

theorem pow256 (k : Nat) : (256 : Int) ^ (8 * k) = 18446744073709551616 ^ k := by
  rw [Int.pow_mul]
  rfl
/-- A word more. -/
theorem word_up {l ws : List Int} {i k : Nat} (hk : ws.length = k) (hi : 8 * k + i = l.length) (h8 : 8 ≤ i) (h : nv ws = bv (l.drop i)) : nv (ws ++ [bv ((l.drop (i - 8)).take 8)]) = bv (l.drop (i - 8)) := by
  rw [nv_snoc, bv_cut (l.drop (i - 8)) 8, List.drop_drop, show i - 8 + 8 = i by omega, h, hk, List.length_drop, show l.length - i = 8 * k by omega, pow256, Int.mul_comm, Int.add_comm]
theorem word_last {l ws : List Int} {i k : Nat} (hk : ws.length = k) (hi : 8 * k + i = l.length) (h : nv ws = bv (l.drop i)) : nv (ws ++ [bv (l.take i)]) = bv l := by
  rw [nv_snoc, bv_cut l i, h, hk, List.length_drop, show l.length - i = 8 * k by omega, pow256, Int.mul_comm, Int.add_comm]
theorem word_bd {l : List Int} (h : ByL l) (hl : l.length ≤ 8) : 0 ≤ bv l ∧ bv l < 18446744073709551616 := by
  have h1 := bv_bd h
  have : (256 : Int) ^ l.length ≤ 256 ^ 8 := by
    obtain ⟨k, hk⟩ := Nat.exists_eq_add_of_le hl
    rw [hk, Int.pow_add]
    have hp : (0 : Int) < 256 ^ l.length := Int.pow_pos (by decide)
    have hq : (0 : Int) < 256 ^ k := Int.pow_pos (by decide)
    have := Int.mul_le_mul_of_nonneg_left (show (1 : Int) ≤ 256 ^ k by omega) (show (0 : Int) ≤ 256 ^ l.length by omega)
    omega
  have e : (256 : Int) ^ 8 = 18446744073709551616 := rfl
  omega
/-- Eight bytes are a word. -/
theorem bv_eight {l : List Int} {i : Nat} (hl : ByL l) (hi : i + 8 ≤ l.length) : ∃ b0 b1 b2 b3 b4 b5 b6 b7 : Nat, (b0 < 256 ∧ b1 < 256 ∧ b2 < 256 ∧ b3 < 256 ∧ b4 < 256 ∧ b5 < 256 ∧ b6 < 256 ∧ b7 < 256) ∧
    (l[i]?.getD 0 = b0 ∧ l[i + 1]?.getD 0 = b1 ∧ l[i + 2]?.getD 0 = b2 ∧ l[i + 3]?.getD 0 = b3 ∧ l[i + 4]?.getD 0 = b4 ∧ l[i + 5]?.getD 0 = b5 ∧ l[i + 6]?.getD 0 = b6 ∧ l[i + 7]?.getD 0 = b7) ∧
    bv ((l.drop i).take 8) = (beW b0 b1 b2 b3 b4 b5 b6 b7 : Nat) := by
  have g : ∀ j, ∃ b : Nat, l[i + j]?.getD 0 = b ∧ b < 256 := fun j => by
    have h1 := hl.at_ (i + j)
    obtain ⟨b, hb⟩ := Int.eq_ofNat_of_zero_le h1.1
    exact ⟨b, hb, by omega⟩
  obtain ⟨b0, e0, h0⟩ := g 0
  obtain ⟨b1, e1, h1⟩ := g 1
  obtain ⟨b2, e2, h2⟩ := g 2
  obtain ⟨b3, e3, h3⟩ := g 3
  obtain ⟨b4, e4, h4⟩ := g 4
  obtain ⟨b5, e5, h5⟩ := g 5
  obtain ⟨b6, e6, h6⟩ := g 6
  obtain ⟨b7, e7, h7⟩ := g 7
  refine ⟨b0, b1, b2, b3, b4, b5, b6, b7, ⟨h0, h1, h2, h3, h4, h5, h6, h7⟩, ⟨e0, e1, e2, e3, e4, e5, e6, e7⟩, ?_⟩
  have e : (l.drop i).take 8 = [(b0 : Int), b1, b2, b3, b4, b5, b6, b7] := by
    apply List.ext_getElem?
    intro j
    rw [List.getElem?_take]
    by_cases hj : j < 8
    · rw [if_pos hj, List.getElem?_drop]
      have hlt : i + j < l.length := by omega
      have hd : l[i + j]? = some (l[i + j]?.getD 0) := by simp [hlt]
      rw [hd]
      have : j = 0 ∨ j = 1 ∨ j = 2 ∨ j = 3 ∨ j = 4 ∨ j = 5 ∨ j = 6 ∨ j = 7 := by omega
      rcases this with rfl | rfl | rfl | rfl | rfl | rfl | rfl | rfl
      · rw [e0]; rfl
      · rw [e1]; rfl
      · rw [e2]; rfl
      · rw [e3]; rfl
      · rw [e4]; rfl
      · rw [e5]; rfl
      · rw [e6]; rfl
      · rw [e7]; rfl
    · rw [if_neg hj, List.getElem?_eq_none (by simp; omega)]
  rw [e]
  simp only [bv, beW, List.length_cons, List.length_nil]
  omega
/-- A byte more. -/
theorem byte_up {l : List Int} {i j : Nat} (hi : j + 1 ≤ i) (hl : i ≤ l.length) : bv ((l.take i).drop j) = (l[j]?.getD 0) * 256 ^ (i - (j + 1)) + bv ((l.take i).drop (j + 1)) := by
  have hlt : j < (l.take i).length := by rw [List.length_take]; omega
  rw [List.drop_eq_getElem_cons hlt]
  simp only [bv, List.length_drop, List.length_take]
  rw [Nat.min_eq_left hl]
  congr 2
  have : j < l.length := by omega
  simp [this]
theorem or_sh (d b s : Nat) (hd : d < 2 ^ s) (hs : s ≤ 56) (hb : b < 256) : bits .or .u64 (d : Int) ((b * 2 ^ s : Nat) : Int) = ((d + b * 2 ^ s : Nat) : Int) := by
  have h56 : 2 ^ s ≤ 2 ^ 56 := Nat.pow_le_pow_right (by decide) hs
  have h1 : b * 2 ^ s ≤ 255 * 2 ^ 56 := Nat.mul_le_mul (by omega) h56
  rw [bits_or_u64_nat d (b * 2 ^ s) (by omega) (by omega)]
  congr 1
  have h2 := Nat.two_pow_add_eq_or_of_lt (i := s) (b := d) hd b
  rw [Nat.or_comm, Nat.mul_comm b, ← h2, Nat.add_comm]
end Go.Proofs.YtloloifngbmibaaGreatDoor
set_option linter.unusedVariables false
set_option linter.unusedSimpArgs false
set_option maxRecDepth 4000
namespace Go.Proofs.YtloloifngbmibaaGreatDoor
open Go.RowKit

theorem make_nilp (m : Nat) (h0 : 0 < m) (h2 : m ≤ 4294967296) (w : World) :
    Calls Tryz.prog 134 #[.slice none 0 0, .int .i64 m] w fun e w' => ∃ C, e = .returned (.slice (some ⟨w.heap.size, 0, none⟩) m C) ∧ m ≤ C ∧ WB w' w.heap.size (List.replicate C 0) ∧ Below w.heap.size w w' := by
  by_cases h : m = 1
  · subst h
    refine (make_nil1 w).mono ?_
    rintro e w' ⟨rfl, rfl⟩
    exact ⟨1, rfl, Nat.le_refl _, Blk.new _ _ _, (Below.refl _ _).alloc (Nat.le_refl _) _⟩
  · refine (make_niln m (by omega) h2 w).mono ?_
    rintro e w' ⟨rfl, rfl⟩
    exact ⟨m + 4, rfl, by omega, WB.made _ _, (Below.refl _ _).alloc (Nat.le_refl _) _⟩

/-- The words done, the places left. -/
structure SetW (w : World) (l : List Int) (C : Nat) (i k : Nat) (ws : List Int) (W : World) : Prop where
  lo : Below w.heap.size w W
  len : ws.length = k
  wl : WL ws
  v : nv ws = bv (l.drop i)
  b : WB W w.heap.size (ws ++ List.replicate (C - k) 0)

theorem SetW.up {w : World} {l : List Int} {C i k : Nat} {ws : List Int} {W W' : World} (h : SetW w l C i k ws W) (hb : Below W.heap.size W W') : SetW w l C i k ws W' := ⟨below_up h.lo hb, h.len, h.wl, h.v, Blk.below h.b hb (Blk.lt h.b)⟩
theorem SetW.put {w : World} {l : List Int} {C i k : Nat} {ws : List Int} {W : World} (h : SetW w l C i k ws W) (hk : k < C) (x : Int) :
    Below w.heap.size w (W.setCell ⟨w.heap.size, k, none⟩ (.int .u64 x)) ∧ WB (W.setCell ⟨w.heap.size, k, none⟩ (.int .u64 x)) w.heap.size ((ws ++ [x]) ++ List.replicate (C - (k + 1)) 0) := by
  refine ⟨h.lo.setCell (p := ⟨w.heap.size, k, none⟩) (Nat.le_refl _) _, ?_⟩
  have h1 := WB.set h.b k x
  have e : (ws ++ List.replicate (C - k) 0).set k x = (ws ++ [x]) ++ List.replicate (C - (k + 1)) 0 := by
    rw [List.set_append_right _ _ (by rw [h.len]; exact Nat.le_refl _), h.len, Nat.sub_self, show C - k = (C - (k + 1)) + 1 by omega, List.replicate_succ]
    simp
  rwa [e] at h1
theorem SetW.cell {w : World} {l : List Int} {C i k : Nat} {ws : List Int} {W : World} (h : SetW w l C i k ws W) (hk : k < C) : W.cell? ⟨w.heap.size, k, none⟩ = some (.int .u64 0) := by
  have h1 := WB.cell h.b (i := k) (by rw [List.length_append, List.length_replicate, h.len]; omega)
  rw [h1, List.getElem?_append_right (by rw [h.len]; exact Nat.le_refl _), h.len, Nat.sub_self]
  simp [show 0 < C - k by omega]
theorem SetW.step {w : World} {l : List Int} {C i k : Nat} {ws : List Int} {W : World} (h : SetW w l C i k ws W) (hk : k < C) (hi : 8 * k + i = l.length) (h8 : 8 ≤ i) (hl : ByL l) :
    SetW w l C (i - 8) (k + 1) (ws ++ [bv ((l.drop (i - 8)).take 8)]) (W.setCell ⟨w.heap.size, k, none⟩ (.int .u64 (bv ((l.drop (i - 8)).take 8)))) := by
  have hp := h.put hk (bv ((l.drop (i - 8)).take 8))
  have hb := word_bd ((hl.drop (i - 8)).take 8) (by rw [List.length_take]; omega)
  exact ⟨hp.1, by simp [h.len], h.wl.app (WL.one hb.1 hb.2), word_up h.len hi h8 h.v, hp.2⟩

theorem set_norm {w W : World} {ws zs : List Int} {m C : Nat} (hb : WB W w.heap.size (ws ++ zs)) (lo : Below w.heap.size w W) (hw : WL ws) (hm : ws.length = m) (hC : m ≤ C) (h32 : m ≤ 4294967296) :
    Calls Tryz.prog 139 #[.slice (some ⟨w.heap.size, 0, none⟩) m C] W fun e w' => ∃ v, e = .returned v ∧ NewN w v (nrm ws) w' := by
  subst hm
  refine (norm_any (fun k => k = w.heap.size) _ C ws hC h32 W (WB.rd (zs := zs) hb (by simp))).mono ?_
  rintro e w' ⟨rfl, rfl⟩
  exact ⟨_, rfl, WB.sl hb ⟨Nat.le_refl _, hb.lt⟩ hC, lo, hw.nrm, nrm_nrm ws⟩

/-- The bytes left, from the lowest on. -/
structure SetL (l : List Int) (i0 i : Nat) (d : Nat) : Prop where
  le : i ≤ i0
  v : (d : Int) = bv ((l.take i0).drop i)
theorem SetL.step {l : List Int} {i0 j d b : Nat} (hl : ByL l) (h8 : i0 < 8) (hi : i0 ≤ l.length) (h : SetL l i0 (j + 1) d) (hb : l[j]?.getD 0 = b) : SetL l i0 j (d + b * 2 ^ (8 * (i0 - (j + 1)))) ∧ d < 2 ^ (8 * (i0 - (j + 1))) ∧ b < 256 := by
  have hle := h.le
  have h2 := hl.at_ j
  have h1 := bv_bd ((hl.take i0).drop (j + 1))
  rw [← h.v, List.length_drop, List.length_take, Nat.min_eq_left hi] at h1
  have e : (256 : Int) ^ (i0 - (j + 1)) = ((2 ^ (8 * (i0 - (j + 1))) : Nat) : Int) := by
    rw [Nat.pow_mul]
    simp
  refine ⟨⟨by omega, ?_⟩, ?_, by omega⟩
  · rw [byte_up hle hi, ← h.v, hb, e]
    simp only [Int.natCast_add, Int.natCast_mul]
    omega
  · rw [e] at h1
    omega

theorem setBytes_pos (S : Nat → Prop) (A : Option Addr) (c : Nat) (l : List Int) (h0 : 0 < l.length) (hc : l.length ≤ c) (hn : l.length ≤ 1000000) (hl : ByL l) (w : World) (hr : Rd w S A (ints .u8 l)) (hS : ∀ k, S k → k < w.heap.size) :
    Calls Tryz.prog 124 #[.slice none 0 0, .slice A l.length c] w fun e w' => ∃ v ws, e = .returned v ∧ NewN w v ws w' ∧ nv ws = bv l := by
  obtain ⟨n, hna⟩ : ∃ n, n = l.length := ⟨_, rfl⟩
  obtain ⟨m, hma⟩ : ∃ m, m = (n + 7) / 8 := ⟨_, rfl⟩
  rw [← hna] at h0 hc hn ⊢
  have HM := Lib.hid (make_nilp m (by omega) (by omega) w)
  have HN := Lib.hid hna
  have HL := Lib.hid hl
  have HR := Lib.hid hr
  have HS := Lib.hid hS
  have HM' := Lib.hid hma
  have HB := Lib.hid (And.intro h0 hc)
  have e1 : ((n : Int) + 8 - 1).tdiv 8 = (m : Int) := by
    rw [Int.tdiv_eq_ediv_of_nonneg (by omega)]
    omega
  have wm : wrap64 (m : Int) = (m : Int) := by unfold wrap64; omega
  clear hna hr hS hl hma
  go_enter Tryz.func124, Tryz.ntmps124
  go_wp2_with fail
  rw [show wrap64 (m : Int) = (m : Int) from wm]
  refine HM.out.mono ?_
  rintro e w1 ⟨C, rfl, hmC, hwb, hb1⟩
  obtain ⟨b, o, rfl, hSb, hcl⟩ := HR.out (by rw [ints_length, ← HN.out]; exact HB.out.1)
  have HCL : Hid (∀ j, j < n → w.cell? ⟨b, o + j, none⟩ = some (.int .u8 (l[j]?.getD 0))) := Lib.hid fun j hj => hcl j _ (ints_get _ _ _ (by rw [← HN.out]; exact hj))
  have HBL := Lib.hid (HS.out b hSb)
  have hs0 : Hid (SetW w l C n 0 [] w1) := Lib.hid ⟨hb1, rfl, WL.nil, by rw [List.drop_eq_nil_of_le (by rw [HN.out]; exact Nat.le_refl _)]; rfl, by simpa using hwb⟩
  have HMC := Lib.hid hmC
  clear HM hcl hSb hwb hb1 hmC e1 HS HR wm
  go_wp2_with fail
  go_loopw [5, 6] (fun iv kv wr => ∃ (i k : Nat) (ws : List Int), iv = .int .i64 i ∧ kv = .int .i64 k ∧ 8 * k + i = n ∧ Hid (SetW w l C i k ws wr)) (fun iv _ _ => (intOf iv).toNat)
  case atStart => exact ⟨n, 0, [], rfl, rfl, by omega, hs0⟩
  case round =>
    obtain ⟨i, k, ws, rfl, rfl, hik, hs⟩ := hrel
    by_cases h8 : 8 ≤ i
    · obtain ⟨b0, b1, b2, b3, b4, b5, b6, b7, ⟨l0, l1, l2, l3, l4, l5, l6, l7⟩, ⟨x0, x1, x2, x3, x4, x5, x6, x7⟩, hv⟩ := bv_eight (l := l) (i := i - 8) HL.out (by rw [← HN.out]; omega)
      have HX : Hid (∀ W, Below w.heap.size w W → Calls Tryz.prog 138 #[.slice (some ⟨b, o + (i - 8), none⟩) (i - (i - 8)) (c - (i - 8))] W fun e w' => e = .returned (.int .u64 (bv ((l.drop (i - 8)).take 8))) ∧ Below W.heap.size W w') := Lib.hid fun W hW => by
        have g : ∀ j, j < 8 → W.cell? ⟨b, o + (i - 8) + j, none⟩ = some (.int .u8 (l[i - 8 + j]?.getD 0)) := fun j hj => by
          rw [hW.cell HBL.out, Nat.add_assoc]
          exact HCL.out _ (by omega)
        rw [hv]
        exact beWord_any b (o + (i - 8)) (i - (i - 8)) (c - (i - 8)) b0 b1 b2 b3 b4 b5 b6 b7 (by omega) (by have := HB.out.2; omega) l0 l1 l2 l3 l4 l5 l6 l7 W (by have := g 0 (by decide); rw [Nat.add_zero, Nat.add_zero, x0] at this; exact this) (by rw [g 1 (by decide), x1]) (by rw [g 2 (by decide), x2]) (by rw [g 3 (by decide), x3]) (by rw [g 4 (by decide), x4]) (by rw [g 5 (by decide), x5]) (by rw [g 6 (by decide), x6]) (by rw [g 7 (by decide), x7])
      have hkm : k < m := by have := HM'.out; omega
      have hkC : k < C := Nat.lt_of_lt_of_le hkm HMC.out
      obtain ⟨x, hx⟩ : ∃ x, x = bv ((l.drop (i - 8)).take 8) := ⟨_, rfl⟩
      rw [← hx] at HX
      have HXE := Lib.hid hx
      have hin : i ≤ n := by omega
      have w1e : wrap64 ((i : Int) - 8) = ((i - 8 : Nat) : Int) := by unfold wrap64; omega
      clear hx hv x0 x1 x2 x3 x4 x5 x6 x7 l0 l1 l2 l3 l4 l5 l6 l7 hs0
      go_wp2_with fail
      refine (HX.out _ hs.out.lo).mono ?_
      rintro e w3 ⟨rfl, hb3⟩
      have h3 := Lib.hid (hs.out.up hb3)
      have c0 := h3.out.cell hkC
      have f0 := Blk.frozen h3.out.b k
      have HK := Lib.hid hkC
      clear HX hs hb3 hkC
      go_wp2
      go_roundw
      case rel =>
        refine ⟨i - 8, k + 1, ws ++ [x], by go_num, by go_num, by omega, ?_⟩
        rw [HXE.out]
        exact Lib.hid (h3.out.step HK.out (by rw [← HN.out]; exact hik) h8 HL.out)
      case measure => simp [intOf]; omega
    · by_cases hi0 : i = 0
      · subst hi0
        have HG : Hid (C = C ∧ ws.length = m ∧ WL ws ∧ nv ws = bv l ∧ WB wr w.heap.size (ws ++ List.replicate (C - m) 0) ∧ Below w.heap.size w wr) := by
          have hkm : k = m := by have := HM'.out; omega
          have := hs.out
          rw [hkm] at this
          exact Lib.hid ⟨rfl, this.len, this.wl, by simpa using this.v, this.b, this.lo⟩
        clear hs hs0 h8
        go_wp2_with fail
        refine (set_norm HG.out.2.2.2.2.1 HG.out.2.2.2.2.2 HG.out.2.2.1 HG.out.2.1 HMC.out (by have := HM'.out; omega)).mono ?_
        rintro e w3 ⟨v, rfl, hv⟩
        go_wp2
        go_ret
        exact ⟨_, _, rfl, hv, by rw [nv_nrm, HG.out.2.2.2.1]⟩
      · have hipos : 0 < i := Nat.pos_of_ne_zero hi0
        have hkm : k + 1 = m := by have := HM'.out; omega
        clear hs0
        obtain ⟨wo, rfl⟩ : ∃ wo : World, wo = wr := ⟨_, rfl⟩
        go_wp2_with fail
        go_loopw [5, 7, 8] (fun iv dv sv wp => ∃ (j d : Nat), iv = .int .i64 j ∧ dv = .int .u64 d ∧ sv = .int .u64 ((8 * (i - j) : Nat) : Int) ∧ Hid (SetL l i j d) ∧ wp = wo) (fun iv _ _ _ => (intOf iv).toNat)
        case atStart => exact ⟨i, 0, rfl, rfl, by simp, Lib.hid ⟨Nat.le_refl _, by rw [List.drop_eq_nil_of_le (by rw [List.length_take]; omega)]; rfl⟩, rfl⟩
        case round =>
          obtain ⟨j, d, rfl, rfl, rfl, hd, rfl⟩ := hrel
          rcases j with _ | j
          · have hkC : m - 1 < C := by have := HMC.out; omega
            have ek : m - 1 = k := by omega
            have c0 : wr.cell? ⟨w.heap.size, m - 1, none⟩ = some (.int .u64 0) := by rw [ek] at hkC ⊢; exact hs.out.cell hkC
            have f0 := Blk.frozen hs.out.b (m - 1)
            have HG : Hid ((ws ++ [(d : Int)]).length = m ∧ WL (ws ++ [(d : Int)]) ∧ nv (ws ++ [(d : Int)]) = bv l ∧ WB (wr.setCell ⟨w.heap.size, m - 1, none⟩ (.int .u64 d)) w.heap.size ((ws ++ [(d : Int)]) ++ List.replicate (C - m) 0) ∧ Below w.heap.size w (wr.setCell ⟨w.heap.size, m - 1, none⟩ (.int .u64 d))) := by
              rw [ek] at hkC ⊢
              have hp := hs.out.put hkC (d : Int)
              have hv : (d : Int) = bv (l.take i) := hd.out.v
              have hb := word_bd (HL.out.take i) (by rw [List.length_take]; omega)
              rw [hkm] at hp
              refine Lib.hid ⟨by simp [hs.out.len, hkm], hs.out.wl.app (WL.one (by omega) (by omega)), ?_, hp.2, hp.1⟩
              rw [hv]
              exact word_last hs.out.len (by rw [← HN.out]; exact hik) hs.out.v
            clear hs hd ek hkC
            go_wp2_with fail
            refine (set_norm HG.out.2.2.2.1 HG.out.2.2.2.2 HG.out.2.1 HG.out.1 HMC.out (by have := HM'.out; omega)).mono ?_
            rintro e w3 ⟨v, rfl, hv⟩
            go_wp2
            go_ret
            exact ⟨_, _, rfl, hv, by rw [nv_nrm, HG.out.2.2.1]⟩
          · have hle := hd.out.le
            have bb := HL.out.at_ j
            obtain ⟨x, hx⟩ := Int.eq_ofNat_of_zero_le bb.1
            obtain ⟨s, hs'⟩ : ∃ s, s = 8 * (i - (j + 1)) := ⟨_, rfl⟩
            have hst := hd.out.step HL.out (by omega) (by have := HN.out; omega) hx
            have c0 := (hs.out.lo.cell (p := ⟨b, o + j, none⟩) HBL.out).trans (HCL.out j (by omega))
            rw [hx] at c0
            rw [← hs'] at hst ⊢
            have hs56 : s ≤ 48 := by omega
            have f1 := or_sh d x s hst.2.1 (by omega) hst.2.2
            have m1 : min s 64 = s := by omega
            have f5 : IntKind.u64.wrap ((x : Int) * 2 ^ s) = ((x * 2 ^ s : Nat) : Int) := by
              have h56 : 2 ^ s ≤ 2 ^ 56 := Nat.pow_le_pow_right (by decide) (by omega)
              have h1 : x * 2 ^ s ≤ 255 * 2 ^ 56 := Nat.mul_le_mul (by have := hst.2.2; omega) h56
              rw [show (x : Int) * 2 ^ s = ((x * 2 ^ s : Nat) : Int) by simp]
              exact wrapN (by omega)
            have hjn : j < n := by omega
            have HST := Lib.hid hst
            have HSE := Lib.hid hs'
            have wx : IntKind.u64.wrap (x : Int) = (x : Int) := wrapN (by have := hst.2.2; omega)
            clear hst bb hx hs'
            go_wp2_with fail
            refine ⟨⟨j, d + x * 2 ^ s, rfl, by rw [← f1]; simp, ?_, Lib.hid HST.out.1, trivial⟩, by simp [intOf]⟩
            rw [HSE.out]
            congr 1
            omega

theorem setBytes_zero (A : Option Addr) (c : Nat) (w : World) :
    Calls Tryz.prog 124 #[.slice none 0 0, .slice A 0 c] w fun e w' => ∃ v ws, e = .returned v ∧ NewN w v ws w' ∧ nv ws = bv [] := by
  have HM := Lib.hid (make_nil0 w)
  have HN := Lib.hid (norm_any (fun _ => False) none 0 [] (Nat.le_refl _) (by decide) w (Rd.nil _ _ _))
  go_enter Tryz.func124, Tryz.ntmps124
  go_wp2_with fail
  refine HM.out.mono ?_
  rintro e w1 ⟨rfl, rfl⟩
  go_wp2_with fail
  go_loopw [5, 6] (fun iv kv wr => iv = .int .i64 0 ∧ wr = w) (fun iv _ _ => (intOf iv).toNat)
  case atStart => exact ⟨rfl, rfl⟩
  case round =>
    obtain ⟨rfl, rfl⟩ := hrel
    go_wp2_with fail
    refine HN.out.mono ?_
    rintro e w1 ⟨rfl, rfl⟩
    go_wp2
    go_ret
    exact ⟨_, [], rfl, NewN.nil _, rfl⟩

theorem setBytes_any (S : Nat → Prop) (v : Value) (l : List Int) (hn : l.length ≤ 1000000) (hl : ByL l) (w : World) (h : SlV w S .u8 v l) (hS : ∀ k, S k → k < w.heap.size) :
    Calls Tryz.prog 124 #[.slice none 0 0, v] w fun e w' => ∃ v ws, e = .returned v ∧ NewN w v ws w' ∧ nv ws = bv l := by
  obtain ⟨A, c, rfl, hc, hr⟩ := h
  by_cases h0 : l = []
  · subst h0
    exact setBytes_zero A c w
  · exact setBytes_pos S A c l (List.length_pos_iff.2 h0) hc hn hl w hr hS
end Go.Proofs.YtloloifngbmibaaGreatDoor
set_option linter.unusedVariables false
set_option linter.unusedSimpArgs false
set_option maxRecDepth 4000
namespace Go.Proofs.YtloloifngbmibaaGreatDoor
open Go.RowKit

theorem neq_ptr_same {P : Program} (w : World) {tp te : TypeId} {j : TypeInfo} (a : Addr) (hp : P.underlying tp = some (.pointer te)) (hte : P.info? te = some j) :
    (binOp .neq tp (.pointer (some a)) (.pointer (some a))).run P w = .ok (.bool false) w := by
  have h : ∀ d : Nat, (Op.equalIn (d + 1) tp (.pointer (some a)) (.pointer (some a))).run P w = .ok true w := fun d => by
    simp [Op.equalIn, run_underlying hp, sizeOf, typeInfo, hte, run_sameAddr_same]
  simp only [binOp]
  simp [Op.equal, Op.maxDepth, h 9999]

theorem info_big : ∃ j, Tryz.prog.info? 189 = some j := ⟨_, rfl⟩

theorem setSelf_any (g : Nat) (w : World) :
    Calls Tryz.prog 114 #[.pointer (some ⟨g, 0, none⟩), .pointer (some ⟨g, 0, none⟩)] w fun e w' => e = .returned (.pointer (some ⟨g, 0, none⟩)) ∧ w' = w := by
  obtain ⟨j, hj⟩ := info_big
  have hne : ∀ W : World, (binOp .neq 113 (.pointer (some ⟨g, 0, none⟩)) (.pointer (some ⟨g, 0, none⟩))).run Tryz.prog W = .ok (.bool false) W := fun W => neq_ptr_same W _ Tryz.underlying113 hj
  go_enter Tryz.func114, Tryz.ntmps114
  go_wp2
  go_ret
  exact ⟨rfl, rfl⟩

theorem negSelf_any (S : Nat → Prop) (g : Nat) (v : Value) (ws : List Int) (w : World) (hb : Blk w g 189 #[.bool false, v]) (hv : SlV w S .u64 v ws) :
    Calls Tryz.prog 109 #[.pointer (some ⟨g, 0, none⟩), .pointer (some ⟨g, 0, none⟩)] w fun e w' => e = .returned (.pointer (some ⟨g, 0, none⟩)) ∧ w' = w.setCell ⟨g, 0, none⟩ (.bool (decide (ws ≠ []))) := by
  have HC := Lib.hid (fun w => setSelf_any g w)
  obtain ⟨A, c, rfl, hc, _⟩ := hv
  have c0 := hb.cell 0
  have c1 := hb.cell 1
  have f0 := hb.frozen 0
  simp at c0 c1
  by_cases h : ws = []
  · subst h
    clear hb hc
    go_enter Tryz.func109, Tryz.ntmps109
    go_wp2_with fail
    refine (HC.out _).mono ?_
    rintro e w1 ⟨rfl, rfl⟩
    go_wp2
    go_ret
    exact ⟨rfl, by simp⟩
  · have hl : 0 < ws.length := List.length_pos_iff.2 h
    obtain ⟨n, hn⟩ : ∃ n, n = ws.length := ⟨_, rfl⟩
    rw [← hn] at hl c1
    have e1 : decide (ws ≠ []) = true := decide_eq_true h
    rw [e1]
    clear hb hc hn h e1
    go_enter Tryz.func109, Tryz.ntmps109
    go_wp2_with fail
    refine (HC.out _).mono ?_
    rintro e w1 ⟨rfl, rfl⟩
    go_wp2
    go_ret
    exact ⟨rfl, rfl⟩

/-- A magnitude in new blocks beside a number's block. -/
theorem setBytesI (S : Nat → Prop) (g : Nat) (v : Value) (l : List Int) (hn : l.length ≤ 1000000) (hl : ByL l) (w : World) (hb : Blk w g 189 #[.bool false, .slice none 0 0]) (h : SlV w S .u8 v l) (hS : ∀ k, S k → k < w.heap.size) :
    Calls Tryz.prog 108 #[.pointer (some ⟨g, 0, none⟩), v] w fun e w' => e = .returned (.pointer (some ⟨g, 0, none⟩)) ∧ ∃ u ws, Blk w' g 189 #[.bool false, u] ∧ SlV w' (Nw w w') .u64 u ws ∧ WL ws ∧ Nrm ws ∧ nv ws = bv l ∧ But (fun k => k = g) w w' := by
  have HC := Lib.hid (setBytes_any S v l hn hl w h hS)
  obtain ⟨A, c, rfl, hc, _⟩ := h
  have c0 := hb.cell 0
  have c1 := hb.cell 1
  simp at c0 c1
  have HB := Lib.hid hb
  clear hb hc hS
  go_enter Tryz.func108, Tryz.ntmps108
  go_wp2_with fail
  refine HC.out.mono ?_
  rintro e w1 ⟨u, ws, rfl, ⟨hu, hb1, hwl, hnr⟩, hv⟩
  obtain ⟨Au, cu, rfl, hcu, hru⟩ := id hu
  have hb2 := HB.out.below hb1 HB.out.lt
  have d0 := hb2.cell 0
  have d1 := hb2.cell 1
  have f0 := hb2.frozen 0
  have f1 := hb2.frozen 1
  simp at d0 d1
  have HB2 := Lib.hid hb2
  have HU := Lib.hid hu
  have HBB := Lib.hid hb1
  have hgl := HB.out.lt
  clear hb2 hu hb1 c0 c1 hcu hru
  go_wp2
  go_ret
  refine ⟨rfl, .slice Au ws.length cu, ws, ?_, ?_, hwl, hnr, hv, ?_⟩
  · have := (HB2.out.set 1 (.slice Au ws.length cu)).set 0 (.bool false)
    simpa using this
  · have hne : ∀ k, Nw w w1 k → k ≠ g := fun k hk e => by have := hk.1; omega
    exact (HU.out.keep (((Still.refl _ w1).set (p := ⟨g, 1, none⟩) hne _).set (p := ⟨g, 0, none⟩) hne _)).mono (fun k hk => ⟨hk.1, by simpa using hk.2⟩)
  · exact ((But.of_below (T := fun k => k = g) HBB.out).set (p := ⟨g, 1, none⟩) rfl _).set (p := ⟨g, 0, none⟩) rfl _
end Go.Proofs.YtloloifngbmibaaGreatDoor
