/- The law FnAsInt. -/
import Derived.Test.YtloloifngbmibaaGreatDoorM47
set_option linter.unusedVariables false
set_option linter.unusedSimpArgs false
set_option maxRecDepth 4000
namespace Go.Proofs.YtloloifngbmibaaGreatDoor
open Go.RowKit

theorem dec11 (kd : Int) (h0 : 0 ≤ kd) (h1 : kd < 256) : ∃ k : Nat, k < 11 ∧ kd.tmod 11 = (k : Int) ∧ wrap64 (k : Int) = (k : Int) ∧ IntKind.u8.wrap (k : Int) = (k : Int) ∧ IntKind.i64.wrap (k : Int) = (k : Int) := by
  have h2 := Int.tmod_nonneg 11 h0
  have h3 := Int.tmod_lt_of_pos kd (show (0 : Int) < 11 by decide)
  obtain ⟨k, hk⟩ := Int.eq_ofNat_of_zero_le h2
  refine ⟨k, by omega, hk, by unfold wrap64; omega, ?_, by rw [IntKind.wrap_i64]; omega⟩
  simp [IntKind.wrap, IntKind.bits, IntKind.signed]
  omega

/-- The law's box: its Val. -/
structure FaS (w : World) (t : Tr) (y : Vc) (W : World) : Prop where
  lo : Below w.heap.size w W
  bx : Blk W w.heap.size 26 (VcB y)
  hv : HVB (w.heap.size + 1) 4 t y W
theorem FaS.up {w : World} {t : Tr} {y : Vc} {W W' : World} (h : FaS w t y W) (hb : Below W.heap.size W W') : FaS w t y W' := ⟨below_up h.lo hb, h.bx.below hb h.bx.lt, h.hv.up hb⟩
theorem FaS.al {w : World} {t : Tr} {y : Vc} {W : World} (h : FaS w t y W) (o : Obj) : FaS w t y (W.alloc o) := h.up (below_al (Below.refl _ _) o)

theorem same_now {t : Tr} {v : Vc} {w0 w : World} {y : Int} {A : Option Addr} {c : Nat} (g : Good 3 t) (hk : v.k = 2) (h : HV 4 t v w) (hs : SlV w (Nw w0 w) .u8 (.slice A (strip (be8 (y.natAbs : Int))).length c) (strip (be8 (y.natAbs : Int)))) (hy : y = iv t.neg t.mag) (h0 : -18446744073709551616 < y) (h1 : y < 18446744073709551616) :
    Calls Tryz.prog 14 #[valI (decide (y < 0)) (.slice A (strip (be8 (y.natAbs : Int))).length c), v.agg] (w.alloc (.cells #[.int .i64 2, .bool (decide (y < 0)), .slice A (strip (be8 (y.natAbs : Int))).length c, .int .u64 0, .string { data := #[] }, .slice none 0 0] 26)) fun e w' => e = .returned (.bool true) ∧ Below (w.alloc (.cells #[.int .i64 2, .bool (decide (y < 0)), .slice A (strip (be8 (y.natAbs : Int))).length c, .int .u64 0, .string { data := #[] }, .slice none 0 0] 26)).heap.size (w.alloc (.cells #[.int .i64 2, .bool (decide (y < 0)), .slice A (strip (be8 (y.natAbs : Int))).length c, .int .u64 0, .string { data := #[] }, .slice none 0 0] 26)) w' := by
  obtain ⟨A2, c2, hq, _, _⟩ := h.kids
  obtain ⟨S, h2, h3⟩ := h
  obtain ⟨e1, e2, e3, e4, hm⟩ := h2.head
  have hk2 : t.k = 2 := by rw [← e1]; exact hk
  have hkids : t.kids = [] := g.leaf (by omega)
  have htx : t.text = noText := g.head.notx (by omega) (by omega)
  have hbn := (bv_bd g.head.by_).1
  have hmag : strip (be8 (y.natAbs : Int)) = t.mag := by
    refine lead_inj (be8_by _).strip g.head.by_ (strip_lead _) g.head.lead ?_
    rw [bv_strip, bv_be8 _ (by omega) (by omega), hy]
    unfold iv
    split <;> omega
  have hneg : decide (y < 0) = t.neg := by
    cases hn : t.neg
    · refine decide_eq_false ?_
      rw [hy, hn]
      unfold iv
      simp only [Bool.false_eq_true, if_false]
      omega
    · refine decide_eq_true ?_
      have hne := g.head.sgn hn
      have : bv t.mag ≠ 0 := fun e => hne (lead_inj g.head.by_ ByL.nil g.head.lead (.inl rfl) (by rw [e]; rfl))
      rw [hy, hn]
      unfold iv
      simp only [if_true]
      omega
  obtain ⟨k, n, m, b, s, q⟩ := v
  simp only at e1 e2 e3 e4 hq hk hm
  subst hk e2 e3 e4 hq
  rw [hkids, htx]
  rw [hmag] at hs ⊢
  rw [hneg]
  have hal := below_al (Below.refl w.heap.size w) (.cells #[.int .i64 2, .bool t.neg, .slice A t.mag.length c, .int .u64 0, .string { data := #[] }, .slice none 0 0] 26)
  have hst := fun (S : Nat → Prop) (hS : ∀ k, S k → k < w.heap.size) => still_below hal hS
  exact same_num (fun k => k < w.heap.size) S t.neg _ m t.mag t.bits A2 c2 (by have := g.head.ml; omega) _ ((hs.mono (fun k hk => hk.2)).keep (hst _ (fun k hk => hk))) (hm.keep (hst _ h3)) (fun k hk => Nat.lt_of_lt_of_le hk hal.size) (fun k hk => Nat.lt_of_lt_of_le (h3 k hk) hal.size)

set_option maxHeartbeats 2000000 in
theorem fnAsInt_any {t0 : Tr} {x : Vc} {w : World} (h : HV 3 t0 x w) (hin : InT 3 t0) (hG : GL w) (kd bf : Int) (hk0 : 0 ≤ kd) (hk1 : kd < 256) (hb0 : 0 ≤ bf) (hb1 : bf < 256) :
    Calls Tryz.prog 3 #[x.agg, .int .u8 kd, .int .u8 bf] w fun e w' => e = .returned (.bool true) ∧ Below w.heap.size w w' := by
  obtain ⟨k, hk, e1, e2, e3, e4⟩ := dec11 kd hk0 hk1
  obtain ⟨kk, kn, A, l, c, b, s, A', l', c', rfl⟩ := h.shape
  have hl1 : Below w.heap.size w (w.alloc (.cells (VcB ⟨kk, kn, .slice A l c, b, s, .slice A' l' c'⟩) 26)) := below_al (Below.refl _ _) _
  have HF := Lib.hid (fits1_any (h.up hl1))
  have HT := Lib.hid (fun W (hW : Below (w.alloc (.cells (VcB ⟨kk, kn, .slice A l c, b, s, .slice A' l' c'⟩) 26)).heap.size (w.alloc (.cells (VcB ⟨kk, kn, .slice A l c, b, s, .slice A' l' c'⟩) 26)) W) => told_any (h.up (below_up hl1 hW)) hin)
  have HBX := Lib.hid (Blk.new w 26 (VcB ⟨kk, kn, .slice A l c, b, s, .slice A' l' c'⟩))
  have HL1 := Lib.hid hl1
  have HG := Lib.hid hG
  have HBI := Lib.hid (fun w => asIntBits_any k hk w)
  have HBF := Lib.hid (And.intro hb0 hb1)
  have HK := Lib.hid hk
  have HE := Lib.hid (And.intro e1 (And.intro e2 (And.intro e3 e4)))
  have HSZ : Hid ((w.alloc (.cells (VcB ⟨kk, kn, .slice A l c, b, s, .slice A' l' c'⟩) 26)).heap.size = w.heap.size + 1) := Lib.hid (by simp)
  clear h hin hG hl1 hk0 hk1 hb0 hb1 hk e1 e2 e3 e4
  go_enter Tryz.func3, Tryz.ntmps3
  go_wp2_with fail
  refine HF.out.mono ?_
  rintro e w1 ⟨r, rfl, hb⟩
  have HB1 := Lib.hid hb
  have hbx1 := HBX.out.below hb HBX.out.lt
  have HBX1 := Lib.hid hbx1
  have j0 := hbx1.cell 0
  have j1 := hbx1.cell 1
  have j2 := hbx1.cell 2
  have j3 := hbx1.cell 3
  have j4 := hbx1.cell 4
  have j5 := hbx1.cell 5
  simp at j0 j1 j2 j3 j4 j5
  clear hbx1 hb HF
  cases r
  · go_wp2
    go_ret
    exact ⟨rfl, below_up HL1.out HB1.out⟩
  · have HTO := Lib.hid (HT.out w1 HB1.out)
    clear HT
    go_wp2_with fail
    refine HTO.out.mono ?_
    rintro e w2 ⟨t, yv, rfl, hg, hm, hV, hb2⟩
    obtain ⟨yk, yn, Ay, ly, cy, yb, ys, Aq, lq, cq, rfl⟩ := hV.shape
    have HGM := Lib.hid (And.intro hg hm)
    have hbx2 := HBX1.out.below hb2 HBX1.out.lt
    have HB2 := Lib.hid (below_up (below_up HL1.out HB1.out) hb2)
    have HV2 : Hid (HVB (w.heap.size + 1) 4 t ⟨yk, yn, .slice Ay ly cy, yb, ys, .slice Aq lq cq⟩ w2) := Lib.hid (hV.low (fun k hk => by
      rcases hk with h | h
      · exact .inl h
      · refine .inr (Nat.le_trans ?_ h)
        have := HB1.out.size
        rw [HSZ.out] at this
        exact this))
    have HBX2 := Lib.hid hbx2
    have HYK : Hid (yk = t.k) := Lib.hid (by obtain ⟨S, h1, _⟩ := hV; exact h1.head.k)
    have y0 := hbx2.frozen 0
    have y1 := hbx2.frozen 1
    have y2 := hbx2.frozen 2
    have y3 := hbx2.frozen 3
    have y4 := hbx2.frozen 4
    have y5 := hbx2.frozen 5
    have j0 := hbx2.cell 0
    have j1 := hbx2.cell 1
    have j2 := hbx2.cell 2
    have j3 := hbx2.cell 3
    have j4 := hbx2.cell 4
    have j5 := hbx2.cell 5
    have gl := hbx2.lt
    simp at j0 j1 j2 j3 j4 j5
    clear hbx2 hb2 hg hm hV HTO HBX1 HB1
    obtain ⟨e1, e2, e3, e4⟩ := HE.out
    go_wp2_with fail
    have HS3 : Hid (FaS w t ⟨yk, yn, .slice Ay ly cy, yb, ys, .slice Aq lq cq⟩ ((((((w2.setCell ⟨w.heap.size, 0, none⟩ (.int .i64 yk)).setCell ⟨w.heap.size, 1, none⟩ (.bool yn)).setCell ⟨w.heap.size, 2, none⟩ (.slice Ay ly cy)).setCell ⟨w.heap.size, 3, none⟩ (.int .u64 yb)).setCell ⟨w.heap.size, 4, none⟩ (.string ys)).setCell ⟨w.heap.size, 5, none⟩ (.slice Aq lq cq))) :=
      Lib.hid ⟨low6 HB2.out w.heap.size (Nat.le_refl _) _ _ _ _ _ _, set6 HBX2.out _ _ _ _ _ _, HV2.out.set6 (Nat.zero_le _) (Nat.lt_succ_self _) _ _ _ _ _ _⟩
    clear HB2 HBX2 HV2 y0 y1 y2 y3 y4 y5 j0 j1 j2 j3 j4 j5 gl e1 e2 e3 e4
    obtain ⟨bn, hbn⟩ : ∃ bn, bn = bitsK k := ⟨_, rfl⟩
    rw [← hbn] at HBI
    have HBN : Hid (8 ≤ bn ∧ bn ≤ 64 ∧ bn = bitsK k) := Lib.hid (by
      have hk := HK.out
      have hcase : k = 0 ∨ k = 1 ∨ k = 2 ∨ k = 3 ∨ k = 4 ∨ k = 5 ∨ k = 6 ∨ k = 7 ∨ k = 8 ∨ k = 9 ∨ k = 10 := by omega
      refine ⟨?_, ?_, hbn⟩ <;> (rw [hbn]; rcases hcase with h | h | h | h | h | h | h | h | h | h | h <;> rw [h] <;> decide))
    clear hbn
    by_cases h2 : yk = 2
    · subst h2
      have hk2 : t.k = 2 := HYK.out.symm
      have HK2 : Hid ((2 : Int) = 2) := Lib.hid rfl
      have HT2 := Lib.hid hk2
      obtain ⟨xv, hxv⟩ : ∃ xv, xv = iv t.neg t.mag := ⟨_, rfl⟩
      have HXV := Lib.hid hxv
      have HSM0 := Lib.hid (fun w => smallI 0 (by decide) (by decide) w)
      have HPW := Lib.hid (fun w => power_any bn (by have := HBN.out; omega) w)
      clear hk2 hxv
      by_cases h5 : k < 5
      · have HBJ : Hid (∀ w : World, Calls Tryz.prog 7 #[.int .i64 (k : Int)] w fun e w' => e = .returned (.tuple #[.int .i64 (bn : Int), .bool true]) ∧ Below w.heap.size w w') := Lib.hid fun w => by
          rw [← decide_eq_true h5]
          exact HBI.out w
        have HPW1 := Lib.hid (fun w => power_any (bn - 1) (by have := HBN.out; omega) w)
        rw [show ((bn - 1 : Nat) : Int) = (bn : Int) - 1 by have := HBN.out; omega] at HPW1
        have wq5 : wrap64 ((bn : Int) - 1) = (bn : Int) - 1 := by have := HBN.out; unfold wrap64; omega
        have wq6 : IntKind.i64.wrap ((bn : Int) - 1) = (bn : Int) - 1 := by have := HBN.out; rw [IntKind.wrap_i64]; omega
        clear HBI
        refine (HBJ.out _).mono ?_
        rintro e w4 ⟨rfl, hb⟩
        have HS4 := Lib.hid (HS3.out.up hb)
        clear hb HS3 HBJ
        have j0 := HS4.out.bx.cell 0
        have j1 := HS4.out.bx.cell 1
        have j2 := HS4.out.bx.cell 2
        have j3 := HS4.out.bx.cell 3
        have j4 := HS4.out.bx.cell 4
        have j5 := HS4.out.bx.cell 5
        simp at j0 j1 j2 j3 j4 j5
        go_wp2_with fail
        refine (HSM0.out _).mono ?_
        rintro e w5 ⟨v0, rfl, h0, hb⟩
        have HS5 := Lib.hid (HS4.out.up hb)
        have H0 := Lib.hid h0
        clear hb h0 HSM0 HS4 j0 j1 j2 j3 j4 j5
        go_wp2_with fail
        refine (HPW.out _).mono ?_
        rintro e w6 ⟨v1, rfl, h1, hb⟩
        have HS6 := Lib.hid (HS5.out.up hb)
        obtain ⟨n0, A0, m0, c0, rfl⟩ := H0.out.shape
        obtain ⟨n1, A1, m1, c1, rfl⟩ := h1.shape
        have hq1 := below_al (Below.refl w6.heap.size w6) (.cells #[.bool n0, .slice A0 m0 c0] 32)
        have hq2 := below_al hq1 (.cells #[.bool n1, .slice A1 m1 c1] 32)
        have hz6 : (w6.alloc (.cells #[.bool n0, .slice A0 m0 c0] 32)).heap.size = w6.heap.size + 1 := by simp
        have hz7 : ((w6.alloc (.cells #[.bool n0, .slice A0 m0 c0] 32)).alloc (.cells #[.bool n1, .slice A1 m1 c1] 32)).heap.size = w6.heap.size + 2 := by simp
        have hrh := Blk.new (w6.alloc (.cells #[.bool n0, .slice A0 m0 c0] 32)) 32 #[.bool n1, .slice A1 m1 c1]
        rw [hz6] at hrh
        have RL0 := Lib.hid ((Blk.new w6 32 #[.bool n0, .slice A0 m0 c0]).alloc (.cells #[.bool n1, .slice A1 m1 c1] 32))
        have RH0 := Lib.hid hrh
        have LO0 := Lib.hid hq2
        have HZ7 := Lib.hid hz7
        clear hb h1 H0 HPW HS5 hq1 hq2 hz6 hrh hz7
        have HLK : Hid (loK k = -(2 ^ (bn - 1))) := Lib.hid (by unfold loK; rw [if_pos h5, HBN.out.2.2])
        have HHK : Hid (hiK k = 2 ^ (bn - 1)) := Lib.hid (by unfold hiK; rw [if_pos h5, HBN.out.2.2])
        go_wp2_with fail
        refine (HPW1.out _).mono ?_
        rintro e w7 ⟨v2, rfl, h2, hb⟩
        obtain ⟨n2, A2, m2, c2, rfl⟩ := h2.shape
        have RL7 := Lib.hid (RL0.out.below hb RL0.out.lt)
        have RH7 := Lib.hid (RH0.out.below hb RH0.out.lt)
        have LO7 := Lib.hid (LO0.out.trans (hb.mono LO0.out.size))
        have hx2 := h2
        rw [HZ7.out] at hx2
        have H2 := Lib.hid hx2
        have q0 := RH7.out.cell 0
        have q1 := RH7.out.cell 1
        have g0 := RH7.out.frozen 0
        have g1 := RH7.out.frozen 1
        have gl := RH7.out.lt
        simp at q0 q1
        clear hb h2 hx2 RL0 RH0 LO0 HPW1 wq5 wq6
        go_upto_region 11 with fail
        generalize hw8 : ((w7.setCell ⟨w6.heap.size + 1, 0, none⟩ (.bool n2)).setCell ⟨w6.heap.size + 1, 1, none⟩ (.slice A2 m2 c2)) = w8
        have RL8 : Hid (Blk w8 w6.heap.size 32 #[.bool n0, .slice A0 m0 c0]) := Lib.hid (by rw [← hw8]; exact (RL7.out.far (p := ⟨w6.heap.size + 1, 0, none⟩) (by simp) _).far (p := ⟨w6.heap.size + 1, 1, none⟩) (by simp) _)
        have RH8 : Hid (Blk w8 (w6.heap.size + 1) 32 #[.bool n2, .slice A2 m2 c2]) := Lib.hid (by rw [← hw8]; exact res2 RH7.out)
        have LO8 : Hid (Below w6.heap.size w6 w8) := Lib.hid (by rw [← hw8]; exact (LO7.out.setCell (p := ⟨w6.heap.size + 1, 0, none⟩) (Nat.le_succ _) _).setCell (p := ⟨w6.heap.size + 1, 1, none⟩) (Nat.le_succ _) _)
        have H28 : Hid (HI ((bn - 1) / 8 + 1) (w6.heap.size + 2) (2 ^ (bn - 1)) (.agg #[.bool n2, .slice A2 m2 c2]) w8) := Lib.hid (by rw [← hw8]; exact (H2.out.set (g := w6.heap.size + 1) (by omega) 0 _).set (g := w6.heap.size + 1) (by omega) 1 _)
        clear hw8 RL7 RH7 LO7 H2 q0 q1 g0 g1 gl
        have q0 := RH8.out.cell 0
        have q1 := RH8.out.cell 1
        simp at q0 q1
        go_wp2_with fail
        refine (minusI (by have := HBN.out; omega) H28.out).mono ?_
        rintro e w9 ⟨v3, rfl, h3, hb⟩
        obtain ⟨n3, A3, m3, c3, rfl⟩ := h3.shape
        have RL9 := Lib.hid (RL8.out.below hb RL8.out.lt)
        have RH9 := Lib.hid (RH8.out.below hb RH8.out.lt)
        have LO9 := Lib.hid (LO8.out.trans (hb.mono LO8.out.size))
        have H29 := Lib.hid (H28.out.up hb)
        have H3 := Lib.hid (h3.low (B' := w6.heap.size + 2) (L' := (bn - 1) / 8 + 1) (Nat.succ_le_of_lt RH8.out.lt) (Nat.le_refl _))
        clear hb h3 RL8 RH8 LO8 H28 q0 q1
        have q0 := RL9.out.cell 0
        have q1 := RL9.out.cell 1
        have g0 := RL9.out.frozen 0
        have g1 := RL9.out.frozen 1
        have gl := RL9.out.lt
        simp at q0 q1
        go_upto_region 12 with fail
        generalize hw10 : ((w9.setCell ⟨w6.heap.size, 0, none⟩ (.bool n3)).setCell ⟨w6.heap.size, 1, none⟩ (.slice A3 m3 c3)) = w10
        have RL : Hid (Blk w10 w6.heap.size 32 #[.bool n3, .slice A3 m3 c3]) := Lib.hid (by rw [← hw10]; exact res2 RL9.out)
        have RH : Hid (Blk w10 (w6.heap.size + 1) 32 #[.bool n2, .slice A2 m2 c2]) := Lib.hid (by rw [← hw10]; exact (RH9.out.far (p := ⟨w6.heap.size, 0, none⟩) (by simp) _).far (p := ⟨w6.heap.size, 1, none⟩) (by simp) _)
        have LOA : Hid (Below w6.heap.size w6 w10) := Lib.hid (by rw [← hw10]; exact (LO9.out.setCell (p := ⟨w6.heap.size, 0, none⟩) (Nat.le_refl _) _).setCell (p := ⟨w6.heap.size, 1, none⟩) (Nat.le_refl _) _)
        have HHI : Hid (HI ((bn - 1) / 8 + 1) (w6.heap.size + 2) (2 ^ (bn - 1)) (.agg #[.bool n2, .slice A2 m2 c2]) w10) := Lib.hid (by rw [← hw10]; exact (H29.out.set (g := w6.heap.size) (by omega) 0 _).set (g := w6.heap.size) (by omega) 1 _)
        have HLO : Hid (HI ((bn - 1) / 8 + 1) (w6.heap.size + 2) (-(2 ^ (bn - 1))) (.agg #[.bool n3, .slice A3 m3 c3]) w10) := Lib.hid (by rw [← hw10]; exact (H3.out.set (g := w6.heap.size) (by omega) 0 _).set (g := w6.heap.size) (by omega) 1 _)
        clear hw10 RL9 RH9 LO9 H29 H3 q0 q1 g0 g1 gl
        have HSA := Lib.hid (HS6.out.up LOA.out)
        have j0 := HSA.out.bx.cell 0
        have j1 := HSA.out.bx.cell 1
        have j2 := HSA.out.bx.cell 2
        have j3 := HSA.out.bx.cell 3
        have j4 := HSA.out.bx.cell 4
        have j5 := HSA.out.bx.cell 5
        simp at j0 j1 j2 j3 j4 j5
        have k0 := RL.out.cell 0
        have k1 := RL.out.cell 1
        have l0 := RH.out.cell 0
        have l1 := RH.out.cell 1
        simp at k0 k1 l0 l1
        clear HS6 LOA
        go_wp2_with fail
        refine (numV HSA.out.hv.hv HGM.out.1.head).mono ?_
        rintro e wB ⟨v4, rfl, h4, hb⟩
        obtain ⟨n4, A4, m4, c4, rfl⟩ := h4.shape
        rw [← HXV.out] at h4
        have H4 := Lib.hid (h4.up (below_al (Below.refl wB.heap.size wB) (.cells #[.bool n4, .slice A4 m4 c4] 32)))
        have HSC := Lib.hid ((HSA.out.up hb).al (.cells #[.bool n4, .slice A4 m4 c4] 32))
        have RL2 := Lib.hid ((RL.out.below hb RL.out.lt).alloc (.cells #[.bool n4, .slice A4 m4 c4] 32))
        have RH2 := Lib.hid ((RH.out.below hb RH.out.lt).alloc (.cells #[.bool n4, .slice A4 m4 c4] 32))
        have HLO2 := Lib.hid ((HLO.out.up hb).up (below_al (Below.refl wB.heap.size wB) (.cells #[.bool n4, .slice A4 m4 c4] 32)))
        have HHI2 := Lib.hid ((HHI.out.up hb).up (below_al (Below.refl wB.heap.size wB) (.cells #[.bool n4, .slice A4 m4 c4] 32)))
        have RX := Lib.hid (Blk.new wB 32 #[.bool n4, .slice A4 m4 c4])
        obtain ⟨wC, hwC⟩ : ∃ wC, wC = wB.alloc (.cells #[.bool n4, .slice A4 m4 c4] 32) := ⟨_, rfl⟩
        rw [← hwC] at H4 HSC RL2 RH2 HLO2 HHI2 RX
        clear h4 hb HSA RL RH HLO HHI k0 k1 l0 l1 j0 j1 j2 j3 j4 j5
        go_upto_region 13 with fail
        rw [← hwC]
        clear hwC
        have k0 := RL2.out.cell 0
        have k1 := RL2.out.cell 1
        have x0 := RX.out.cell 0
        have x1 := RX.out.cell 1
        simp at k0 k1 x0 x1
        go_wp2_with fail
        refine (cmpII (by have := HBN.out; omega) (by have := HBN.out; omega) H4.out HLO2.out).mono ?_
        rintro e wD ⟨rfl, hb⟩
        have HSD := Lib.hid (HSC.out.up hb)
        have RHD := Lib.hid (RH2.out.below hb RH2.out.lt)
        have RXD := Lib.hid (RX.out.below hb RX.out.lt)
        have HHID := Lib.hid (HHI2.out.up hb)
        have H4D := Lib.hid (H4.out.up hb)
        clear hb HSC RL2 RH2 HLO2 HHI2 RX H4 k0 k1 x0 x1
        by_cases p1 : -(2 ^ (bn - 1)) ≤ xv
        · obtain ⟨C1, hC1⟩ : ∃ C1, C1 = sgnc xv (-(2 ^ (bn - 1))) := ⟨_, rfl⟩
          have hC2 : 0 ≤ C1 := by rw [hC1]; unfold sgnc; rw [if_neg (by omega)]; split <;> decide
          rw [← hC1]
          have HP1 := Lib.hid p1
          have d1 := dec_yes hC2
          have l0 := RHD.out.cell 0
          have l1 := RHD.out.cell 1
          have x0 := RXD.out.cell 0
          have x1 := RXD.out.cell 1
          simp at l0 l1 x0 x1
          clear hC1 p1
          go_wp2_with fail
          refine (cmpII (by have := HBN.out; omega) (by have := HBN.out; omega) H4D.out HHID.out).mono ?_
          rintro e wE ⟨rfl, hb⟩
          have HSE := Lib.hid (HSD.out.up hb)
          clear hb HSD RHD RXD HHID H4D l0 l1 x0 x1
          by_cases p2 : xv < 2 ^ (bn - 1)
          · have hC3 : sgnc xv (2 ^ (bn - 1)) = -1 := sgnc_lt p2
            have FEQ : Hid (t.k = 2 ∧ loK k ≤ iv t.neg t.mag ∧ iv t.neg t.mag < hiK k) := Lib.hid ⟨HT2.out, by rw [HLK.out, ← HXV.out]; exact HP1.out, by rw [HHK.out, ← HXV.out]; exact p2⟩
            rw [hC3]
            clear hC3 p2
            have j0 := HSE.out.bx.cell 0
            have j1 := HSE.out.bx.cell 1
            have j2 := HSE.out.bx.cell 2
            have j3 := HSE.out.bx.cell 3
            have j4 := HSE.out.bx.cell 4
            have j5 := HSE.out.bx.cell 5
            simp at j0 j1 j2 j3 j4 j5
            have HC := Lib.hid (asInt_all HSE.out.hv.hv HGM.out.1 HGM.out.2 (HG.out.up HSE.out.lo) bf HBF.out.1 HBF.out.2 k HK.out)
            go_wp2_with fail
            refine HC.out.mono ?_
            rintro e w7 ⟨y, A3, c3, ok, rfl, hs, hok, hx, hy0, hy1, hb⟩
            have HS7 := Lib.hid (HSE.out.up hb)
            have HNOW := Lib.hid (And.intro hs (And.intro hx (And.intro hy0 hy1)))
            obtain rfl : ok = true := by
              cases ok
              · exact absurd (hok.2 (FEQ.out)) (by decide)
              · rfl
            clear hs hok hx hy0 hy1 hb HC HSE j0 j1 j2 j3 j4 j5
            have hyx := HNOW.out.2.1 FEQ.out
            have HSM := Lib.hid (same_now HGM.out.1 rfl HS7.out.hv.hv HNOW.out.1 hyx HNOW.out.2.2.1 HNOW.out.2.2.2)
            have HAL := Lib.hid (HS7.out.al (.cells #[.int .i64 2, .bool (decide (y < 0)), .slice A3 (strip (be8 (y.natAbs : Int))).length c3, .int .u64 0, .string { data := #[] }, .slice none 0 0] 26))
            have HNB := Lib.hid (Blk.new w7 26 #[.int .i64 2, .bool (decide (y < 0)), .slice A3 (strip (be8 (y.natAbs : Int))).length c3, .int .u64 0, .string { data := #[] }, .slice none 0 0])
            obtain ⟨w9, hw9⟩ : ∃ w9, w9 = w7.alloc (.cells #[.int .i64 2, .bool (decide (y < 0)), .slice A3 (strip (be8 (y.natAbs : Int))).length c3, .int .u64 0, .string { data := #[] }, .slice none 0 0] 26) := ⟨_, rfl⟩
            rw [← hw9] at HSM HAL HNB
            clear hyx
            go_upto_region 15 with fail
            rw [← hw9]
            clear hw9
            have j0 := HAL.out.bx.cell 0
            have j1 := HAL.out.bx.cell 1
            have j2 := HAL.out.bx.cell 2
            have j3 := HAL.out.bx.cell 3
            have j4 := HAL.out.bx.cell 4
            have j5 := HAL.out.bx.cell 5
            have i0 := HNB.out.cell 0
            have i1 := HNB.out.cell 1
            have i2 := HNB.out.cell 2
            have i3 := HNB.out.cell 3
            have i4 := HNB.out.cell 4
            have i5 := HNB.out.cell 5
            simp at j0 j1 j2 j3 j4 j5 i0 i1 i2 i3 i4 i5
            go_wp2_with fail
            refine HSM.out.mono ?_
            rintro e w8 ⟨rfl, hb⟩
            have HL8 := Lib.hid (below_up HAL.out.lo hb)
            clear hb
            go_wp2
            go_ret
            exact ⟨rfl, HL8.out⟩
          · obtain ⟨C2, hC3⟩ : ∃ C2, C2 = sgnc xv (2 ^ (bn - 1)) := ⟨_, rfl⟩
            have hC4 : ¬ C2 < 0 := by rw [hC3]; unfold sgnc; rw [if_neg p2]; split <;> decide
            have FEQ : Hid (¬ (t.k = 2 ∧ loK k ≤ iv t.neg t.mag ∧ iv t.neg t.mag < hiK k)) := Lib.hid (fun h => p2 (by have := h.2.2; rw [HHK.out, ← HXV.out] at this; exact this))
            rw [← hC3]
            have d2 := dec_no hC4
            clear hC3 p2
            have j0 := HSE.out.bx.cell 0
            have j1 := HSE.out.bx.cell 1
            have j2 := HSE.out.bx.cell 2
            have j3 := HSE.out.bx.cell 3
            have j4 := HSE.out.bx.cell 4
            have j5 := HSE.out.bx.cell 5
            simp at j0 j1 j2 j3 j4 j5
            have HC := Lib.hid (asInt_all HSE.out.hv.hv HGM.out.1 HGM.out.2 (HG.out.up HSE.out.lo) bf HBF.out.1 HBF.out.2 k HK.out)
            go_wp2_with fail
            refine HC.out.mono ?_
            rintro e w7 ⟨y, A3, c3, ok, rfl, hs, hok, hx, hy0, hy1, hb⟩
            have HS7 := Lib.hid (HSE.out.up hb)
            have HNOW := Lib.hid (And.intro hs (And.intro hx (And.intro hy0 hy1)))
            obtain rfl : ok = false := by
              cases ok
              · rfl
              · exact absurd (hok.1 rfl) FEQ.out
            clear hs hok hx hy0 hy1 hb HC HSE j0 j1 j2 j3 j4 j5
            go_wp2
            go_ret
            exact ⟨rfl, below_al HS7.out.lo _⟩
        · have hC3 : sgnc xv (-(2 ^ (bn - 1))) = -1 := sgnc_lt (by omega)
          have FEQ : Hid (¬ (t.k = 2 ∧ loK k ≤ iv t.neg t.mag ∧ iv t.neg t.mag < hiK k)) := Lib.hid (fun h => p1 (by have := h.2.1; rw [HLK.out, ← HXV.out] at this; exact this))
          rw [hC3]
          clear hC3 p1
          have j0 := HSD.out.bx.cell 0
          have j1 := HSD.out.bx.cell 1
          have j2 := HSD.out.bx.cell 2
          have j3 := HSD.out.bx.cell 3
          have j4 := HSD.out.bx.cell 4
          have j5 := HSD.out.bx.cell 5
          simp at j0 j1 j2 j3 j4 j5
          have HC := Lib.hid (asInt_all HSD.out.hv.hv HGM.out.1 HGM.out.2 (HG.out.up HSD.out.lo) bf HBF.out.1 HBF.out.2 k HK.out)
          go_wp2_with fail
          refine HC.out.mono ?_
          rintro e w7 ⟨y, A3, c3, ok, rfl, hs, hok, hx, hy0, hy1, hb⟩
          have HS7 := Lib.hid (HSD.out.up hb)
          have HNOW := Lib.hid (And.intro hs (And.intro hx (And.intro hy0 hy1)))
          obtain rfl : ok = false := by
            cases ok
            · rfl
            · exact absurd (hok.1 rfl) FEQ.out
          clear hs hok hx hy0 hy1 hb HC HSD j0 j1 j2 j3 j4 j5
          go_wp2
          go_ret
          exact ⟨rfl, below_al HS7.out.lo _⟩
      · have HBJ : Hid (∀ w : World, Calls Tryz.prog 7 #[.int .i64 (k : Int)] w fun e w' => e = .returned (.tuple #[.int .i64 (bn : Int), .bool false]) ∧ Below w.heap.size w w') := Lib.hid fun w => by
          rw [← decide_eq_false h5]
          exact HBI.out w
        have HLK : Hid (loK k = 0) := Lib.hid (by unfold loK; rw [if_neg h5])
        have HHK : Hid (hiK k = 2 ^ bn) := Lib.hid (by unfold hiK; rw [if_neg h5, HBN.out.2.2])
        clear HBI
        refine (HBJ.out _).mono ?_
        rintro e w4 ⟨rfl, hb⟩
        have HS4 := Lib.hid (HS3.out.up hb)
        clear hb HS3 HBJ
        have j0 := HS4.out.bx.cell 0
        have j1 := HS4.out.bx.cell 1
        have j2 := HS4.out.bx.cell 2
        have j3 := HS4.out.bx.cell 3
        have j4 := HS4.out.bx.cell 4
        have j5 := HS4.out.bx.cell 5
        simp at j0 j1 j2 j3 j4 j5
        go_wp2_with fail
        refine (HSM0.out _).mono ?_
        rintro e w5 ⟨v0, rfl, h0, hb⟩
        have HS5 := Lib.hid (HS4.out.up hb)
        have H0 := Lib.hid h0
        clear hb h0 HSM0 HS4 j0 j1 j2 j3 j4 j5
        go_wp2_with fail
        refine (HPW.out _).mono ?_
        rintro e w6 ⟨v1, rfl, h1, hb⟩
        have HS6 := Lib.hid (HS5.out.up hb)
        obtain ⟨n0, A0, m0, c0, rfl⟩ := H0.out.shape
        obtain ⟨n1, A1, m1, c1, rfl⟩ := h1.shape
        have hq1 := below_al (Below.refl w6.heap.size w6) (.cells #[.bool n0, .slice A0 m0 c0] 32)
        have hq2 := below_al hq1 (.cells #[.bool n1, .slice A1 m1 c1] 32)
        have hz6 : (w6.alloc (.cells #[.bool n0, .slice A0 m0 c0] 32)).heap.size = w6.heap.size + 1 := by simp
        have hrh := Blk.new (w6.alloc (.cells #[.bool n0, .slice A0 m0 c0] 32)) 32 #[.bool n1, .slice A1 m1 c1]
        rw [hz6] at hrh
        have RL := Lib.hid ((Blk.new w6 32 #[.bool n0, .slice A0 m0 c0]).alloc (.cells #[.bool n1, .slice A1 m1 c1] 32))
        have RH := Lib.hid hrh
        have LOA := Lib.hid hq2
        have HLO := Lib.hid ((H0.out.up hb).up hq2)
        have HHI := Lib.hid (h1.up hq2)
        clear hb h1 H0 HPW HS5 hq1 hq2 hz6 hrh
        have HSA := Lib.hid (HS6.out.up LOA.out)
        have j0 := HSA.out.bx.cell 0
        have j1 := HSA.out.bx.cell 1
        have j2 := HSA.out.bx.cell 2
        have j3 := HSA.out.bx.cell 3
        have j4 := HSA.out.bx.cell 4
        have j5 := HSA.out.bx.cell 5
        simp at j0 j1 j2 j3 j4 j5
        have k0 := RL.out.cell 0
        have k1 := RL.out.cell 1
        have l0 := RH.out.cell 0
        have l1 := RH.out.cell 1
        simp at k0 k1 l0 l1
        clear HS6 LOA
        go_wp2_with fail
        refine (numV HSA.out.hv.hv HGM.out.1.head).mono ?_
        rintro e wB ⟨v4, rfl, h4, hb⟩
        obtain ⟨n4, A4, m4, c4, rfl⟩ := h4.shape
        rw [← HXV.out] at h4
        have H4 := Lib.hid (h4.up (below_al (Below.refl wB.heap.size wB) (.cells #[.bool n4, .slice A4 m4 c4] 32)))
        have HSC := Lib.hid ((HSA.out.up hb).al (.cells #[.bool n4, .slice A4 m4 c4] 32))
        have RL2 := Lib.hid ((RL.out.below hb RL.out.lt).alloc (.cells #[.bool n4, .slice A4 m4 c4] 32))
        have RH2 := Lib.hid ((RH.out.below hb RH.out.lt).alloc (.cells #[.bool n4, .slice A4 m4 c4] 32))
        have HLO2 := Lib.hid ((HLO.out.up hb).up (below_al (Below.refl wB.heap.size wB) (.cells #[.bool n4, .slice A4 m4 c4] 32)))
        have HHI2 := Lib.hid ((HHI.out.up hb).up (below_al (Below.refl wB.heap.size wB) (.cells #[.bool n4, .slice A4 m4 c4] 32)))
        have RX := Lib.hid (Blk.new wB 32 #[.bool n4, .slice A4 m4 c4])
        obtain ⟨wC, hwC⟩ : ∃ wC, wC = wB.alloc (.cells #[.bool n4, .slice A4 m4 c4] 32) := ⟨_, rfl⟩
        rw [← hwC] at H4 HSC RL2 RH2 HLO2 HHI2 RX
        clear h4 hb HSA RL RH HLO HHI k0 k1 l0 l1 j0 j1 j2 j3 j4 j5
        go_upto_region 13 with fail
        rw [← hwC]
        clear hwC
        have k0 := RL2.out.cell 0
        have k1 := RL2.out.cell 1
        have x0 := RX.out.cell 0
        have x1 := RX.out.cell 1
        simp at k0 k1 x0 x1
        go_wp2_with fail
        refine (cmpII (by have := HBN.out; omega) (by have := HBN.out; omega) H4.out HLO2.out).mono ?_
        rintro e wD ⟨rfl, hb⟩
        have HSD := Lib.hid (HSC.out.up hb)
        have RHD := Lib.hid (RH2.out.below hb RH2.out.lt)
        have RXD := Lib.hid (RX.out.below hb RX.out.lt)
        have HHID := Lib.hid (HHI2.out.up hb)
        have H4D := Lib.hid (H4.out.up hb)
        clear hb HSC RL2 RH2 HLO2 HHI2 RX H4 k0 k1 x0 x1
        by_cases p1 : 0 ≤ xv
        · obtain ⟨C1, hC1⟩ : ∃ C1, C1 = sgnc xv (0) := ⟨_, rfl⟩
          have hC2 : 0 ≤ C1 := by rw [hC1]; unfold sgnc; rw [if_neg (by omega)]; split <;> decide
          rw [← hC1]
          have HP1 := Lib.hid p1
          have d1 := dec_yes hC2
          have l0 := RHD.out.cell 0
          have l1 := RHD.out.cell 1
          have x0 := RXD.out.cell 0
          have x1 := RXD.out.cell 1
          simp at l0 l1 x0 x1
          clear hC1 p1
          go_wp2_with fail
          refine (cmpII (by have := HBN.out; omega) (by have := HBN.out; omega) H4D.out HHID.out).mono ?_
          rintro e wE ⟨rfl, hb⟩
          have HSE := Lib.hid (HSD.out.up hb)
          clear hb HSD RHD RXD HHID H4D l0 l1 x0 x1
          by_cases p2 : xv < 2 ^ bn
          · have hC3 : sgnc xv (2 ^ bn) = -1 := sgnc_lt p2
            have FEQ : Hid (t.k = 2 ∧ loK k ≤ iv t.neg t.mag ∧ iv t.neg t.mag < hiK k) := Lib.hid ⟨HT2.out, by rw [HLK.out, ← HXV.out]; exact HP1.out, by rw [HHK.out, ← HXV.out]; exact p2⟩
            rw [hC3]
            clear hC3 p2
            have j0 := HSE.out.bx.cell 0
            have j1 := HSE.out.bx.cell 1
            have j2 := HSE.out.bx.cell 2
            have j3 := HSE.out.bx.cell 3
            have j4 := HSE.out.bx.cell 4
            have j5 := HSE.out.bx.cell 5
            simp at j0 j1 j2 j3 j4 j5
            have HC := Lib.hid (asInt_all HSE.out.hv.hv HGM.out.1 HGM.out.2 (HG.out.up HSE.out.lo) bf HBF.out.1 HBF.out.2 k HK.out)
            go_wp2_with fail
            refine HC.out.mono ?_
            rintro e w7 ⟨y, A3, c3, ok, rfl, hs, hok, hx, hy0, hy1, hb⟩
            have HS7 := Lib.hid (HSE.out.up hb)
            have HNOW := Lib.hid (And.intro hs (And.intro hx (And.intro hy0 hy1)))
            obtain rfl : ok = true := by
              cases ok
              · exact absurd (hok.2 (FEQ.out)) (by decide)
              · rfl
            clear hs hok hx hy0 hy1 hb HC HSE j0 j1 j2 j3 j4 j5
            have hyx := HNOW.out.2.1 FEQ.out
            have HSM := Lib.hid (same_now HGM.out.1 rfl HS7.out.hv.hv HNOW.out.1 hyx HNOW.out.2.2.1 HNOW.out.2.2.2)
            have HAL := Lib.hid (HS7.out.al (.cells #[.int .i64 2, .bool (decide (y < 0)), .slice A3 (strip (be8 (y.natAbs : Int))).length c3, .int .u64 0, .string { data := #[] }, .slice none 0 0] 26))
            have HNB := Lib.hid (Blk.new w7 26 #[.int .i64 2, .bool (decide (y < 0)), .slice A3 (strip (be8 (y.natAbs : Int))).length c3, .int .u64 0, .string { data := #[] }, .slice none 0 0])
            obtain ⟨w9, hw9⟩ : ∃ w9, w9 = w7.alloc (.cells #[.int .i64 2, .bool (decide (y < 0)), .slice A3 (strip (be8 (y.natAbs : Int))).length c3, .int .u64 0, .string { data := #[] }, .slice none 0 0] 26) := ⟨_, rfl⟩
            rw [← hw9] at HSM HAL HNB
            clear hyx
            go_upto_region 15 with fail
            rw [← hw9]
            clear hw9
            have j0 := HAL.out.bx.cell 0
            have j1 := HAL.out.bx.cell 1
            have j2 := HAL.out.bx.cell 2
            have j3 := HAL.out.bx.cell 3
            have j4 := HAL.out.bx.cell 4
            have j5 := HAL.out.bx.cell 5
            have i0 := HNB.out.cell 0
            have i1 := HNB.out.cell 1
            have i2 := HNB.out.cell 2
            have i3 := HNB.out.cell 3
            have i4 := HNB.out.cell 4
            have i5 := HNB.out.cell 5
            simp at j0 j1 j2 j3 j4 j5 i0 i1 i2 i3 i4 i5
            go_wp2_with fail
            refine HSM.out.mono ?_
            rintro e w8 ⟨rfl, hb⟩
            have HL8 := Lib.hid (below_up HAL.out.lo hb)
            clear hb
            go_wp2
            go_ret
            exact ⟨rfl, HL8.out⟩
          · obtain ⟨C2, hC3⟩ : ∃ C2, C2 = sgnc xv (2 ^ bn) := ⟨_, rfl⟩
            have hC4 : ¬ C2 < 0 := by rw [hC3]; unfold sgnc; rw [if_neg p2]; split <;> decide
            have FEQ : Hid (¬ (t.k = 2 ∧ loK k ≤ iv t.neg t.mag ∧ iv t.neg t.mag < hiK k)) := Lib.hid (fun h => p2 (by have := h.2.2; rw [HHK.out, ← HXV.out] at this; exact this))
            rw [← hC3]
            have d2 := dec_no hC4
            clear hC3 p2
            have j0 := HSE.out.bx.cell 0
            have j1 := HSE.out.bx.cell 1
            have j2 := HSE.out.bx.cell 2
            have j3 := HSE.out.bx.cell 3
            have j4 := HSE.out.bx.cell 4
            have j5 := HSE.out.bx.cell 5
            simp at j0 j1 j2 j3 j4 j5
            have HC := Lib.hid (asInt_all HSE.out.hv.hv HGM.out.1 HGM.out.2 (HG.out.up HSE.out.lo) bf HBF.out.1 HBF.out.2 k HK.out)
            go_wp2_with fail
            refine HC.out.mono ?_
            rintro e w7 ⟨y, A3, c3, ok, rfl, hs, hok, hx, hy0, hy1, hb⟩
            have HS7 := Lib.hid (HSE.out.up hb)
            have HNOW := Lib.hid (And.intro hs (And.intro hx (And.intro hy0 hy1)))
            obtain rfl : ok = false := by
              cases ok
              · rfl
              · exact absurd (hok.1 rfl) FEQ.out
            clear hs hok hx hy0 hy1 hb HC HSE j0 j1 j2 j3 j4 j5
            go_wp2
            go_ret
            exact ⟨rfl, below_al HS7.out.lo _⟩
        · have hC3 : sgnc xv (0) = -1 := sgnc_lt (by omega)
          have FEQ : Hid (¬ (t.k = 2 ∧ loK k ≤ iv t.neg t.mag ∧ iv t.neg t.mag < hiK k)) := Lib.hid (fun h => p1 (by have := h.2.1; rw [HLK.out, ← HXV.out] at this; exact this))
          rw [hC3]
          clear hC3 p1
          have j0 := HSD.out.bx.cell 0
          have j1 := HSD.out.bx.cell 1
          have j2 := HSD.out.bx.cell 2
          have j3 := HSD.out.bx.cell 3
          have j4 := HSD.out.bx.cell 4
          have j5 := HSD.out.bx.cell 5
          simp at j0 j1 j2 j3 j4 j5
          have HC := Lib.hid (asInt_all HSD.out.hv.hv HGM.out.1 HGM.out.2 (HG.out.up HSD.out.lo) bf HBF.out.1 HBF.out.2 k HK.out)
          go_wp2_with fail
          refine HC.out.mono ?_
          rintro e w7 ⟨y, A3, c3, ok, rfl, hs, hok, hx, hy0, hy1, hb⟩
          have HS7 := Lib.hid (HSD.out.up hb)
          have HNOW := Lib.hid (And.intro hs (And.intro hx (And.intro hy0 hy1)))
          obtain rfl : ok = false := by
            cases ok
            · rfl
            · exact absurd (hok.1 rfl) FEQ.out
          clear hs hok hx hy0 hy1 hb HC HSD j0 j1 j2 j3 j4 j5
          go_wp2
          go_ret
          exact ⟨rfl, below_al HS7.out.lo _⟩
    · have hy2 := beq_no h2
      have FEQ : Hid (¬ (t.k = 2 ∧ loK k ≤ iv t.neg t.mag ∧ iv t.neg t.mag < hiK k)) := Lib.hid (fun h => h2 (HYK.out.trans h.1))
      refine (HBI.out _).mono ?_
      rintro e w4 ⟨rfl, hb⟩
      have HS4 := Lib.hid (HS3.out.up hb)
      clear hb HS3 HBI
      have j0 := HS4.out.bx.cell 0
      have j1 := HS4.out.bx.cell 1
      have j2 := HS4.out.bx.cell 2
      have j3 := HS4.out.bx.cell 3
      have j4 := HS4.out.bx.cell 4
      have j5 := HS4.out.bx.cell 5
      simp at j0 j1 j2 j3 j4 j5
      have HC := Lib.hid (asInt_all HS4.out.hv.hv HGM.out.1 HGM.out.2 (HG.out.up HS4.out.lo) bf HBF.out.1 HBF.out.2 k HK.out)
      go_wp2_with fail
      refine HC.out.mono ?_
      rintro e w7 ⟨y, A3, c3, ok, rfl, hs, hok, hx, hy0, hy1, hb⟩
      have HS7 := Lib.hid (HS4.out.up hb)
      have HNOW := Lib.hid (And.intro hs (And.intro hx (And.intro hy0 hy1)))
      obtain rfl : ok = false := by
        cases ok
        · rfl
        · exact absurd (hok.1 rfl) FEQ.out
      clear hs hok hx hy0 hy1 hb HC HS4 j0 j1 j2 j3 j4 j5
      go_wp2
      go_ret
      exact ⟨rfl, below_al HS7.out.lo _⟩
end Go.Proofs.YtloloifngbmibaaGreatDoor
