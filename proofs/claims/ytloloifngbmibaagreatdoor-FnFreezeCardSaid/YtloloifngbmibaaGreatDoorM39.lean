/- FnFreeze: the walk. -/
import Derived.Test.YtloloifngbmibaaGreatDoorM38
set_option linter.unusedVariables false
set_option linter.unusedSimpArgs false
set_option maxRecDepth 4000
namespace Go.Proofs.YtloloifngbmibaaGreatDoor
open Go.RowKit

theorem fits1_fz {d : Nat} {t : Tr} {x : Vc} {w : World} (h : HV d t x w) : Calls Tryz.prog 5 #[x.agg] w fun e w' => ∃ r : Bool, e = .returned (.bool r) ∧ Below w.heap.size w w' := by
  obtain ⟨k, n, A, l, c, b, s, A', l', c', rfl⟩ := h.shape
  clear h
  go_enter Tryz.func5, Tryz.ntmps5
  go_wp2
  all_goals
    first
      | (go_ret; first | exact ⟨_, rfl, below_al (Below.refl _ _) _⟩ | exact ⟨⟨_, rfl⟩, below_al (Below.refl _ _) _⟩)
      | skip

/-- A Try is a row of one. -/
theorem one_try {P : Tr → Prop} {d g : Nat} {T : TypeId} {u : Tr} {y : Vt} {W : World} (h : HV d u y.v W) (hp : P u) (hb : Blk W g T y.cells.toArray) : HTs P d 1 (some ⟨g, 0, none⟩) W := by
  obtain ⟨S, h1, h2⟩ := h
  refine ⟨fun k => k < W.heap.size, [y], rfl, ?_, fun x hx => ?_, fun k hk => hk⟩
  · exact Rd.of_blk (ys := []) (by simpa [vts] using hb) hb.lt
  · rw [List.mem_singleton.1 hx]
    exact ⟨u, h1.mono h2, hp⟩

set_option maxHeartbeats 1000000 in
theorem fnFreeze_any {t0 k0 : Tr} {x : Vc} {kd : Vt} {A : Option Addr} {n c at_ : Nat} {w : World} (tw : Bool) (h : HV 3 t0 x w) (hin : InT 3 t0) (hnc : n ≤ c) (hT : HTs (InT 1) 1 n A w) (hk : HV 1 k0 kd.v w) (hki : InT 1 k0) (hG : GL w) (ha : at_ < 256) :
    Calls Tryz.prog 4 #[x.agg, .bool tw, .slice A n c, .int .u8 at_, tryV kd.w kd.k kd.v] w fun e w' => e = .returned (.bool true) ∧ Below w.heap.size w w' := by
  obtain ⟨k, ng, Am, l, cm, b, s, Aq, l', c', rfl⟩ := h.shape
  obtain ⟨kw, kk, kv⟩ := kd
  obtain ⟨k2, n2, A2, l2, c2, b2, s2, A3, l3, c3, hkv⟩ := hk.shape
  simp only at hkv hk
  subst hkv
  have HX := Lib.hid h
  have HIN := Lib.hid hin
  have HT := Lib.hid hT
  have HK := Lib.hid hk
  have HKI := Lib.hid hki
  have HG := Lib.hid hG
  have HNC := Lib.hid hnc
  have HA := Lib.hid ha
  have ha1 : ((at_ : Int)) < 256 := by omega
  clear h hin hT hk hki hG hnc ha
  go_enter Tryz.func4, Tryz.ntmps4
  go_upto_region 1 with fail
  generalize hw0 : (w.alloc (.cells #[.int .i64 k, .bool ng, .slice Am l cm, .int .u64 b, .string s, .slice Aq l' c'] 26)).alloc (.cells #[.int .i64 kw, .int .i64 kk, .int .i64 k2, .bool n2, .slice A2 l2 c2, .int .u64 b2, .string s2, .slice A3 l3 c3] 44) = w0
  have hb5 : Blk w0 w.heap.size 26 #[.int .i64 k, .bool ng, .slice Am l cm, .int .u64 b, .string s, .slice Aq l' c'] := by rw [← hw0]; exact (Blk.new w _ _).alloc _
  have hb9 : Blk w0 (w.heap.size + 1) 44 #[.int .i64 kw, .int .i64 kk, .int .i64 k2, .bool n2, .slice A2 l2 c2, .int .u64 b2, .string s2, .slice A3 l3 c3] := by
    rw [← hw0]
    have := Blk.new (w.alloc (.cells #[.int .i64 k, .bool ng, .slice Am l cm, .int .u64 b, .string s, .slice Aq l' c'] 26)) 44 #[.int .i64 kw, .int .i64 kk, .int .i64 k2, .bool n2, .slice A2 l2 c2, .int .u64 b2, .string s2, .slice A3 l3 c3]
    simpa using this
  have HH : Hid (Below w.heap.size w w0) := Lib.hid (by rw [← hw0]; exact below_al (below_al (Below.refl _ _) _) _)
  have v0 := hb5.cell 0
  have v1 := hb5.cell 1
  have v2 := hb5.cell 2
  have v3 := hb5.cell 3
  have v4 := hb5.cell 4
  have v5 := hb5.cell 5
  simp at v0 v1 v2 v3 v4 v5
  have HB5 := Lib.hid hb5
  have HB9 := Lib.hid hb9
  have HF := Lib.hid (fits1_fz (HX.out.up HH.out))
  clear hw0 hb5 hb9
  go_wp2_with fail
  refine HF.out.mono ?_
  rintro e w1 ⟨r, rfl, hb1⟩
  have HL1 := Lib.hid (below_up HH.out hb1)
  have HC5 := Lib.hid (HB5.out.below hb1 HB5.out.lt)
  have HC9 := Lib.hid (HB9.out.below hb1 HB9.out.lt)
  clear hb1 HF v0 v1 v2 v3 v4 v5 HB5 HB9 HH
  cases r
  case' false =>
    go_wp2
    go_ret
    exact ⟨rfl, HL1.out⟩
  case' true =>
    have u0 := HC9.out.cell 0
    have u1 := HC9.out.cell 1
    have u2 := HC9.out.cell 2
    have u3 := HC9.out.cell 3
    have u4 := HC9.out.cell 4
    have u5 := HC9.out.cell 5
    have u6 := HC9.out.cell 6
    have u7 := HC9.out.cell 7
    simp at u0 u1 u2 u3 u4 u5 u6 u7
    by_cases hn : (2147483647 : Int) < n
    · go_wp2
      go_ret
      exact ⟨rfl, HL1.out⟩
    · have HN : Hid (n ≤ 2147483647) := Lib.hid (by omega)
      have HF2 := Lib.hid (fits2_any (.agg #[.int .i64 kw, .int .i64 kk, .int .i64 k2, .bool n2, .slice A2 l2 c2, .int .u64 b2, .string s2, .slice A3 l3 c3]) _ w1 rfl rfl)
      go_wp2_with fail
      refine HF2.out.mono ?_
      rintro e w2 ⟨rfl, hb2⟩
      have HL2 := Lib.hid (below_up HL1.out hb2)
      have HD5 := Lib.hid (HC5.out.below hb2 HC5.out.lt)
      have HD9 := Lib.hid (HC9.out.below hb2 HC9.out.lt)
      clear hb2 HF2 HC5 HC9 HL1 u0 u1 u2 u3 u4 u5 u6 u7
      go_upto_region 3 with fail
      clear hn
      have v0 := HD5.out.cell 0
      have v1 := HD5.out.cell 1
      have v2 := HD5.out.cell 2
      have v3 := HD5.out.cell 3
      have v4 := HD5.out.cell 4
      have v5 := HD5.out.cell 5
      simp at v0 v1 v2 v3 v4 v5
      have HCL : Hid (Calls Tryz.prog 16 #[.agg #[.int .i64 k, .bool ng, .slice Am l cm, .int .u64 b, .string s, .slice Aq l' c'], .int .i64 3] w2 (CleanOut 3 w2)) := Lib.hid (clean_any 3 (x := ⟨k, ng, .slice Am l cm, b, s, .slice Aq l' c'⟩) (by decide) (HX.out.up HL2.out) HIN.out)
      go_wp2_with fail
      refine HCL.out.mono ?_
      rintro e w3 ⟨t, y, rfl, hgd, hy, hb3⟩
      obtain ⟨yk, yn, yA, yl, yc, yb, ys, qA, ql, qc, rfl⟩ := hy.shape
      have HL3 := Lib.hid (below_up HL2.out hb3)
      have HE9 := Lib.hid (HD9.out.below hb3 HD9.out.lt)
      have HY := Lib.hid hy.hv
      have HGD := Lib.hid hgd
      have HIT := Lib.hid (iterTries_any n c HN.out HNC.out (HT.out.up HL3.out))
      clear hgd hy hb3 HCL HD5 HD9 v0 v1 v2 v3 v4 v5
      go_wp2_with fail
      refine HIT.out.mono ?_
      rintro e w4 ⟨B, cB, rfl, hts, hcB, hb4⟩
      have HL4 := Lib.hid (below_up HL3.out hb4)
      have HG9 := Lib.hid (HE9.out.below hb4 HE9.out.lt)
      have HY4 := Lib.hid (HY.out.up hb4)
      have HTS := Lib.hid hts
      obtain ⟨m, hm⟩ : ∃ m, m = min n 8 := ⟨_, rfl⟩
      rw [← hm] at HTS ⊢
      have HM : Hid (m ≤ 8) := Lib.hid (by omega)
      clear hts hcB hb4 HIT HE9 HY hm
      go_upto_region 4 with fail
      generalize hw5 : w4.alloc (.cells #[.int .i64 yk, .bool yn, .slice yA yl yc, .int .u64 yb, .string ys, .slice qA ql qc] 26) = w5
      have hb11 : Blk w5 w4.heap.size 26 #[.int .i64 yk, .bool yn, .slice yA yl yc, .int .u64 yb, .string ys, .slice qA ql qc] := by rw [← hw5]; exact Blk.new w4 _ _
      have hb5 : Below w4.heap.size w4 w5 := by rw [← hw5]; exact below_al (Below.refl _ _) _
      have HL5 := Lib.hid (below_up HL4.out hb5)
      have HI9 := Lib.hid (HG9.out.below hb5 HG9.out.lt)
      have HY5 := Lib.hid (HY4.out.up hb5)
      have HTS5 := Lib.hid (HTS.out.up hb5)
      have HB11 := Lib.hid hb11
      have HLT : Hid (w4.heap.size < w5.heap.size) := Lib.hid hb11.lt
      obtain ⟨g, hg⟩ : ∃ g, g = w4.heap.size := ⟨_, rfl⟩
      have HLOW : Hid (w.heap.size ≤ g) := Lib.hid (by rw [hg]; exact HL4.out.size)
      rw [← hg] at HB11 HLT ⊢
      clear hw5 hb11 hb5 hg HTS HG9 HY4 HL4
      have u0 := HI9.out.cell 0
      have u1 := HI9.out.cell 1
      have u2 := HI9.out.cell 2
      have u3 := HI9.out.cell 3
      have u4 := HI9.out.cell 4
      have u5 := HI9.out.cell 5
      have u6 := HI9.out.cell 6
      have u7 := HI9.out.cell 7
      simp at u0 u1 u2 u3 u4 u5 u6 u7
      have HB6 : Hid (Below w5.heap.size w5 (w5.alloc (.cells #[.int .i64 kw, .int .i64 kk, .int .i64 k2, .bool n2, .slice A2 l2 c2, .int .u64 b2, .string s2, .slice A3 l3 c3] 44))) := Lib.hid (below_al (Below.refl _ _) _)
      have HIK := Lib.hid (iterTries_any 1 1 (A := some ⟨w5.heap.size, 0, none⟩) (w := w5.alloc (.cells #[.int .i64 kw, .int .i64 kk, .int .i64 k2, .bool n2, .slice A2 l2 c2, .int .u64 b2, .string s2, .slice A3 l3 c3] 44)) (by decide) (Nat.le_refl _) (one_try (y := ⟨kw, kk, ⟨k2, n2, .slice A2 l2 c2, b2, s2, .slice A3 l3 c3⟩⟩) (HK.out.up (below_up HL5.out HB6.out)) HKI.out (Blk.new w5 44 #[.int .i64 kw, .int .i64 kk, .int .i64 k2, .bool n2, .slice A2 l2 c2, .int .u64 b2, .string s2, .slice A3 l3 c3])))
      rw [show min 1 8 = 1 from rfl] at HIK
      go_wp2_with fail
      refine HIK.out.mono ?_
      rintro e w7 ⟨C, cC, rfl, hts7, hcC, hb7⟩
      have hbe : Below w5.heap.size w5 w7 := below_up HB6.out hb7
      have HL7 := Lib.hid (below_up HL5.out hbe)
      have HY7 := Lib.hid (HY5.out.up hbe)
      have HTS7 := Lib.hid (HTS5.out.up hbe)
      have HC11 := Lib.hid (HB11.out.below hbe HLT.out)
      obtain ⟨⟨zw, zk, zv⟩, uz, hz, hpz, b', o', rfl, hbl, hcs⟩ := hts7.at_ (i := 0) (by decide)
      obtain ⟨z2, zn, zA, zl, zc, zb, zs, zQ, zq, zqc, hze⟩ := hz.shape
      simp only at hze hz
      subst hze
      have y0 := hcs 0 _ rfl
      have y1 := hcs 1 _ rfl
      have y2 := hcs 2 _ rfl
      have y3 := hcs 3 _ rfl
      have y4 := hcs 4 _ rfl
      have y5 := hcs 5 _ rfl
      have y6 := hcs 6 _ rfl
      have y7 := hcs 7 _ rfl
      rw [Nat.zero_mul, Nat.add_zero] at y0 y1 y2 y3 y4 y5 y6 y7
      dsimp only at y0 y1 y2 y3 y4 y5 y6 y7
      have HZ := Lib.hid hz
      have HPZ := Lib.hid hpz
      clear hcs hz hpz hts7 hcC hb7 hbe HB6 HIK HL5 HY5 HTS5 HB11 HLT HI9 u0 u1 u2 u3 u4 u5 u6 u7 hbl
      go_upto_region 5 with fail
      generalize hw8 : w7.alloc (.cells #[.int .i64 zw, .int .i64 zk, .int .i64 z2, .bool zn, .slice zA zl zc, .int .u64 zb, .string zs, .slice zQ zq zqc] 44) = w8
      have hb13 : Blk w8 w7.heap.size 44 #[.int .i64 zw, .int .i64 zk, .int .i64 z2, .bool zn, .slice zA zl zc, .int .u64 zb, .string zs, .slice zQ zq zqc] := by rw [← hw8]; exact Blk.new w7 _ _
      have hb8 : Below w7.heap.size w7 w8 := by rw [← hw8]; exact below_al (Below.refl _ _) _
      have HL8 := Lib.hid (below_up HL7.out hb8)
      have HY8 := Lib.hid (HY7.out.up hb8)
      have HZ8 := Lib.hid (HZ.out.up hb8)
      have HTS8 := Lib.hid (HTS7.out.up hb8)
      have HD11 := Lib.hid (HC11.out.below hb8 HC11.out.lt)
      have HB13 := Lib.hid hb13
      obtain ⟨g3, hg3⟩ : ∃ g3, g3 = w7.heap.size := ⟨_, rfl⟩
      have HLOW3 : Hid (w.heap.size ≤ g3) := Lib.hid (by rw [hg3]; exact HL7.out.size)
      rw [← hg3] at HB13 ⊢
      clear hw8 hb13 hb8 hg3 HL7 HY7 HZ HTS7 HC11 y0 y1 y2 y3 y4 y5 y6 y7
      have j0 := HD11.out.cell 0
      simp at j0
      rcases (show yk = 6 ∨ yk = 8 ∨ yk = 9 ∨ yk = 7 ∨ (¬ yk = 6 ∧ ¬ yk = 8 ∧ ¬ yk = 9 ∧ ¬ yk = 7) by omega) with h | h | h | h | ⟨n6, n8, n9, n7⟩
      case' inr.inr.inr.inr =>
        have b6 := bne_yes n6
        have b8 := bne_yes n8
        have b9 := bne_yes n9
        have b7 := bne_yes n7
        clear n6 n8 n9 n7
        go_wp2
        go_ret
        exact ⟨rfl, HL8.out⟩
      all_goals
        subst h
        go_upto_region 7 with fail
        clear j0
        have v0 := HD11.out.cell 0
        have v1 := HD11.out.cell 1
        have v2 := HD11.out.cell 2
        have v3 := HD11.out.cell 3
        have v4 := HD11.out.cell 4
        have v5 := HD11.out.cell 5
        simp at v0 v1 v2 v3 v4 v5
        have u0 := HB13.out.cell 0
        have u1 := HB13.out.cell 1
        have u2 := HB13.out.cell 2
        have u3 := HB13.out.cell 3
        have u4 := HB13.out.cell 4
        have u5 := HB13.out.cell 5
        have u6 := HB13.out.cell 6
        have u7 := HB13.out.cell 7
        simp at u0 u1 u2 u3 u4 u5 u6 u7
        have HRUN := Lib.hid (freezeRun_any 3 (kd := ⟨zw, zk, ⟨z2, zn, .slice zA zl zc, zb, zs, .slice zQ zq zqc⟩⟩) (c := cB) at_ tw (by decide) HY8.out HGD.out (HG.out.up HL8.out) HM.out HTS8.out HZ8.out HPZ.out)
        go_wp2_with fail
        refine HRUN.out.mono ?_
        rintro e w9 ⟨AD, cD, y9, rfl, hrd, hy9, hb9⟩
        obtain ⟨rk, rn, rA, rl, rc, rb, rs, rQ, rq, rqc, rfl⟩ := hy9.shape
        have HL9 := Lib.hid (below_up HL8.out hb9)
        have HY9 := Lib.hid (HY8.out.up hb9)
        have HR9 := Lib.hid hy9
        have HRD := Lib.hid hrd
        have HE11 := Lib.hid (HD11.out.below hb9 HD11.out.lt)
        clear hrd hy9 hb9 HRUN HL8 HY8 HZ8 HTS8 HD11 HB13 v0 v1 v2 v3 v4 v5 u0 u1 u2 u3 u4 u5 u6 u7
        go_upto_region 8 with fail
        generalize hw10 : w9.alloc (.cells #[.slice AD m cD, .int .i64 rk, .bool rn, .slice rA rl rc, .int .u64 rb, .string rs, .slice rQ rq rqc, .bool false] 50) = w10
        have hb14 : Blk w10 w9.heap.size 50 #[.slice AD m cD, .int .i64 rk, .bool rn, .slice rA rl rc, .int .u64 rb, .string rs, .slice rQ rq rqc, .bool false] := by rw [← hw10]; exact Blk.new w9 _ _
        have hb10 : Below w9.heap.size w9 w10 := by rw [← hw10]; exact below_al (Below.refl _ _) _
        have HL10 := Lib.hid (below_up HL9.out hb10)
        have HY10 := Lib.hid (HY9.out.up hb10)
        have HR10 := Lib.hid (HR9.out.up hb10)
        have HF11 := Lib.hid (HE11.out.below hb10 HE11.out.lt)
        have HCN := Lib.hid (contains_no _ AD m cD (Nat.le_trans HM.out (by decide)) w10 (HRD.out.keep (still_below hb10 (fun k hk => hk))))
        obtain ⟨g4, hg4⟩ : ∃ g4, g4 = w9.heap.size := ⟨_, rfl⟩
        rw [← hg4] at hb14 ⊢
        have HB14 := Lib.hid hb14
        have HSM := Lib.hid (same_any 3 HR10.out HY10.out HGD.out)
        clear hw10 hb14 hb10 hg4 HL9 HY9 HR9 HRD HE11
        have v0 := HF11.out.cell 0
        have v1 := HF11.out.cell 1
        have v2 := HF11.out.cell 2
        have v3 := HF11.out.cell 3
        have v4 := HF11.out.cell 4
        have v5 := HF11.out.cell 5
        simp at v0 v1 v2 v3 v4 v5
        have u0 := HB14.out.cell 0
        have u1 := HB14.out.cell 1
        have u2 := HB14.out.cell 2
        have u3 := HB14.out.cell 3
        have u4 := HB14.out.cell 4
        have u5 := HB14.out.cell 5
        have u6 := HB14.out.cell 6
        have u7 := HB14.out.cell 7
        simp at u0 u1 u2 u3 u4 u5 u6 u7
        go_wp2_with fail
        refine HCN.out.mono ?_
        rintro e w11 ⟨rfl, rfl⟩
        go_wp2_with fail
        refine HSM.out.mono ?_
        rintro e w12 ⟨rfl, hb12⟩
        have HL12 := Lib.hid (below_up HL10.out hb12)
        clear hb12 HSM HCN
        go_wp2
        go_ret
        exact ⟨rfl, HL12.out⟩
end Go.Proofs.YtloloifngbmibaaGreatDoor
