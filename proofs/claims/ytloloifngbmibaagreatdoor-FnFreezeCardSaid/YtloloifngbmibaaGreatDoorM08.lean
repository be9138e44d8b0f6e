/- Walk of lehmerGCD, where the smaller number is one word. (Printed by gen_gcd.py.) Walk of lehmerGCD, where the smaller number is one word. (Printed by gen_gcd.py.) Walk of lehmerGCD, the numbers swapped. (Printed by gen_gcd.py.) -/
import Derived.Test.YtloloifngbmibaaGreatDoorM07
set_option linter.unusedVariables false
set_option maxRecDepth 4000
namespace Go.Proofs.YtloloifngbmibaaGreatDoor
open Go.RowKit

/-- What lehmerGCD leaves in z. -/
def LehOut (zb g : Nat) (w w' : World) : Prop := ∃ sv, Blk w' zb 189 #[.bool false, sv] ∧ SlV w' (Nw w w') .u64 sv [(g : Int)] ∧ But (fun k => k = zb) w w'

/-- A new integer that is not 0: its two blocks. -/
structure Two (W : World) (lo b g c : Nat) (xs zs : List Int) : Prop where
  bk : Blk W b 189 #[.bool false, .slice (some ⟨g, 0, none⟩) xs.length c]
  wd : WB W g (xs ++ zs)
  ne : g ≠ b
  cp : c = (xs ++ zs).length
  lb : lo ≤ b
  lg : lo ≤ g
theorem NewBig.two {w W : World} {b : Nat} {xs : List Int} (h : NewBig w b false xs W) (h0 : 0 < xs.length) : ∃ g c zs, Two W w.heap.size b g c xs zs := by
  obtain ⟨hb, h2, v, hv, h3⟩ := h
  rcases h3 with ⟨rfl, _⟩ | ⟨g, zs, h4, h5, rfl, h7⟩
  · simp at h0
  · exact ⟨g, _, zs, hv, h7, h5, rfl, h2, h4⟩
theorem Two.below {W W' : World} {lo b g c : Nat} {xs zs : List Int} (h : Two W lo b g c xs zs) (hb : Below W.heap.size W W') : Two W' lo b g c xs zs :=
  ⟨h.bk.below hb h.bk.lt, Blk.below h.wd hb (WB.lt h.wd), h.ne, h.cp, h.lb, h.lg⟩
theorem Two.but {T : Nat → Prop} {W W' : World} {lo b g c : Nat} {xs zs : List Int} (h : Two W lo b g c xs zs) (hb : But T W W') (h1 : ¬ T b) (h2 : ¬ T g) : Two W' lo b g c xs zs :=
  ⟨h.bk.keep (hb.block b h.bk.lt h1), Blk.keep h.wd (hb.block g (WB.lt h.wd) h2), h.ne, h.cp, h.lb, h.lg⟩
theorem Two.big {W : World} {lo b g c : Nat} {xs zs : List Int} (h : Two W lo b g c xs zs) : BigV W (fun k => k = b ∨ k = g) b 0 false xs := by
  refine BigV.of_blk h.bk (.inl rfl) ⟨_, c, rfl, by rw [h.cp]; simp, ?_⟩
  exact (h.wd.rd (o := 0) (zs := zs) (by simp)).mono (fun k hk => .inr hk)

theorem abs_two (w : World) (S : Nat → Prop) (b1 o1 : Nat) (neg : Bool) (xs : List Int) (h1 : xs.length ≤ 4294967296) (h0 : 0 < xs.length) (hlt : b1 < w.heap.size) (t1 : TypeId) (cs1 : Array Value) (hb1 : Blk w b1 t1 cs1) (hx : BigV w S b1 o1 neg xs) :
    Calls Tryz.prog 196 #[.pointer (some ⟨w.heap.size, 0, none⟩), .pointer (some ⟨b1, o1, none⟩)] (w.alloc (.cells #[.bool false, .slice none 0 0] 189)) fun e w' => ∃ b g c zs, e = .returned (.pointer (some ⟨b, 0, none⟩)) ∧ Two w' w.heap.size b g c xs zs ∧ Below w.heap.size w w' := by
  refine (abs_new w S b1 o1 neg xs h1 hlt t1 cs1 hb1 hx).mono ?_
  rintro e w' ⟨rfl, hn⟩
  obtain ⟨g, c, zs, ht⟩ := hn.two h0
  exact ⟨_, g, c, zs, rfl, ht, hn.1⟩

/-- 'z.Set(x)', z a new integer that was there before, x one word. -/
theorem set_out (w W : World) (zb b g c x : Nat) (zs : List Int) (lo : Nat) (hz : Blk w zb 189 #[.bool false, .slice none 0 0]) (hlo : lo = w.heap.size) (hb : Below w.heap.size w W) (ht : Two W lo b g c [(x : Int)] zs) :
    Calls Tryz.prog 114 #[.pointer (some ⟨zb, 0, none⟩), .pointer (some ⟨b, 0, none⟩)] W fun e w' => e = .returned (.pointer (some ⟨zb, 0, none⟩)) ∧ LehOut zb x w w' := by
  subst hlo
  have hzW := hz.below hb hz.lt
  have c0 := ht.bk.cell 0
  have c1 := ht.bk.cell 1
  simp at c0 c1
  have hzl := hz.lt
  have hne : zb ≠ b := by have := ht.lb; omega
  refine (big_setn W (fun k => k = g) zb b 0 false [(x : Int)] (by simp) (by simp) hzW (some ⟨g, 0, none⟩) c _ _ ht.bk hne c0 c1 (ht.wd.rd (o := 0) (zs := zs) (by simp))).mono ?_
  rintro e w' ⟨rfl, zs2, hw⟩
  refine ⟨rfl, ?_⟩
  have hg : ((W.setCell ⟨zb, 1, none⟩ (.slice (some ⟨W.heap.size, 0, none⟩) 1 (1 + zs2.length))).setCell ⟨zb, 0, none⟩ (.bool false)).heap.size = W.heap.size := by simp [World.setCell]
  have hbk := hw.blk (((hzW.set 1 (.slice (some ⟨W.heap.size, 0, none⟩) 1 (1 + zs2.length))).set 0 (.bool false)).alloc (.cells (ints .u64 ([(x : Int)] ++ zs2)).toArray 236))
  have hwd := hw.blk (Blk.new ((W.setCell ⟨zb, 1, none⟩ (.slice (some ⟨W.heap.size, 0, none⟩) 1 (1 + zs2.length))).setCell ⟨zb, 0, none⟩ (.bool false)) 236 (ints .u64 ([(x : Int)] ++ zs2)).toArray)
  rw [hg] at hwd
  have hwd2 : WB w' W.heap.size ([(x : Int)] ++ zs2) := hwd
  refine ⟨_, hbk, ⟨_, _, rfl, by simp, (hwd2.rd (o := 0) (zs := zs2) (by simp)).mono (fun k hk => by rw [hk]; exact ⟨hb.size, hwd2.lt⟩)⟩, ?_⟩
  have hbt : But (fun k => k = zb) W ((W.setCell ⟨zb, 1, none⟩ (.slice (some ⟨W.heap.size, 0, none⟩) 1 (1 + zs2.length))).setCell ⟨zb, 0, none⟩ (.bool false)) := ((But.refl (fun k => k = zb) W).set (p := ⟨zb, 1, none⟩) rfl _).set (p := ⟨zb, 0, none⟩) rfl _
  have hb2 := (But.of_below hb).trans (hbt.trans (But.of_below ((Below.refl _ _).alloc (Nat.le_refl _) (.cells (ints .u64 ([(x : Int)] ++ zs2)).toArray 236))))
  exact ⟨hw.os.trans hb2.os, hw.tape.trans hb2.tape, hw.output.trans hb2.output, by rw [hw.heap]; exact hb2.size, fun k hk hne => by rw [hw.heap]; exact hb2.block k hk hne⟩
end Go.Proofs.YtloloifngbmibaaGreatDoor
set_option linter.unusedVariables false
set_option maxRecDepth 4000
namespace Go.Proofs.YtloloifngbmibaaGreatDoor
open Go.RowKit

theorem gcd_step {xs : List Int} {y r : Nat} (hX : WL xs) (hy : 0 < y) (h : nv xs % (y : Int) = (r : Int)) : Nat.gcd y r = Nat.gcd (nv xs).toNat y := by
  obtain ⟨n, hn⟩ := Int.eq_ofNat_of_zero_le (nv_nonneg hX)
  rw [hn] at h ⊢
  rw [Int.toNat_natCast]
  have : n % y = r := by
    have h2 : ((n % y : Nat) : Int) = (r : Int) := by rw [← h]; simp
    exact Int.ofNat.inj h2
  rw [← this, Nat.gcd_comm y, ← Nat.gcd_rec, Nat.gcd_comm]
theorem gcd_zero {xs : List Int} {y : Nat} (hX : WL xs) (hy : 0 < y) (h : nv xs % (y : Int) = 0) : Nat.gcd (nv xs).toNat y = y := by
  have := gcd_step hX hy (r := 0) h
  rw [← this, Nat.gcd_zero_right]

set_option maxHeartbeats 4000000 in
/-- The second number is the smaller one, one word. -/
theorem lehmer_ge (S S' : Nat → Prop) (zb b1 o1 b2 o2 : Nat) (n1 n2 : Bool) (y : Nat) (xs : List Int) (hy0 : 0 < y) (hy1 : y < 18446744073709551616) (h0 : 0 < xs.length) (hn : xs.length ≤ 1000000) (hX : WL xs) (hXn : Nrm xs) (hcmp : 0 ≤ ordL xs.reverse [(y : Int)]) (w : World)
    (hz : Blk w zb 189 #[.bool false, .slice none 0 0])
    (t1 : TypeId) (cs1 : Array Value) (hb1 : Blk w b1 t1 cs1) (hx : BigV w S b1 o1 n1 xs) (hS : ∀ k, S k → k < w.heap.size) (t2 : TypeId) (cs2 : Array Value) (hb2 : Blk w b2 t2 cs2) (hy : BigV w S' b2 o2 n2 [(y : Int)]) (hS' : ∀ k, S' k → k < w.heap.size) :
    Calls Tryz.prog 181 #[.pointer (some ⟨zb, 0, none⟩), .pointer none, .pointer none, .pointer (some ⟨b1, o1, none⟩), .pointer (some ⟨b2, o2, none⟩)] w fun e w' => e = .returned (.pointer (some ⟨zb, 0, none⟩)) ∧ LehOut zb (Nat.gcd (nv xs).toNat y) w w' := by
  have HA1 := Lib.hid (abs_two w S b1 o1 n1 xs (by omega) h0 hb1.lt t1 cs1 hb1 hx)
  have HA2 : Hid (∀ W, Below w.heap.size w W → Calls Tryz.prog 196 #[.pointer (some ⟨W.heap.size, 0, none⟩), .pointer (some ⟨b2, o2, none⟩)] (W.alloc (.cells #[.bool false, .slice none 0 0] 189)) fun e w' => ∃ b g c zs, e = .returned (.pointer (some ⟨b, 0, none⟩)) ∧ Two w' W.heap.size b g c [(y : Int)] zs ∧ Below W.heap.size W w') := Lib.hid fun W hW =>
    abs_two W S' b2 o2 n2 [(y : Int)] (by simp) (by simp) (Nat.lt_of_lt_of_le hb2.lt hW.size) t2 cs2 (hb2.below hW hb2.lt) (hy.keep (still_below hW hS'))
  have HZ := Lib.hid hz
  have HX := Lib.hid hX
  have HXN := Lib.hid hXn
  have n10 : w.cell? ⟨b1, o1, none⟩ = some (.bool n1) := by obtain ⟨v, _, h, _⟩ := hx; exact h
  have lb1 := hb1.lt
  clear hz hX hXn hb1 hb2 hx hy hS hS'
  go_enter Tryz.func181, Tryz.ntmps181
  go_wp2_with fail
  refine HA1.out.mono ?_
  rintro e W1 ⟨pb, pg, pc, pz, rfl, tP, hbw⟩
  have HTP := Lib.hid tP
  have HBW := Lib.hid hbw
  clear tP hbw
  go_wp2_with fail
  refine (HA2.out _ HBW.out).mono ?_
  rintro e W2 ⟨qb, qg, qc, qz, rfl, tQ, hbw⟩
  have HTQ := Lib.hid tQ
  have HBQ := Lib.hid hbw
  clear tQ hbw
  go_upto_region 10 with fail
  obtain ⟨W3, hW3⟩ : ∃ W3, W3 = ((W2.alloc (.cells #[.bool false, .slice none 0 0] 189)).alloc (.cells #[.bool false, .slice none 0 0] 189)) := ⟨_, rfl⟩
  obtain ⟨q0, hq0⟩ : ∃ q0, q0 = W2.heap.size := ⟨_, rfl⟩
  have hb23 := below_al (below_al (Below.refl W2.heap.size W2) (.cells #[.bool false, .slice none 0 0] 189)) (.cells #[.bool false, .slice none 0 0] 189)
  have TP := (HTP.out.below HBQ.out).below hb23
  have TQ := HTQ.out.below hb23
  have KZ := (Blk.new W2 189 #[.bool false, .slice none 0 0]).alloc (.cells #[.bool false, .slice none 0 0] 189)
  have KR := Blk.new (W2.alloc (.cells #[.bool false, .slice none 0 0] 189)) 189 #[.bool false, .slice none 0 0]
  have hs2 : (W2.alloc (.cells #[.bool false, .slice none 0 0] 189)).heap.size = W2.heap.size + 1 := by simp
  rw [hs2] at KR
  have HB3 := below_up (below_up HBW.out HBQ.out) hb23
  have l1 : pb < q0 ∧ pg < q0 := by rw [hq0]; exact ⟨Nat.lt_of_lt_of_le HTP.out.bk.lt HBQ.out.size, Nat.lt_of_lt_of_le (WB.lt HTP.out.wd) HBQ.out.size⟩
  have l2 : qb < q0 ∧ qg < q0 := by rw [hq0]; exact ⟨HTQ.out.bk.lt, WB.lt HTQ.out.wd⟩
  have l3 : pb < W1.heap.size ∧ pg < W1.heap.size := ⟨HTP.out.bk.lt, WB.lt HTP.out.wd⟩
  have l4 := HTQ.out.lb
  have l5 := HTQ.out.lg
  have l6 : w.heap.size ≤ q0 := by rw [hq0]; exact Nat.le_trans HBW.out.size HBQ.out.size
  have l7 : w.heap.size ≤ W1.heap.size := HBW.out.size
  have TQ' : Two W3 w.heap.size qb qg qc [(y : Int)] qz := by rw [hW3]; exact ⟨TQ.bk, TQ.wd, TQ.ne, TQ.cp, Nat.le_trans l7 TQ.lb, Nat.le_trans l7 TQ.lg⟩
  rw [← hq0] at KZ KR
  rw [← hW3] at TP KZ KR HB3
  rw [← hW3, ← hq0]
  have c1P := TP.bk.cell 1
  have c1Q := TQ'.bk.cell 1
  simp at c1P c1Q
  have HCMP : Hid (∀ n, Calls Tryz.prog 141 #[.slice (some ⟨pg, 0, none⟩) xs.length pc, .slice (some ⟨qg, 0, none⟩) 1 qc] (W3.drewN n) fun e w' => e = .returned (.int .i64 (ordL xs.reverse [(y : Int)])) ∧ ∃ m, w' = W3.drewN m) := Lib.hid fun n => by
    refine (cmpN_any (fun k => k = pg) (fun k => k = qg) (some ⟨pg, 0, none⟩) (some ⟨qg, 0, none⟩) pc qc xs [(y : Int)] (by omega) (by simp) (W3.drewN n) (WB.rd (o := 0) (zs := pz) (TP.wd.drewN n) (by simp)) (WB.rd (o := 0) (zs := qz) (TQ'.wd.drewN n) (by simp))).mono ?_
    rintro e w' ⟨rfl, m, rfl⟩
    exact ⟨rfl, n + m, by rw [World.drewN_drewN]⟩
  obtain ⟨C, hC⟩ : ∃ C, C = ordL xs.reverse [(y : Int)] := ⟨_, rfl⟩
  rw [← hC] at HCMP hcmp
  have eC := dec_no (show ¬ C < 0 by omega)
  have hC2 : ¬ C < 0 := by omega
  have HTP3 := Lib.hid TP
  have HTQ3 := Lib.hid TQ'
  have HKZ := Lib.hid KZ
  have HKR := Lib.hid KR
  have HB := Lib.hid HB3
  clear TP TQ TQ' KZ KR HB3 hb23 hs2 hW3 hq0 HTP HTQ HBQ HBW HA1 HA2 hC l4 l5 l3
  go_quiet (exact HCMP.out _)
  generalize hW4 : W3.drewN nq = W4
  have KP4 : Hid (Two W4 w.heap.size pb pg pc xs pz) := Lib.hid (by rw [← hW4]; exact HTP3.out.below (below_drewN' (Below.refl _ _) _))
  have KQ4 : Hid (Two W4 w.heap.size qb qg qc [(y : Int)] qz) := Lib.hid (by rw [← hW4]; exact HTQ3.out.below (below_drewN' (Below.refl _ _) _))
  have KZ4 : Hid (Blk W4 q0 189 #[.bool false, .slice none 0 0]) := Lib.hid (by rw [← hW4]; exact HKZ.out.drewN _)
  have KR4 : Hid (Blk W4 (q0 + 1) 189 #[.bool false, .slice none 0 0]) := Lib.hid (by rw [← hW4]; exact HKR.out.drewN _)
  have HB4 : Hid (Below w.heap.size w W4) := Lib.hid (by rw [← hW4]; exact below_drewN' HB.out _)
  clear hW4 HTP3 HTQ3 HKZ HKR HB c1P c1Q HCMP
  have c1P := KP4.out.bk.cell 1
  have c1Q := KQ4.out.bk.cell 1
  have c0P := KP4.out.bk.cell 0
  simp at c1P c1Q
  by_cases hlen : 1 < xs.length
  · have HE := Lib.hid (euclid_any (fun k => k = pb ∨ k = pg) (fun k => k = qb ∨ k = qg) q0 (q0 + 1) pb 0 qb 0 false false y xs hy0 hy1 (.inl hlen) hn HX.out W4 KZ4.out KR4.out (by omega) KP4.out.big KQ4.out.big (fun k hk => by have := KP4.out.bk.lt; have := WB.lt KP4.out.wd; rcases hk with rfl | rfl <;> omega) (fun k hk => by have := KQ4.out.bk.lt; have := WB.lt KQ4.out.wd; rcases hk with rfl | rfl <;> omega))
    go_wp2
    go_loop [11, 12, 13, 14, 17] (fun a b u v r => a = .pointer (some ⟨pb, 0, none⟩) ∧ b = .pointer (some ⟨qb, 0, none⟩) ∧ u = .pointer none ∧ v = .pointer none ∧ r = .pointer (some ⟨q0 + 1, 0, none⟩)) (fun _ _ _ _ _ => 0)
    case atStart => exact ⟨rfl, rfl, rfl, rfl, rfl⟩
    case round =>
      obtain ⟨rfl, rfl, rfl, rfl, rfl⟩ := hrel
      go_wp2_with fail
      refine HE.out.mono ?_
      rintro e w5 ⟨rfl, qo⟩
      obtain ⟨qv, qs, rv, qn, rn, kz5, kr5, sq, sr, hbt, _, hrn, _⟩ := qo
      obtain rfl := hrn rfl
      have KQ5 := Lib.hid (KQ4.out.but hbt (fun h => by omega) (fun h => by omega))
      have HB5 := Lib.hid (HB4.out.trans (hbt.below (B := w.heap.size) HB4.out.size (fun k hk => by rcases hk with rfl | rfl <;> omega)))
      have n15 := (HB5.out.cell (p := ⟨b1, o1, none⟩) lb1).trans n10
      by_cases hrm : nv xs % (y : Int) = 0
      · rw [hrm] at sr
        obtain ⟨Ar, cr, rfl, _, _⟩ := sr
        have d1 := kr5.cell 1
        simp [wordL] at d1
        have HSO := Lib.hid (set_out w w5 zb qb qg qc y qz w.heap.size HZ.out rfl HB5.out KQ5.out)
        have HG := Lib.hid (gcd_zero HX.out hy0 hrm)
        clear kz5 kr5 sq hbt c1P c1Q c0P
        go_wp2_with fail
        refine HSO.out.mono ?_
        rintro e w6 ⟨rfl, ho⟩
        have HO := Lib.hid ho
        clear ho
        go_wp2
        go_ret
        exact ⟨rfl, by rw [HG.out]; exact HO.out⟩
      · obtain ⟨Ar, cr, rfl, _, hrd⟩ := sr
        obtain ⟨r, hr⟩ := Int.eq_ofNat_of_zero_le (Int.emod_nonneg (nv xs) (show (y : Int) ≠ 0 by omega))
        have hry : (r : Int) < y := by rw [← hr]; exact Int.emod_lt_of_pos _ (by omega)
        have hr0 : 0 < r := by omega
        rw [show wordL (nv xs % (y : Int)) = [(r : Int)] by rw [hr]; simp [wordL]; omega] at hrd kr5
        obtain ⟨rb, ro, hA, _, rc⟩ := rd_int hrd (j := 0) (by simp)
        cases hA
        have d1 := kr5.cell 1
        simp at d1 rc
        have HG := Lib.hid (gcd_step HX.out hy0 hr)
        clear kz5 kr5 sq hbt c1P c1Q c0P hrd hrm hr
        have ca1 := KQ5.out.bk.cell 1
        have ca0 := KQ5.out.wd.cell (i := 0) (by simp)
        simp at ca1 ca0
        go_wp2
        go_quiet (fail)
        have HRB : Hid (0 < y ∧ y < 18446744073709551616 ∧ r < 18446744073709551616) := Lib.hid (by have := hry; omega)
        clear ca1 ca0 d1 rc
        go_wp2
        go_loopw [23, 24] (fun av bv wr => ∃ a b : Nat, av = .int .u64 a ∧ bv = .int .u64 b ∧ Hid (Nat.gcd a b = Nat.gcd y r) ∧ Hid (0 < a ∧ a < 18446744073709551616 ∧ b < 18446744073709551616) ∧ ∃ m, wr = w5.drewN m) (fun _ bv _ => (intOf bv).toNat)
        case atStart => exact ⟨y, r, rfl, rfl, Lib.hid rfl, HRB, _, rfl⟩
        case round =>
          obtain ⟨a, b, rfl, rfl, hg, hbd, m, rfl⟩ := hrel
          by_cases hb0 : b = 0
          · subst hb0
            have KAm := Lib.hid (KQ5.out.below (below_drewN' (Below.refl _ _) m))
            have hwd := KAm.out.wd.set 0 (a : Int)
            simp only [List.cons_append, List.set_cons_zero, List.nil_append] at hwd
            have KAs : Hid (Two ((w5.drewN m).setCell ⟨qg, 0, none⟩ (.int .u64 (a : Int))) w.heap.size qb qg qc [(a : Int)] qz) := Lib.hid ⟨KAm.out.bk.far (p := ⟨qg, 0, none⟩) KAm.out.ne.symm _, hwd, KAm.out.ne, by rw [KAm.out.cp]; simp, KAm.out.lb, KAm.out.lg⟩
            have hbl := (below_drewN' HB5.out m).setCell (p := ⟨qg, 0, none⟩) KAm.out.lg (.int .u64 (a : Int))
            have HSO := Lib.hid (set_out w _ zb qb qg qc a qz w.heap.size HZ.out rfl hbl KAs.out)
            have n16 := (hbl.cell (p := ⟨b1, o1, none⟩) lb1).trans n10
            have HGA : Hid (a = Nat.gcd (nv xs).toNat y) := Lib.hid (by have h := hg.out; rw [Nat.gcd_zero_right] at h; rw [h]; exact HG.out)
            have ca1 := KAm.out.bk.cell 1
            have ca0 := KAm.out.wd.cell (i := 0) (by simp)
            have fa0 := Blk.frozen KAm.out.wd 0
            simp at ca1 ca0
            clear hwd hbl n10
            go_wp2_with fail
            refine HSO.out.mono ?_
            rintro e w7 ⟨rfl, ho⟩
            have HO := Lib.hid ho
            clear ho
            go_wp2
            go_ret
            exact ⟨rfl, by rw [← HGA.out]; exact HO.out⟩
          · have e8 : ((b : Int) == 0) = false := beq_no (by omega)
            have HB0 := Lib.hid hb0
            go_wp2
            go_quiet (fail)
            go_wp2
            go_roundw
            case rel => exact ⟨b, a % b, rfl, by simp, Lib.hid (by rw [← hg.out, Nat.gcd_comm b, ← Nat.gcd_rec, Nat.gcd_comm]), Lib.hid ⟨by have := HB0.out; omega, by have := hbd.out; omega, Nat.lt_trans (Nat.mod_lt _ (by have := HB0.out; omega)) hbd.out.2.2⟩, _, by rw [World.drewN_drewN]⟩
            case measure => have := Nat.mod_lt a (show 0 < b by have := HB0.out; omega); simp [intOf]; omega
  · obtain ⟨x', hx', hx0, hxB⟩ : ∃ x' : Nat, xs = [(x' : Int)] ∧ 0 < x' ∧ x' < 18446744073709551616 := by
      match xs, h0, hlen, HX.out, HXN.out with
      | [z], _, _, hw, hnr =>
        have hz1 := (WL.cons.1 hw).1
        have hz2 : ¬ z = 0 := hnr
        exact ⟨z.toNat, by simp; omega, by omega, by omega⟩
      | _ :: _ :: _, _, h, _, _ => exact absurd (by simp) h
    subst hx'
    have rc := KQ4.out.wd.cell (i := 0) (by simp)
    have d1 := c1Q
    have n15 := n10
    simp at rc c1P
    clear c1Q c0P hlen h0 hn
    go_wp2
    go_loop [11, 12, 13, 14, 17] (fun a b u v r => a = .pointer (some ⟨pb, 0, none⟩) ∧ b = .pointer (some ⟨qb, 0, none⟩) ∧ u = .pointer none ∧ v = .pointer none ∧ r = .pointer (some ⟨q0 + 1, 0, none⟩)) (fun _ _ _ _ _ => 0)
    case atStart => exact ⟨rfl, rfl, rfl, rfl, rfl⟩
    case round =>
      obtain ⟨rfl, rfl, rfl, rfl, rfl⟩ := hrel
      have ca1 := KP4.out.bk.cell 1
      have ca0 := KP4.out.wd.cell (i := 0) (by simp)
      simp at ca1 ca0
      go_wp2
      go_quiet (fail)
      have HRB : Hid (0 < x' ∧ x' < 18446744073709551616 ∧ y < 18446744073709551616) := Lib.hid (by omega)
      clear ca1 ca0 d1 rc
      go_wp2
      go_loopw [23, 24] (fun av bv wr => ∃ a b : Nat, av = .int .u64 a ∧ bv = .int .u64 b ∧ Hid (Nat.gcd a b = Nat.gcd x' y) ∧ Hid (0 < a ∧ a < 18446744073709551616 ∧ b < 18446744073709551616) ∧ ∃ m, wr = W4.drewN m) (fun _ bv _ => (intOf bv).toNat)
      case atStart => exact ⟨x', y, rfl, rfl, Lib.hid rfl, HRB, _, rfl⟩
      case round =>
        obtain ⟨a, b, rfl, rfl, hg, hbd, m, rfl⟩ := hrel
        by_cases hb0 : b = 0
        · subst hb0
          have KAm := Lib.hid (KP4.out.below (below_drewN' (Below.refl _ _) m))
          have hwd := KAm.out.wd.set 0 (a : Int)
          simp only [List.cons_append, List.set_cons_zero, List.nil_append] at hwd
          have KAs : Hid (Two ((W4.drewN m).setCell ⟨pg, 0, none⟩ (.int .u64 (a : Int))) w.heap.size pb pg pc [(a : Int)] pz) := Lib.hid ⟨KAm.out.bk.far (p := ⟨pg, 0, none⟩) KAm.out.ne.symm _, hwd, KAm.out.ne, by rw [KAm.out.cp]; simp, KAm.out.lb, KAm.out.lg⟩
          have hbl := (below_drewN' HB4.out m).setCell (p := ⟨pg, 0, none⟩) KAm.out.lg (.int .u64 (a : Int))
          have HSO := Lib.hid (set_out w _ zb pb pg pc a pz w.heap.size HZ.out rfl hbl KAs.out)
          have n16 := (hbl.cell (p := ⟨b1, o1, none⟩) lb1).trans n10
          have HGA : Hid (a = Nat.gcd (nv [(x' : Int)]).toNat y) := Lib.hid (by have h := hg.out; rw [Nat.gcd_zero_right] at h; rw [h]; exact (by simp [nv]))
          have ca1 := KAm.out.bk.cell 1
          have ca0 := KAm.out.wd.cell (i := 0) (by simp)
          have fa0 := Blk.frozen KAm.out.wd 0
          simp at ca1 ca0
          clear hwd hbl n10
          go_wp2_with fail
          refine HSO.out.mono ?_
          rintro e w7 ⟨rfl, ho⟩
          have HO := Lib.hid ho
          clear ho
          go_wp2
          go_ret
          exact ⟨rfl, by rw [← HGA.out]; exact HO.out⟩
        · have e8 : ((b : Int) == 0) = false := beq_no (by omega)
          have HB0 := Lib.hid hb0
          go_wp2
          go_quiet (fail)
          go_wp2
          go_roundw
          case rel => exact ⟨b, a % b, rfl, by simp, Lib.hid (by rw [← hg.out, Nat.gcd_comm b, ← Nat.gcd_rec, Nat.gcd_comm]), Lib.hid ⟨by have := HB0.out; omega, by have := hbd.out; omega, Nat.lt_trans (Nat.mod_lt _ (by have := HB0.out; omega)) hbd.out.2.2⟩, _, by rw [World.drewN_drewN]⟩
          case measure => have := Nat.mod_lt a (show 0 < b by have := HB0.out; omega); simp [intOf]; omega
end Go.Proofs.YtloloifngbmibaaGreatDoor
set_option linter.unusedVariables false
set_option maxRecDepth 4000
namespace Go.Proofs.YtloloifngbmibaaGreatDoor
open Go.RowKit

set_option maxHeartbeats 4000000 in
/-- The first number is the smaller one, one word. -/
theorem lehmer_lt (S S' : Nat → Prop) (zb b1 o1 b2 o2 : Nat) (n1 n2 : Bool) (y : Nat) (xs : List Int) (hy0 : 0 < y) (hy1 : y < 18446744073709551616) (h0 : 0 < xs.length) (hn : xs.length ≤ 1000000) (hX : WL xs) (hXn : Nrm xs) (hcmp : ordL [(y : Int)] xs.reverse < 0) (w : World)
    (hz : Blk w zb 189 #[.bool false, .slice none 0 0])
    (t1 : TypeId) (cs1 : Array Value) (hb1 : Blk w b1 t1 cs1) (hx : BigV w S b1 o1 n1 [(y : Int)]) (hS : ∀ k, S k → k < w.heap.size) (t2 : TypeId) (cs2 : Array Value) (hb2 : Blk w b2 t2 cs2) (hy : BigV w S' b2 o2 n2 xs) (hS' : ∀ k, S' k → k < w.heap.size) :
    Calls Tryz.prog 181 #[.pointer (some ⟨zb, 0, none⟩), .pointer none, .pointer none, .pointer (some ⟨b1, o1, none⟩), .pointer (some ⟨b2, o2, none⟩)] w fun e w' => e = .returned (.pointer (some ⟨zb, 0, none⟩)) ∧ LehOut zb (Nat.gcd (nv xs).toNat y) w w' := by
  have HA1 := Lib.hid (abs_two w S b1 o1 n1 [(y : Int)] (by simp) (by simp) hb1.lt t1 cs1 hb1 hx)
  have HA2 : Hid (∀ W, Below w.heap.size w W → Calls Tryz.prog 196 #[.pointer (some ⟨W.heap.size, 0, none⟩), .pointer (some ⟨b2, o2, none⟩)] (W.alloc (.cells #[.bool false, .slice none 0 0] 189)) fun e w' => ∃ b g c zs, e = .returned (.pointer (some ⟨b, 0, none⟩)) ∧ Two w' W.heap.size b g c xs zs ∧ Below W.heap.size W w') := Lib.hid fun W hW =>
    abs_two W S' b2 o2 n2 xs (by omega) h0 (Nat.lt_of_lt_of_le hb2.lt hW.size) t2 cs2 (hb2.below hW hb2.lt) (hy.keep (still_below hW hS'))
  have HZ := Lib.hid hz
  have HX := Lib.hid hX
  have HXN := Lib.hid hXn
  have n10 : w.cell? ⟨b1, o1, none⟩ = some (.bool n1) := by obtain ⟨v, _, h, _⟩ := hx; exact h
  have lb1 := hb1.lt
  clear hz hX hXn hb1 hb2 hx hy hS hS'
  go_enter Tryz.func181, Tryz.ntmps181
  go_wp2_with fail
  refine HA1.out.mono ?_
  rintro e W1 ⟨pb, pg, pc, pz, rfl, tP, hbw⟩
  have HTP := Lib.hid tP
  have HBW := Lib.hid hbw
  clear tP hbw
  go_wp2_with fail
  refine (HA2.out _ HBW.out).mono ?_
  rintro e W2 ⟨qb, qg, qc, qz, rfl, tQ, hbw⟩
  have HTQ := Lib.hid tQ
  have HBQ := Lib.hid hbw
  clear tQ hbw
  go_upto_region 10 with fail
  obtain ⟨W3, hW3⟩ : ∃ W3, W3 = ((W2.alloc (.cells #[.bool false, .slice none 0 0] 189)).alloc (.cells #[.bool false, .slice none 0 0] 189)) := ⟨_, rfl⟩
  obtain ⟨q0, hq0⟩ : ∃ q0, q0 = W2.heap.size := ⟨_, rfl⟩
  have hb23 := below_al (below_al (Below.refl W2.heap.size W2) (.cells #[.bool false, .slice none 0 0] 189)) (.cells #[.bool false, .slice none 0 0] 189)
  have TP := (HTP.out.below HBQ.out).below hb23
  have TQ := HTQ.out.below hb23
  have KZ := (Blk.new W2 189 #[.bool false, .slice none 0 0]).alloc (.cells #[.bool false, .slice none 0 0] 189)
  have KR := Blk.new (W2.alloc (.cells #[.bool false, .slice none 0 0] 189)) 189 #[.bool false, .slice none 0 0]
  have hs2 : (W2.alloc (.cells #[.bool false, .slice none 0 0] 189)).heap.size = W2.heap.size + 1 := by simp
  rw [hs2] at KR
  have HB3 := below_up (below_up HBW.out HBQ.out) hb23
  have l1 : pb < q0 ∧ pg < q0 := by rw [hq0]; exact ⟨Nat.lt_of_lt_of_le HTP.out.bk.lt HBQ.out.size, Nat.lt_of_lt_of_le (WB.lt HTP.out.wd) HBQ.out.size⟩
  have l2 : qb < q0 ∧ qg < q0 := by rw [hq0]; exact ⟨HTQ.out.bk.lt, WB.lt HTQ.out.wd⟩
  have l3 : pb < W1.heap.size ∧ pg < W1.heap.size := ⟨HTP.out.bk.lt, WB.lt HTP.out.wd⟩
  have l4 := HTQ.out.lb
  have l5 := HTQ.out.lg
  have l6 : w.heap.size ≤ q0 := by rw [hq0]; exact Nat.le_trans HBW.out.size HBQ.out.size
  have l7 : w.heap.size ≤ W1.heap.size := HBW.out.size
  have TQ' : Two W3 w.heap.size qb qg qc xs qz := by rw [hW3]; exact ⟨TQ.bk, TQ.wd, TQ.ne, TQ.cp, Nat.le_trans l7 TQ.lb, Nat.le_trans l7 TQ.lg⟩
  rw [← hq0] at KZ KR
  rw [← hW3] at TP KZ KR HB3
  rw [← hW3, ← hq0]
  have c1P := TP.bk.cell 1
  have c1Q := TQ'.bk.cell 1
  simp at c1P c1Q
  have HCMP : Hid (∀ n, Calls Tryz.prog 141 #[.slice (some ⟨pg, 0, none⟩) 1 pc, .slice (some ⟨qg, 0, none⟩) xs.length qc] (W3.drewN n) fun e w' => e = .returned (.int .i64 (ordL [(y : Int)] xs.reverse)) ∧ ∃ m, w' = W3.drewN m) := Lib.hid fun n => by
    refine (cmpN_any (fun k => k = pg) (fun k => k = qg) (some ⟨pg, 0, none⟩) (some ⟨qg, 0, none⟩) pc qc [(y : Int)] xs (by simp) (by omega) (W3.drewN n) (WB.rd (o := 0) (zs := pz) (TP.wd.drewN n) (by simp)) (WB.rd (o := 0) (zs := qz) (TQ'.wd.drewN n) (by simp))).mono ?_
    rintro e w' ⟨rfl, m, rfl⟩
    exact ⟨rfl, n + m, by rw [World.drewN_drewN]⟩
  obtain ⟨C, hC⟩ : ∃ C, C = ordL [(y : Int)] xs.reverse := ⟨_, rfl⟩
  rw [← hC] at HCMP hcmp
  have eC := dec_yes (show C < 0 by omega)
  have hC2 : C < 0 := by omega
  have HTP3 := Lib.hid TP
  have HTQ3 := Lib.hid TQ'
  have HKZ := Lib.hid KZ
  have HKR := Lib.hid KR
  have HB := Lib.hid HB3
  clear TP TQ TQ' KZ KR HB3 hb23 hs2 hW3 hq0 HTP HTQ HBQ HBW HA1 HA2 hC l4 l5 l3
  go_quiet (exact HCMP.out _)
  generalize hW4 : W3.drewN nq = W4
  have KP4 : Hid (Two W4 w.heap.size pb pg pc [(y : Int)] pz) := Lib.hid (by rw [← hW4]; exact HTP3.out.below (below_drewN' (Below.refl _ _) _))
  have KQ4 : Hid (Two W4 w.heap.size qb qg qc xs qz) := Lib.hid (by rw [← hW4]; exact HTQ3.out.below (below_drewN' (Below.refl _ _) _))
  have KZ4 : Hid (Blk W4 q0 189 #[.bool false, .slice none 0 0]) := Lib.hid (by rw [← hW4]; exact HKZ.out.drewN _)
  have KR4 : Hid (Blk W4 (q0 + 1) 189 #[.bool false, .slice none 0 0]) := Lib.hid (by rw [← hW4]; exact HKR.out.drewN _)
  have HB4 : Hid (Below w.heap.size w W4) := Lib.hid (by rw [← hW4]; exact below_drewN' HB.out _)
  clear hW4 HTP3 HTQ3 HKZ HKR HB c1P c1Q HCMP
  have c1P := KQ4.out.bk.cell 1
  have c1Q := KP4.out.bk.cell 1
  have c0P := KQ4.out.bk.cell 0
  simp at c1P c1Q
  by_cases hlen : 1 < xs.length
  · have HE := Lib.hid (euclid_any (fun k => k = qb ∨ k = qg) (fun k => k = pb ∨ k = pg) q0 (q0 + 1) qb 0 pb 0 false false y xs hy0 hy1 (.inl hlen) hn HX.out W4 KZ4.out KR4.out (by omega) KQ4.out.big KP4.out.big (fun k hk => by have := KQ4.out.bk.lt; have := WB.lt KQ4.out.wd; rcases hk with rfl | rfl <;> omega) (fun k hk => by have := KP4.out.bk.lt; have := WB.lt KP4.out.wd; rcases hk with rfl | rfl <;> omega))
    go_wp2
    go_loop [11, 12, 13, 14, 17] (fun a b u v r => a = .pointer (some ⟨qb, 0, none⟩) ∧ b = .pointer (some ⟨pb, 0, none⟩) ∧ u = .pointer none ∧ v = .pointer none ∧ r = .pointer (some ⟨q0 + 1, 0, none⟩)) (fun _ _ _ _ _ => 0)
    case atStart => exact ⟨rfl, rfl, rfl, rfl, rfl⟩
    case round =>
      obtain ⟨rfl, rfl, rfl, rfl, rfl⟩ := hrel
      go_wp2_with fail
      refine HE.out.mono ?_
      rintro e w5 ⟨rfl, qo⟩
      obtain ⟨qv, qs, rv, qn, rn, kz5, kr5, sq, sr, hbt, _, hrn, _⟩ := qo
      obtain rfl := hrn rfl
      have KQ5 := Lib.hid (KP4.out.but hbt (fun h => by omega) (fun h => by omega))
      have HB5 := Lib.hid (HB4.out.trans (hbt.below (B := w.heap.size) HB4.out.size (fun k hk => by rcases hk with rfl | rfl <;> omega)))
      have n15 := (HB5.out.cell (p := ⟨b1, o1, none⟩) lb1).trans n10
      by_cases hrm : nv xs % (y : Int) = 0
      · rw [hrm] at sr
        obtain ⟨Ar, cr, rfl, _, _⟩ := sr
        have d1 := kr5.cell 1
        simp [wordL] at d1
        have HSO := Lib.hid (set_out w w5 zb pb pg pc y pz w.heap.size HZ.out rfl HB5.out KQ5.out)
        have HG := Lib.hid (gcd_zero HX.out hy0 hrm)
        clear kz5 kr5 sq hbt c1P c1Q c0P
        go_wp2_with fail
        refine HSO.out.mono ?_
        rintro e w6 ⟨rfl, ho⟩
        have HO := Lib.hid ho
        clear ho
        go_wp2
        go_ret
        exact ⟨rfl, by rw [HG.out]; exact HO.out⟩
      · obtain ⟨Ar, cr, rfl, _, hrd⟩ := sr
        obtain ⟨r, hr⟩ := Int.eq_ofNat_of_zero_le (Int.emod_nonneg (nv xs) (show (y : Int) ≠ 0 by omega))
        have hry : (r : Int) < y := by rw [← hr]; exact Int.emod_lt_of_pos _ (by omega)
        have hr0 : 0 < r := by omega
        rw [show wordL (nv xs % (y : Int)) = [(r : Int)] by rw [hr]; simp [wordL]; omega] at hrd kr5
        obtain ⟨rb, ro, hA, _, rc⟩ := rd_int hrd (j := 0) (by simp)
        cases hA
        have d1 := kr5.cell 1
        simp at d1 rc
        have HG := Lib.hid (gcd_step HX.out hy0 hr)
        clear kz5 kr5 sq hbt c1P c1Q c0P hrd hrm hr
        have ca1 := KQ5.out.bk.cell 1
        have ca0 := KQ5.out.wd.cell (i := 0) (by simp)
        simp at ca1 ca0
        go_wp2
        go_quiet (fail)
        have HRB : Hid (0 < y ∧ y < 18446744073709551616 ∧ r < 18446744073709551616) := Lib.hid (by have := hry; omega)
        clear ca1 ca0 d1 rc
        go_wp2
        go_loopw [23, 24] (fun av bv wr => ∃ a b : Nat, av = .int .u64 a ∧ bv = .int .u64 b ∧ Hid (Nat.gcd a b = Nat.gcd y r) ∧ Hid (0 < a ∧ a < 18446744073709551616 ∧ b < 18446744073709551616) ∧ ∃ m, wr = w5.drewN m) (fun _ bv _ => (intOf bv).toNat)
        case atStart => exact ⟨y, r, rfl, rfl, Lib.hid rfl, HRB, _, rfl⟩
        case round =>
          obtain ⟨a, b, rfl, rfl, hg, hbd, m, rfl⟩ := hrel
          by_cases hb0 : b = 0
          · subst hb0
            have KAm := Lib.hid (KQ5.out.below (below_drewN' (Below.refl _ _) m))
            have hwd := KAm.out.wd.set 0 (a : Int)
            simp only [List.cons_append, List.set_cons_zero, List.nil_append] at hwd
            have KAs : Hid (Two ((w5.drewN m).setCell ⟨pg, 0, none⟩ (.int .u64 (a : Int))) w.heap.size pb pg pc [(a : Int)] pz) := Lib.hid ⟨KAm.out.bk.far (p := ⟨pg, 0, none⟩) KAm.out.ne.symm _, hwd, KAm.out.ne, by rw [KAm.out.cp]; simp, KAm.out.lb, KAm.out.lg⟩
            have hbl := (below_drewN' HB5.out m).setCell (p := ⟨pg, 0, none⟩) KAm.out.lg (.int .u64 (a : Int))
            have HSO := Lib.hid (set_out w _ zb pb pg pc a pz w.heap.size HZ.out rfl hbl KAs.out)
            have n16 := (hbl.cell (p := ⟨b1, o1, none⟩) lb1).trans n10
            have HGA : Hid (a = Nat.gcd (nv xs).toNat y) := Lib.hid (by have h := hg.out; rw [Nat.gcd_zero_right] at h; rw [h]; exact HG.out)
            have ca1 := KAm.out.bk.cell 1
            have ca0 := KAm.out.wd.cell (i := 0) (by simp)
            have fa0 := Blk.frozen KAm.out.wd 0
            simp at ca1 ca0
            clear hwd hbl n10
            go_wp2_with fail
            refine HSO.out.mono ?_
            rintro e w7 ⟨rfl, ho⟩
            have HO := Lib.hid ho
            clear ho
            go_wp2
            go_ret
            exact ⟨rfl, by rw [← HGA.out]; exact HO.out⟩
          · have e8 : ((b : Int) == 0) = false := beq_no (by omega)
            have HB0 := Lib.hid hb0
            go_wp2
            go_quiet (fail)
            go_wp2
            go_roundw
            case rel => exact ⟨b, a % b, rfl, by simp, Lib.hid (by rw [← hg.out, Nat.gcd_comm b, ← Nat.gcd_rec, Nat.gcd_comm]), Lib.hid ⟨by have := HB0.out; omega, by have := hbd.out; omega, Nat.lt_trans (Nat.mod_lt _ (by have := HB0.out; omega)) hbd.out.2.2⟩, _, by rw [World.drewN_drewN]⟩
            case measure => have := Nat.mod_lt a (show 0 < b by have := HB0.out; omega); simp [intOf]; omega
  · obtain ⟨x', hx', hx0, hxB⟩ : ∃ x' : Nat, xs = [(x' : Int)] ∧ 0 < x' ∧ x' < 18446744073709551616 := by
      match xs, h0, hlen, HX.out, HXN.out with
      | [z], _, _, hw, hnr =>
        have hz1 := (WL.cons.1 hw).1
        have hz2 : ¬ z = 0 := hnr
        exact ⟨z.toNat, by simp; omega, by omega, by omega⟩
      | _ :: _ :: _, _, h, _, _ => exact absurd (by simp) h
    subst hx'
    have rc := KP4.out.wd.cell (i := 0) (by simp)
    have d1 := c1Q
    have n15 := n10
    simp at rc c1P
    clear c1Q c0P hlen h0 hn
    go_wp2
    go_loop [11, 12, 13, 14, 17] (fun a b u v r => a = .pointer (some ⟨qb, 0, none⟩) ∧ b = .pointer (some ⟨pb, 0, none⟩) ∧ u = .pointer none ∧ v = .pointer none ∧ r = .pointer (some ⟨q0 + 1, 0, none⟩)) (fun _ _ _ _ _ => 0)
    case atStart => exact ⟨rfl, rfl, rfl, rfl, rfl⟩
    case round =>
      obtain ⟨rfl, rfl, rfl, rfl, rfl⟩ := hrel
      have ca1 := KQ4.out.bk.cell 1
      have ca0 := KQ4.out.wd.cell (i := 0) (by simp)
      simp at ca1 ca0
      go_wp2
      go_quiet (fail)
      have HRB : Hid (0 < x' ∧ x' < 18446744073709551616 ∧ y < 18446744073709551616) := Lib.hid (by omega)
      clear ca1 ca0 d1 rc
      go_wp2
      go_loopw [23, 24] (fun av bv wr => ∃ a b : Nat, av = .int .u64 a ∧ bv = .int .u64 b ∧ Hid (Nat.gcd a b = Nat.gcd x' y) ∧ Hid (0 < a ∧ a < 18446744073709551616 ∧ b < 18446744073709551616) ∧ ∃ m, wr = W4.drewN m) (fun _ bv _ => (intOf bv).toNat)
      case atStart => exact ⟨x', y, rfl, rfl, Lib.hid rfl, HRB, _, rfl⟩
      case round =>
        obtain ⟨a, b, rfl, rfl, hg, hbd, m, rfl⟩ := hrel
        by_cases hb0 : b = 0
        · subst hb0
          have KAm := Lib.hid (KQ4.out.below (below_drewN' (Below.refl _ _) m))
          have hwd := KAm.out.wd.set 0 (a : Int)
          simp only [List.cons_append, List.set_cons_zero, List.nil_append] at hwd
          have KAs : Hid (Two ((W4.drewN m).setCell ⟨qg, 0, none⟩ (.int .u64 (a : Int))) w.heap.size qb qg qc [(a : Int)] qz) := Lib.hid ⟨KAm.out.bk.far (p := ⟨qg, 0, none⟩) KAm.out.ne.symm _, hwd, KAm.out.ne, by rw [KAm.out.cp]; simp, KAm.out.lb, KAm.out.lg⟩
          have hbl := (below_drewN' HB4.out m).setCell (p := ⟨qg, 0, none⟩) KAm.out.lg (.int .u64 (a : Int))
          have HSO := Lib.hid (set_out w _ zb qb qg qc a qz w.heap.size HZ.out rfl hbl KAs.out)
          have n16 := (hbl.cell (p := ⟨b1, o1, none⟩) lb1).trans n10
          have HGA : Hid (a = Nat.gcd (nv [(x' : Int)]).toNat y) := Lib.hid (by have h := hg.out; rw [Nat.gcd_zero_right] at h; rw [h]; exact (by simp [nv]))
          have ca1 := KAm.out.bk.cell 1
          have ca0 := KAm.out.wd.cell (i := 0) (by simp)
          have fa0 := Blk.frozen KAm.out.wd 0
          simp at ca1 ca0
          clear hwd hbl n10
          go_wp2_with fail
          refine HSO.out.mono ?_
          rintro e w7 ⟨rfl, ho⟩
          have HO := Lib.hid ho
          clear ho
          go_wp2
          go_ret
          exact ⟨rfl, by rw [← HGA.out]; exact HO.out⟩
        · have e8 : ((b : Int) == 0) = false := beq_no (by omega)
          have HB0 := Lib.hid hb0
          go_wp2
          go_quiet (fail)
          go_wp2
          go_roundw
          case rel => exact ⟨b, a % b, rfl, by simp, Lib.hid (by rw [← hg.out, Nat.gcd_comm b, ← Nat.gcd_rec, Nat.gcd_comm]), Lib.hid ⟨by have := HB0.out; omega, by have := hbd.out; omega, Nat.lt_trans (Nat.mod_lt _ (by have := HB0.out; omega)) hbd.out.2.2⟩, _, by rw [World.drewN_drewN]⟩
          case measure => have := Nat.mod_lt a (show 0 < b by have := HB0.out; omega); simp [intOf]; omega
end Go.Proofs.YtloloifngbmibaaGreatDoor
