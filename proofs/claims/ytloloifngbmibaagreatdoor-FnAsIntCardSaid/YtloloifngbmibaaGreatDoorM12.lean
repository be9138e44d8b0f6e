/- Walk of lehmerGCD, the numbers swapped. (Printed by gen_gcd.py.) Walks of Set into a part of a block, of getStack, free, intOne, scaleDenom, Int.Cmp. Walks of free as a deferred call, of Int.Cmp, of scaleDenom. -/
import Derived.Test.YtloloifngbmibaaGreatDoorM11
import Derived.Defers
import Derived.LaidEqlPtr
set_option linter.unusedVariables false
set_option maxRecDepth 4000
namespace Go.Proofs.YtloloifngbmibaaGreatDoor
open Go.RowKit

set_option maxHeartbeats 4000000 in
/-- The first number is the smaller one, one word. -/
theorem lehmer_lt (S S' : Nat → Prop) (zb b1 o1 b2 o2 : Nat) (n1 n2 : Bool) (y : Nat) (xs : List Int) (hy0 : 0 < y) (hy1 : y < 18446744073709551616) (h0 : 0 < xs.length) (hn : xs.length ≤ 1000000) (hX : WL xs) (hXn : Nrm xs) (hcmp : ordL [(y : Int)] xs.reverse < 0) (w : World)
    (hz : Blk w zb 189 #[.bool false, .slice none 0 0])
    (t1 : TypeId) (cs1 : Array Value) (hb1 : Blk w b1 t1 cs1) (hx : BigV w S b1 o1 n1 [(y : Int)]) (hS : ∀ k, S k → k < w.heap.size) (t2 : TypeId) (cs2 : Array Value) (hb2 : Blk w b2 t2 cs2) (hy : BigV w S' b2 o2 n2 xs) (hS' : ∀ k, S' k → k < w.heap.size) :
    Calls Tryz.prog 181 #[.pointer (some ⟨zb, 0, none⟩), .pointer none, .pointer none, .pointer (some ⟨b1, o1, none⟩), .pointer (some ⟨b2, o2, none⟩)] w fun e w' => e = .returned (.pointer (some ⟨zb, 0, none⟩)) ∧ LehOut zb (Nat.gcd (nv xs).toNat y) w w' := by
  have HA1 := Lib.hid (abs_two w S b1 o1 n1 [(y : Int)] (by simp) (by simp) hb1.lt t1 cs1 hb1 hx)
  have HA2 : Hid (∀ W, Below w.heap.size w W → Calls Tryz.prog 196 #[.pointer (some ⟨W.heap.size, 0, none⟩), .pointer (some ⟨b2, o2, none⟩)] (W.alloc (.cells #[.bool false, .slice none 0 0] 189)) fun e w' => ∃ b g c zs, e = .returned (.pointer (some ⟨b, 0, none⟩)) ∧ Two w' W.heap.size b g c xs zs ∧ Below W.heap.size W w') := Lib.hid fun W hW =>
    abs_two W S' b2 o2 n2 xs (by omega) h0 (Nat.lt_of_lt_of_le hb2.lt hW.size) t2 cs2 (hb2.below hW hb2.lt) (hy.keep (still_below hW hS'))
  have HZ := Lib.hid hz
  have HX := Lib.hid hX
  have HXN := Lib.hid hXn
  have n10 : w.cell? ⟨b1, o1, none⟩ = some (.bool n1) := by obtain ⟨v, _, h, _⟩ := hx; exact h
  have lb1 := hb1.lt
  clear hz hX hXn hb1 hb2 hx hy hS hS'
  go_enter Tryz.func181, Tryz.ntmps181
  go_wp2_with fail
  refine HA1.out.mono ?_
  rintro e W1 ⟨pb, pg, pc, pz, rfl, tP, hbw⟩
  have HTP := Lib.hid tP
  have HBW := Lib.hid hbw
  clear tP hbw
  go_wp2_with fail
  refine (HA2.out _ HBW.out).mono ?_
  rintro e W2 ⟨qb, qg, qc, qz, rfl, tQ, hbw⟩
  have HTQ := Lib.hid tQ
  have HBQ := Lib.hid hbw
  clear tQ hbw
  go_upto_region 10 with fail
  obtain ⟨W3, hW3⟩ : ∃ W3, W3 = ((W2.alloc (.cells #[.bool false, .slice none 0 0] 189)).alloc (.cells #[.bool false, .slice none 0 0] 189)) := ⟨_, rfl⟩
  obtain ⟨q0, hq0⟩ : ∃ q0, q0 = W2.heap.size := ⟨_, rfl⟩
  have hb23 := below_al (below_al (Below.refl W2.heap.size W2) (.cells #[.bool false, .slice none 0 0] 189)) (.cells #[.bool false, .slice none 0 0] 189)
  have TP := (HTP.out.below HBQ.out).below hb23
  have TQ := HTQ.out.below hb23
  have KZ := (Blk.new W2 189 #[.bool false, .slice none 0 0]).alloc (.cells #[.bool false, .slice none 0 0] 189)
  have KR := Blk.new (W2.alloc (.cells #[.bool false, .slice none 0 0] 189)) 189 #[.bool false, .slice none 0 0]
  have hs2 : (W2.alloc (.cells #[.bool false, .slice none 0 0] 189)).heap.size = W2.heap.size + 1 := by simp
  rw [hs2] at KR
  have HB3 := below_up (below_up HBW.out HBQ.out) hb23
  have l1 : pb < q0 ∧ pg < q0 := by rw [hq0]; exact ⟨Nat.lt_of_lt_of_le HTP.out.bk.lt HBQ.out.size, Nat.lt_of_lt_of_le (WB.lt HTP.out.wd) HBQ.out.size⟩
  have l2 : qb < q0 ∧ qg < q0 := by rw [hq0]; exact ⟨HTQ.out.bk.lt, WB.lt HTQ.out.wd⟩
  have l3 : pb < W1.heap.size ∧ pg < W1.heap.size := ⟨HTP.out.bk.lt, WB.lt HTP.out.wd⟩
  have l4 := HTQ.out.lb
  have l5 := HTQ.out.lg
  have l6 : w.heap.size ≤ q0 := by rw [hq0]; exact Nat.le_trans HBW.out.size HBQ.out.size
  have l7 : w.heap.size ≤ W1.heap.size := HBW.out.size
  have TQ' : Two W3 w.heap.size qb qg qc xs qz := by rw [hW3]; exact ⟨TQ.bk, TQ.wd, TQ.ne, TQ.cp, Nat.le_trans l7 TQ.lb, Nat.le_trans l7 TQ.lg⟩
  rw [← hq0] at KZ KR
  rw [← hW3] at TP KZ KR HB3
  rw [← hW3, ← hq0]
  have c1P := TP.bk.cell 1
  have c1Q := TQ'.bk.cell 1
  simp at c1P c1Q
  have HCMP : Hid (∀ n, Calls Tryz.prog 141 #[.slice (some ⟨pg, 0, none⟩) 1 pc, .slice (some ⟨qg, 0, none⟩) xs.length qc] (W3.drewN n) fun e w' => e = .returned (.int .i64 (ordL [(y : Int)] xs.reverse)) ∧ ∃ m, w' = W3.drewN m) := Lib.hid fun n => by
    refine (cmpN_any (fun k => k = pg) (fun k => k = qg) (some ⟨pg, 0, none⟩) (some ⟨qg, 0, none⟩) pc qc [(y : Int)] xs (by simp) (by omega) (W3.drewN n) (WB.rd (o := 0) (zs := pz) (TP.wd.drewN n) (by simp)) (WB.rd (o := 0) (zs := qz) (TQ'.wd.drewN n) (by simp))).mono ?_
    rintro e w' ⟨rfl, m, rfl⟩
    exact ⟨rfl, n + m, by rw [World.drewN_drewN]⟩
  obtain ⟨C, hC⟩ : ∃ C, C = ordL [(y : Int)] xs.reverse := ⟨_, rfl⟩
  rw [← hC] at HCMP hcmp
  have eC := dec_yes (show C < 0 by omega)
  have hC2 : C < 0 := by omega
  have HTP3 := Lib.hid TP
  have HTQ3 := Lib.hid TQ'
  have HKZ := Lib.hid KZ
  have HKR := Lib.hid KR
  have HB := Lib.hid HB3
  clear TP TQ TQ' KZ KR HB3 hb23 hs2 hW3 hq0 HTP HTQ HBQ HBW HA1 HA2 hC l4 l5 l3
  go_quiet (exact HCMP.out _)
  generalize hW4 : W3.drewN nq = W4
  have KP4 : Hid (Two W4 w.heap.size pb pg pc [(y : Int)] pz) := Lib.hid (by rw [← hW4]; exact HTP3.out.below (below_drewN' (Below.refl _ _) _))
  have KQ4 : Hid (Two W4 w.heap.size qb qg qc xs qz) := Lib.hid (by rw [← hW4]; exact HTQ3.out.below (below_drewN' (Below.refl _ _) _))
  have KZ4 : Hid (Blk W4 q0 189 #[.bool false, .slice none 0 0]) := Lib.hid (by rw [← hW4]; exact HKZ.out.drewN _)
  have KR4 : Hid (Blk W4 (q0 + 1) 189 #[.bool false, .slice none 0 0]) := Lib.hid (by rw [← hW4]; exact HKR.out.drewN _)
  have HB4 : Hid (Below w.heap.size w W4) := Lib.hid (by rw [← hW4]; exact below_drewN' HB.out _)
  clear hW4 HTP3 HTQ3 HKZ HKR HB c1P c1Q HCMP
  have c1P := KQ4.out.bk.cell 1
  have c1Q := KP4.out.bk.cell 1
  have c0P := KQ4.out.bk.cell 0
  simp at c1P c1Q
  by_cases hlen : 1 < xs.length
  · have HE := Lib.hid (euclid_any (fun k => k = qb ∨ k = qg) (fun k => k = pb ∨ k = pg) q0 (q0 + 1) qb 0 pb 0 false false y xs hy0 hy1 (.inl hlen) hn HX.out W4 KZ4.out KR4.out (by omega) KQ4.out.big KP4.out.big (fun k hk => by have := KQ4.out.bk.lt; have := WB.lt KQ4.out.wd; rcases hk with rfl | rfl <;> omega) (fun k hk => by have := KP4.out.bk.lt; have := WB.lt KP4.out.wd; rcases hk with rfl | rfl <;> omega))
    go_wp2
    go_loop [11, 12, 13, 14, 17] (fun a b u v r => a = .pointer (some ⟨qb, 0, none⟩) ∧ b = .pointer (some ⟨pb, 0, none⟩) ∧ u = .pointer none ∧ v = .pointer none ∧ r = .pointer (some ⟨q0 + 1, 0, none⟩)) (fun _ _ _ _ _ => 0)
    case atStart => exact ⟨rfl, rfl, rfl, rfl, rfl⟩
    case round =>
      obtain ⟨rfl, rfl, rfl, rfl, rfl⟩ := hrel
      go_wp2_with fail
      refine HE.out.mono ?_
      rintro e w5 ⟨rfl, qo⟩
      obtain ⟨qv, qs, rv, qn, rn, kz5, kr5, sq, sr, hbt, _, hrn, _⟩ := qo
      obtain rfl := hrn rfl
      have KQ5 := Lib.hid (KP4.out.but hbt (fun h => by omega) (fun h => by omega))
      have HB5 := Lib.hid (HB4.out.trans (hbt.below (B := w.heap.size) HB4.out.size (fun k hk => by rcases hk with rfl | rfl <;> omega)))
      have n15 := (HB5.out.cell (p := ⟨b1, o1, none⟩) lb1).trans n10
      by_cases hrm : nv xs % (y : Int) = 0
      · rw [hrm] at sr
        obtain ⟨Ar, cr, rfl, _, _⟩ := sr
        have d1 := kr5.cell 1
        simp [wordL] at d1
        have HSO := Lib.hid (set_out w w5 zb pb pg pc y pz w.heap.size HZ.out rfl HB5.out KQ5.out)
        have HG := Lib.hid (gcd_zero HX.out hy0 hrm)
        clear kz5 kr5 sq hbt c1P c1Q c0P
        go_wp2_with fail
        refine HSO.out.mono ?_
        rintro e w6 ⟨rfl, ho⟩
        have HO := Lib.hid ho
        clear ho
        go_wp2
        go_ret
        exact ⟨rfl, by rw [HG.out]; exact HO.out⟩
      · obtain ⟨Ar, cr, rfl, _, hrd⟩ := sr
        obtain ⟨r, hr⟩ := Int.eq_ofNat_of_zero_le (Int.emod_nonneg (nv xs) (show (y : Int) ≠ 0 by omega))
        have hry : (r : Int) < y := by rw [← hr]; exact Int.emod_lt_of_pos _ (by omega)
        have hr0 : 0 < r := by omega
        rw [show wordL (nv xs % (y : Int)) = [(r : Int)] by rw [hr]; simp [wordL]; omega] at hrd kr5
        obtain ⟨rb, ro, hA, _, rc⟩ := rd_int hrd (j := 0) (by simp)
        cases hA
        have d1 := kr5.cell 1
        simp at d1 rc
        have HG := Lib.hid (gcd_step HX.out hy0 hr)
        clear kz5 kr5 sq hbt c1P c1Q c0P hrd hrm hr
        have ca1 := KQ5.out.bk.cell 1
        have ca0 := KQ5.out.wd.cell (i := 0) (by simp)
        simp at ca1 ca0
        go_wp2
        go_quiet (fail)
        have HRB : Hid (0 < y ∧ y < 18446744073709551616 ∧ r < 18446744073709551616) := Lib.hid (by have := hry; omega)
        clear ca1 ca0 d1 rc
        go_wp2
        go_loopw [23, 24] (fun av bv wr => ∃ a b : Nat, av = .int .u64 a ∧ bv = .int .u64 b ∧ Hid (Nat.gcd a b = Nat.gcd y r) ∧ Hid (0 < a ∧ a < 18446744073709551616 ∧ b < 18446744073709551616) ∧ ∃ m, wr = w5.drewN m) (fun _ bv _ => (intOf bv).toNat)
        case atStart => exact ⟨y, r, rfl, rfl, Lib.hid rfl, HRB, _, rfl⟩
        case round =>
          obtain ⟨a, b, rfl, rfl, hg, hbd, m, rfl⟩ := hrel
          by_cases hb0 : b = 0
          · subst hb0
            have KAm := Lib.hid (KQ5.out.below (below_drewN' (Below.refl _ _) m))
            have hwd := KAm.out.wd.set 0 (a : Int)
            simp only [List.cons_append, List.set_cons_zero, List.nil_append] at hwd
            have KAs : Hid (Two ((w5.drewN m).setCell ⟨pg, 0, none⟩ (.int .u64 (a : Int))) w.heap.size pb pg pc [(a : Int)] pz) := Lib.hid ⟨KAm.out.bk.far (p := ⟨pg, 0, none⟩) KAm.out.ne.symm _, hwd, KAm.out.ne, by rw [KAm.out.cp]; simp, KAm.out.lb, KAm.out.lg⟩
            have hbl := (below_drewN' HB5.out m).setCell (p := ⟨pg, 0, none⟩) KAm.out.lg (.int .u64 (a : Int))
            have HSO := Lib.hid (set_out w _ zb pb pg pc a pz w.heap.size HZ.out rfl hbl KAs.out)
            have n16 := (hbl.cell (p := ⟨b1, o1, none⟩) lb1).trans n10
            have HGA : Hid (a = Nat.gcd (nv xs).toNat y) := Lib.hid (by have h := hg.out; rw [Nat.gcd_zero_right] at h; rw [h]; exact HG.out)
            have ca1 := KAm.out.bk.cell 1
            have ca0 := KAm.out.wd.cell (i := 0) (by simp)
            have fa0 := Blk.frozen KAm.out.wd 0
            simp at ca1 ca0
            clear hwd hbl n10
            go_wp2_with fail
            refine HSO.out.mono ?_
            rintro e w7 ⟨rfl, ho⟩
            have HO := Lib.hid ho
            clear ho
            go_wp2
            go_ret
            exact ⟨rfl, by rw [← HGA.out]; exact HO.out⟩
          · have e8 : ((b : Int) == 0) = false := beq_no (by omega)
            have HB0 := Lib.hid hb0
            go_wp2
            go_quiet (fail)
            go_wp2
            go_roundw
            case rel => exact ⟨b, a % b, rfl, by simp, Lib.hid (by rw [← hg.out, Nat.gcd_comm b, ← Nat.gcd_rec, Nat.gcd_comm]), Lib.hid ⟨by have := HB0.out; omega, by have := hbd.out; omega, Nat.lt_trans (Nat.mod_lt _ (by have := HB0.out; omega)) hbd.out.2.2⟩, _, by rw [World.drewN_drewN]⟩
            case measure => have := Nat.mod_lt a (show 0 < b by have := HB0.out; omega); simp [intOf]; omega
  · obtain ⟨x', hx', hx0, hxB⟩ : ∃ x' : Nat, xs = [(x' : Int)] ∧ 0 < x' ∧ x' < 18446744073709551616 := by
      match xs, h0, hlen, HX.out, HXN.out with
      | [z], _, _, hw, hnr =>
        have hz1 := (WL.cons.1 hw).1
        have hz2 : ¬ z = 0 := hnr
        exact ⟨z.toNat, by simp; omega, by omega, by omega⟩
      | _ :: _ :: _, _, h, _, _ => exact absurd (by simp) h
    subst hx'
    have rc := KP4.out.wd.cell (i := 0) (by simp)
    have d1 := c1Q
    have n15 := n10
    simp at rc c1P
    clear c1Q c0P hlen h0 hn
    go_wp2
    go_loop [11, 12, 13, 14, 17] (fun a b u v r => a = .pointer (some ⟨qb, 0, none⟩) ∧ b = .pointer (some ⟨pb, 0, none⟩) ∧ u = .pointer none ∧ v = .pointer none ∧ r = .pointer (some ⟨q0 + 1, 0, none⟩)) (fun _ _ _ _ _ => 0)
    case atStart => exact ⟨rfl, rfl, rfl, rfl, rfl⟩
    case round =>
      obtain ⟨rfl, rfl, rfl, rfl, rfl⟩ := hrel
      have ca1 := KQ4.out.bk.cell 1
      have ca0 := KQ4.out.wd.cell (i := 0) (by simp)
      simp at ca1 ca0
      go_wp2
      go_quiet (fail)
      have HRB : Hid (0 < x' ∧ x' < 18446744073709551616 ∧ y < 18446744073709551616) := Lib.hid (by omega)
      clear ca1 ca0 d1 rc
      go_wp2
      go_loopw [23, 24] (fun av bv wr => ∃ a b : Nat, av = .int .u64 a ∧ bv = .int .u64 b ∧ Hid (Nat.gcd a b = Nat.gcd x' y) ∧ Hid (0 < a ∧ a < 18446744073709551616 ∧ b < 18446744073709551616) ∧ ∃ m, wr = W4.drewN m) (fun _ bv _ => (intOf bv).toNat)
      case atStart => exact ⟨x', y, rfl, rfl, Lib.hid rfl, HRB, _, rfl⟩
      case round =>
        obtain ⟨a, b, rfl, rfl, hg, hbd, m, rfl⟩ := hrel
        by_cases hb0 : b = 0
        · subst hb0
          have KAm := Lib.hid (KQ4.out.below (below_drewN' (Below.refl _ _) m))
          have hwd := KAm.out.wd.set 0 (a : Int)
          simp only [List.cons_append, List.set_cons_zero, List.nil_append] at hwd
          have KAs : Hid (Two ((W4.drewN m).setCell ⟨qg, 0, none⟩ (.int .u64 (a : Int))) w.heap.size qb qg qc [(a : Int)] qz) := Lib.hid ⟨KAm.out.bk.far (p := ⟨qg, 0, none⟩) KAm.out.ne.symm _, hwd, KAm.out.ne, by rw [KAm.out.cp]; simp, KAm.out.lb, KAm.out.lg⟩
          have hbl := (below_drewN' HB4.out m).setCell (p := ⟨qg, 0, none⟩) KAm.out.lg (.int .u64 (a : Int))
          have HSO := Lib.hid (set_out w _ zb qb qg qc a qz w.heap.size HZ.out rfl hbl KAs.out)
          have n16 := (hbl.cell (p := ⟨b1, o1, none⟩) lb1).trans n10
          have HGA : Hid (a = Nat.gcd (nv [(x' : Int)]).toNat y) := Lib.hid (by have h := hg.out; rw [Nat.gcd_zero_right] at h; rw [h]; exact (by simp [nv]))
          have ca1 := KAm.out.bk.cell 1
          have ca0 := KAm.out.wd.cell (i := 0) (by simp)
          have fa0 := Blk.frozen KAm.out.wd 0
          simp at ca1 ca0
          clear hwd hbl n10
          go_wp2_with fail
          refine HSO.out.mono ?_
          rintro e w7 ⟨rfl, ho⟩
          have HO := Lib.hid ho
          clear ho
          go_wp2
          go_ret
          exact ⟨rfl, by rw [← HGA.out]; exact HO.out⟩
        · have e8 : ((b : Int) == 0) = false := beq_no (by omega)
          have HB0 := Lib.hid hb0
          go_wp2
          go_quiet (fail)
          go_wp2
          go_roundw
          case rel => exact ⟨b, a % b, rfl, by simp, Lib.hid (by rw [← hg.out, Nat.gcd_comm b, ← Nat.gcd_rec, Nat.gcd_comm]), Lib.hid ⟨by have := HB0.out; omega, by have := hbd.out; omega, Nat.lt_trans (Nat.mod_lt _ (by have := HB0.out; omega)) hbd.out.2.2⟩, _, by rw [World.drewN_drewN]⟩
          case measure => have := Nat.mod_lt a (show 0 < b by have := HB0.out; omega); simp [intOf]; omega
end Go.Proofs.YtloloifngbmibaaGreatDoor
set_option linter.unusedVariables false
set_option maxRecDepth 4000
namespace Go.Proofs.YtloloifngbmibaaGreatDoor
open Go.RowKit

/-- 'z.Set(x)', z a nil integer anywhere in a block. -/
theorem big_setO (w : World) (S : Nat → Prop) (b o b1 o1 : Nat) (u neg : Bool) (xs : List Int) (h0 : 0 < xs.length) (h1 : xs.length ≤ 4294967296) (t : TypeId) (cs : Array Value) (hb : Blk w b t cs) (c0 : w.cell? ⟨b, o, none⟩ = some (.bool u)) (c1 : w.cell? ⟨b, o + 1, none⟩ = some (.slice none 0 0)) (A : Option Addr) (c : Nat) (t1 : TypeId) (cs1 : Array Value) (hb1 : Blk w b1 t1 cs1) (hne : b ≠ b1)
    (x0 : w.cell? ⟨b1, o1, none⟩ = some (.bool neg)) (x1 : w.cell? ⟨b1, o1 + 1, none⟩ = some (.slice A xs.length c)) (hr : Rd w S A (ints .u64 xs)) :
    Calls Tryz.prog 114 #[.pointer (some ⟨b, o, none⟩), .pointer (some ⟨b1, o1, none⟩)] w fun e w' => e = .returned (.pointer (some ⟨b, o, none⟩)) ∧
      ∃ zs : List Int, Alk w' (((w.setCell ⟨b, o + 1, none⟩ (.slice (some ⟨w.heap.size, 0, none⟩) xs.length (xs.length + zs.length))).setCell ⟨b, o, none⟩ (.bool neg)).alloc (.cells (ints .u64 (xs ++ zs)).toArray 236)) := by
  have hlt := hb.lt
  have hlt1 := hb1.lt
  have f0 := hb.frozen o
  have f1 := hb.frozen (o + 1)
  have hn1 := neq_ptr_far (n := 1) w Tryz.underlying113 (by kernel_rfl) (by intro h; injection h; exact hne ‹_›) hb (a := ⟨b, o, none⟩) (b := ⟨b1, o1, none⟩) hb1
  have hr' : Hid (∀ W : World, W.heap = w.heap → Rd W S A (ints .u64 xs)) := fun W hW => hr.keep (fun k _ => by rw [hW])
  have H0 := Lib.hid h0
  have H1 := Lib.hid h1
  clear hr h0 h1
  go_enter Tryz.func114, Tryz.ntmps114
  go_wp2
  go_region_with (go_at_call 132; refine (set_nil S A c xs H0.out H1.out _ (by exact hr'.out _ rfl)).mono ?_; rintro e w' ⟨v, rfl, zs, rfl, rfl⟩)
  all_goals
    clear hn1
    go_wp2
    go_ret
    exact ⟨rfl, zs, rfl, rfl, rfl, rfl⟩

theorem big_setO0 (w : World) (b o b1 o1 : Nat) (u neg : Bool) (t : TypeId) (cs : Array Value) (hb : Blk w b t cs) (c0 : w.cell? ⟨b, o, none⟩ = some (.bool u)) (c1 : w.cell? ⟨b, o + 1, none⟩ = some (.slice none 0 0)) (A : Option Addr) (c : Nat) (t1 : TypeId) (cs1 : Array Value) (hb1 : Blk w b1 t1 cs1) (hne : b ≠ b1)
    (x0 : w.cell? ⟨b1, o1, none⟩ = some (.bool neg)) (x1 : w.cell? ⟨b1, o1 + 1, none⟩ = some (.slice A 0 c)) :
    Calls Tryz.prog 114 #[.pointer (some ⟨b, o, none⟩), .pointer (some ⟨b1, o1, none⟩)] w fun e w' => e = .returned (.pointer (some ⟨b, o, none⟩)) ∧ Alk w' ((w.setCell ⟨b, o + 1, none⟩ (.slice none 0 0)).setCell ⟨b, o, none⟩ (.bool neg)) := by
  have f0 := hb.frozen o
  have f1 := hb.frozen (o + 1)
  have hn1 := neq_ptr_far (n := 1) w Tryz.underlying113 (by kernel_rfl) (by intro h; injection h; exact hne ‹_›) hb (a := ⟨b, o, none⟩) (b := ⟨b1, o1, none⟩) hb1
  go_enter Tryz.func114, Tryz.ntmps114
  go_wp2
  go_region_with (go_at_call 132; refine (set_nil0 _ _ _).mono ?_; rintro e w' ⟨rfl, rfl⟩)
  all_goals
    clear hn1
    go_wp2
    go_ret
    exact ⟨rfl, rfl, rfl, rfl, rfl⟩

theorem getStack_any (w : World) :
    Calls Tryz.prog 161 #[] w fun e w' => e = .returned (.pointer (some ⟨w.heap.size, 0, none⟩)) ∧ w.alloc (.cells #[.pointer none] 302) = w' := by
  go_enter Tryz.func161, Tryz.ntmps161
  go_wp2
  go_ret
  exact ⟨rfl, rfl⟩
theorem free_any (b : Nat) (w : World) (h : w.cell? ⟨b, 0, none⟩ = some (.pointer none)) :
    Calls Tryz.prog 162 #[.pointer (some ⟨b, 0, none⟩)] w fun e w' => e = .returned (.tuple #[]) ∧ w' = w := by
  go_enter Tryz.func162, Tryz.ntmps162
  go_wp2
  go_end0
  exact ⟨rfl, rfl⟩
theorem natOne_any (w : World) :
    Calls Tryz.prog 179 #[] w fun e w' => e = .returned (.slice (some ⟨w.heap.size, 0, none⟩) 1 1) ∧ w.alloc (.cells #[.int .u64 1] 236) = w' := by
  go_enter Tryz.func179, Tryz.ntmps179
  go_wp2
  go_ret
  exact ⟨rfl, rfl⟩
theorem intOne_any (w : World) :
    Calls Tryz.prog 168 #[] w fun e w' => e = .returned (.pointer (some ⟨w.heap.size + 1, 0, none⟩)) ∧ (w.alloc (.cells #[.int .u64 1] 236)).alloc (.cells #[.bool false, .slice (some ⟨w.heap.size, 0, none⟩) 1 1] 189) = w' := by
  go_enter Tryz.func168, Tryz.ntmps168
  go_wp2_with (go_at_call 179; refine (natOne_any _).mono ?_; rintro e w' ⟨rfl, rfl⟩)
  go_ret
  exact ⟨rfl, rfl⟩
end Go.Proofs.YtloloifngbmibaaGreatDoor
set_option linter.unusedVariables false
set_option maxRecDepth 4000
namespace Go.Proofs.YtloloifngbmibaaGreatDoor
open Go.RowKit

theorem free_def (b : Nat) (u : FrameMode) (w : World) (h : w.cell? ⟨b, 0, none⟩ = some (.pointer none)) :
    CallsD Tryz.prog 162 #[.pointer (some ⟨b, 0, none⟩)] u w fun e u' w' => u' = u ∧ (e = .returned (.tuple #[]) ∧ w' = w) := by
  go_enter_d Tryz.func162, Tryz.ntmps162
  go_wp2
  go_end0
  exact ⟨rfl, rfl⟩

/-- Two big integers compared. -/
def cmpB (n1 : Bool) (xs : List Int) (n2 : Bool) (ys : List Int) : Int :=
  if n1 = n2 then (if n1 then -(ordL xs.reverse ys.reverse) else ordL xs.reverse ys.reverse) else if n1 then -1 else 1
theorem cmpL_mem : ∀ (a b : List Int), cmpL a b = -1 ∨ cmpL a b = 0 ∨ cmpL a b = 1
  | [], _ => by simp [cmpL]
  | _ :: _, [] => by simp [cmpL]
  | x :: xs, y :: ys => by
    have := cmpL_mem xs ys
    simp only [cmpL]
    split
    · exact this
    · split <;> simp
theorem ordL_mem (a b : List Int) : ordL a b = -1 ∨ ordL a b = 0 ∨ ordL a b = 1 := by
  have := cmpL_mem a b
  unfold ordL
  split
  · exact this
  · split <;> simp
theorem cmpL_zero : ∀ {a b : List Int}, a.length = b.length → cmpL a b = 0 → a = b
  | [], [], _, _ => rfl
  | x :: xs, y :: ys, hl, h => by
    simp only [cmpL] at h
    split at h
    · rename_i e
      rw [e, cmpL_zero (by simpa using hl) h]
    · split at h <;> simp at h
theorem ordL_zero {a b : List Int} (h : ordL a b = 0) : a = b := by
  unfold ordL at h
  split at h
  · exact cmpL_zero ‹_› h
  · split at h <;> simp at h
theorem cmpB_zero {n1 n2 : Bool} {xs ys : List Int} (h : cmpB n1 xs n2 ys = 0) : n1 = n2 ∧ xs = ys := by
  unfold cmpB at h
  split at h
  · rename_i e
    refine ⟨e, ?_⟩
    have h2 : ordL xs.reverse ys.reverse = 0 := by
      split at h <;> omega
    have := congrArg List.reverse (ordL_zero h2)
    simpa using this
  · split at h <;> simp at h

theorem eql_ptr_far {P : Program} (w : World) {n : Nat} {tp te : TypeId} {a b : Addr} {ca cb : Array Value} {ta tb : TypeId} (hp : P.underlying tp = some (.pointer te)) (hte : (P.info? te).map (·.size) = some (n + 1))
    (hne : a ≠ b) (ha : Blk w a.block ta ca) (hb : Blk w b.block tb cb) :
    (binOp .eql tp (.pointer (some a)) (.pointer (some b))).run P w = .ok (.bool false) w := by
  obtain ⟨i, hi, hz⟩ := Option.map_eq_some_iff.1 hte
  exact run_eql_ptr_other w hp hi (by omega) hne ha hb

set_option maxHeartbeats 1000000 in
theorem intCmp_any (S S' : Nat → Prop) (b1 o1 b2 o2 : Nat) (n1 n2 : Bool) (xs ys : List Int) (hn : xs.length ≤ 4294967296) (hn' : ys.length ≤ 4294967296) (w : World) (t1 : TypeId) (cs1 : Array Value) (hb1 : Blk w b1 t1 cs1) (t2 : TypeId) (cs2 : Array Value) (hb2 : Blk w b2 t2 cs2) (hne : b1 ≠ b2)
    (hx : BigV w S b1 o1 n1 xs) (hy : BigV w S' b2 o2 n2 ys) :
    Calls Tryz.prog 127 #[.pointer (some ⟨b1, o1, none⟩), .pointer (some ⟨b2, o2, none⟩)] w fun e w' => e = .returned (.int .i64 (cmpB n1 xs n2 ys)) ∧ ∃ n, w.drewN n = w' := by
  obtain ⟨v1, _, c10, c11, A1, k1, rfl, _, hr1⟩ := hx
  obtain ⟨v2, _, c20, c21, A2, k2, rfl, _, hr2⟩ := hy
  have heq := eql_ptr_far (n := 1) w Tryz.underlying113 (by kernel_rfl) (by intro h; injection h; exact hne ‹_›) (a := ⟨b1, o1, none⟩) (b := ⟨b2, o2, none⟩) hb1 hb2
  have HC : Hid (∀ m n, Calls Tryz.prog 141 #[.slice A1 xs.length k1, .slice A2 ys.length k2] ((w.drewN m).drewN n) fun e w' => e = .returned (.int .i64 (ordL xs.reverse ys.reverse)) ∧ ∃ q, w' = (w.drewN m).drewN q) := Lib.hid fun m n => by
    refine (cmpN_any S S' A1 A2 k1 k2 xs ys hn hn' ((w.drewN m).drewN n) hr1 hr2).mono ?_
    rintro e w' ⟨rfl, q, rfl⟩
    exact ⟨rfl, n + q, by rw [World.drewN_drewN]⟩
  have HC2 : Hid (∀ m n, Calls Tryz.prog 141 #[.slice A1 xs.length k1, .slice A2 ys.length k2] (w.drewN (m + n)) fun e w' => e = .returned (.int .i64 (ordL xs.reverse ys.reverse)) ∧ ∃ q, w' = (w.drewN m).drewN q) := Lib.hid fun m n => by
    have h := HC.out m n
    rwa [World.drewN_drewN] at h
  have hmem := ordL_mem xs.reverse ys.reverse
  obtain ⟨C, hC⟩ : ∃ C, C = ordL xs.reverse ys.reverse := ⟨_, rfl⟩
  have HB : Hid (cmpB n1 xs n2 ys = if n1 = n2 then (if n1 then -C else C) else if n1 then -1 else 1) := Lib.hid (by rw [hC]; rfl)
  rw [← hC] at HC HC2 hmem
  have ew : IntKind.i64.wrap (-C) = -C := by
    simp only [IntKind.wrap_i64]
    omega
  clear hC hmem hr1 hr2 hb1 hb2
  cases n1
  all_goals cases n2
  all_goals
    have HB2 := HB.out
    simp at HB2
    rw [HB2]
    clear HB HB2
    go_enter Tryz.func127, Tryz.ntmps127
    go_wp2
    go_quiet (fail)
    go_wp2
  · generalize hw1 : w.drewN _ = w1
    have d11 : w1.cell? ⟨b1, o1 + 1, none⟩ = some (.slice A1 xs.length k1) := by rw [← hw1]; exact c11
    have d21 : w1.cell? ⟨b2, o2 + 1, none⟩ = some (.slice A2 ys.length k2) := by rw [← hw1]; exact c21
    have d10 : w1.cell? ⟨b1, o1, none⟩ = some (.bool false) := by rw [← hw1]; exact c10
    have HC1 : Hid (∀ n, Calls Tryz.prog 141 #[.slice A1 xs.length k1, .slice A2 ys.length k2] (w1.drewN n) fun e w' => e = .returned (.int .i64 C) ∧ ∃ q, w' = w1.drewN q) := Lib.hid fun n => by rw [← hw1]; exact HC.out _ n
    have HW1 : Hid (∃ m, w1 = w.drewN m) := Lib.hid ⟨_, hw1.symm⟩
    clear hw1 c11 c21 c10 c20 HC HC2 heq
    go_quiet (exact HC1.out _)
    go_wp2
    go_ret
    obtain ⟨m, hm⟩ := HW1.out
    exact ⟨rfl, m + _, by rw [hm, World.drewN_drewN]⟩
  · go_ret
    exact ⟨rfl, _, rfl⟩
  · go_ret
    exact ⟨rfl, _, rfl⟩
  · generalize hw1 : w.drewN _ = w1
    have d11 : w1.cell? ⟨b1, o1 + 1, none⟩ = some (.slice A1 xs.length k1) := by rw [← hw1]; exact c11
    have d21 : w1.cell? ⟨b2, o2 + 1, none⟩ = some (.slice A2 ys.length k2) := by rw [← hw1]; exact c21
    have d10 : w1.cell? ⟨b1, o1, none⟩ = some (.bool true) := by rw [← hw1]; exact c10
    have HC1 : Hid (∀ n, Calls Tryz.prog 141 #[.slice A1 xs.length k1, .slice A2 ys.length k2] (w1.drewN n) fun e w' => e = .returned (.int .i64 C) ∧ ∃ q, w' = w1.drewN q) := Lib.hid fun n => by rw [← hw1]; exact HC.out _ n
    have HW1 : Hid (∃ m, w1 = w.drewN m) := Lib.hid ⟨_, hw1.symm⟩
    clear hw1 c11 c21 c10 c20 HC HC2 heq
    go_quiet (exact HC1.out _)
    go_wp2
    go_ret
    obtain ⟨m, hm⟩ := HW1.out
    exact ⟨rfl, m + _, by rw [hm, World.drewN_drewN]⟩

/-- 'z.scaleDenom(stk, x, f)', z a new integer, f not nothing: x's magnitude times f. -/
def ScaleOut (zb : Nat) (neg : Bool) (p : Int) (w w' : World) : Prop :=
  ∃ v ps, Blk w' zb 189 #[.bool neg, v] ∧ SlV w' (fun k => Nw w w' k ∧ k ≠ zb) .u64 v ps ∧ WL ps ∧ Nrm ps ∧ nv ps = p ∧ But (fun k => k = zb) w w'

set_option maxHeartbeats 1000000 in
theorem scaleDenom_any (S S' : Nat → Prop) (zb b1 o1 : Nat) (stk : Value) (hstk : stk.oneCell' = true) (A' : Option Addr) (c' : Nat) (n1 : Bool) (xs ys : List Int) (hn : xs.length ≤ 1000000) (hn' : ys.length ≤ 1000000) (hk : xs.length < 40 ∨ ys.length < 40) (h0 : 0 < ys.length) (hX : WL xs) (hY : WL ys) (w : World)
    (hz : Blk w zb 189 #[.bool false, .slice none 0 0]) (hx : BigV w S b1 o1 n1 xs) (hr' : Rd w S' A' (ints .u64 ys)) (hS : ∀ k, S k → k < w.heap.size ∧ k ≠ zb) (hS' : ∀ k, S' k → k < w.heap.size) (hG : w.cell? ⟨2, 0, none⟩ = some (.int .i64 40)) :
    Calls Tryz.prog 163 #[.pointer (some ⟨zb, 0, none⟩), stk, .pointer (some ⟨b1, o1, none⟩), .slice A' ys.length c'] w fun e w' => e = .returned (.tuple #[]) ∧ ScaleOut zb n1 (nv xs * nv ys) w w' := by
  obtain ⟨v1, hs1, c10, c11, A1, k1, rfl, _, hr1⟩ := hx
  have HM : Hid (Calls Tryz.prog 167 #[.slice none 0 0, stk, .slice A1 xs.length k1, .slice A' ys.length c'] w.drew fun e w' => ∃ v ps, e = .returned v ∧ Hid (NewN w v ps w') ∧ Hid (nv ps = nv xs * nv ys)) := Lib.hid (by
    refine (mul_any S S' A1 A' k1 c' stk hstk xs ys hn hn' hk hX hY w.drew hr1 hr' (fun k hk => (hS k hk).1) hS' hG).mono ?_
    rintro e w' ⟨v, ps, h1, h2, h3⟩
    exact ⟨v, ps, h1, Lib.hid ⟨h2.1, ⟨h2.2.1.os, h2.2.1.tape, h2.2.1.output, h2.2.1.size, h2.2.1.block⟩, h2.2.2⟩, Lib.hid h3⟩)
  have q1 : b1 ≠ zb := (hS _ hs1).2
  have l1 := (hS _ hs1).1
  have z0 := hz.cell 0
  have z1 := hz.cell 1
  have fz0 := hz.frozen 0
  have fz1 := hz.frozen 1
  have HZ := Lib.hid hz
  have lz := hz.lt
  simp at z0 z1
  have e0 : ((ys.length : Int) == 0) = false := beq_no (by omega)
  obtain ⟨P, hP⟩ : ∃ P, P = nv xs * nv ys := ⟨_, rfl⟩
  rw [← hP] at HM ⊢
  clear hP hr1 hr' hS hS' hX hY hG hz h0 hk
  go_enter Tryz.func163, Tryz.ntmps163
  go_wp2
  rw [show Op.load 187 (.tmp 17) = ldAs 187 (.tmp 17) from rfl]
  go_region_held3 (fun W => W.cell? ⟨b1, o1 + 1, none⟩ = some (.slice A1 xs.length k1)) (first | exact c11 | exact cell_st q1 c11 _)
    ((go_at_call 167; (with_reducible refine HM.out.mono ?_); rintro e w' ⟨v, ps, rfl, hN, hp⟩; have hb := hN.out.2.1; have fz1 := frz_up hb z1 fz1; have fz0 := frz_up hb z0 fz0; have z0 := cell_up hb z0; have z1 := cell_up hb z1; have c11 := cell_up hb c11; have c10 := cell_up hb c10; have lw := hb.size; obtain ⟨Av, cv, rfl, hh⟩ := id hN.out.1; clear hh hb))
  all_goals
    go_wp2
    go_end0
    have hzn : ∀ k, Nw w w' k → k ≠ zb := fun k hk => by have h1 := hk.1; omega
    have hst := ((Still.refl (Nw w w') w').set (p := ⟨zb, 1, none⟩) hzn (.slice Av ps.length cv)).set (p := ⟨zb, 0, none⟩) hzn (.bool n1)
    exact ⟨rfl, .slice Av ps.length cv, ps, ((HZ.out.below hN.out.2.1 lz).set 1 _).set 0 _, (hN.out.1.keep hst).mono (fun k hk => ⟨⟨hk.1, by simpa [World.setCell] using hk.2⟩, hzn k hk⟩), hN.out.2.2.1, hN.out.2.2.2, hp.out,
      ((But.of_below (T := fun k => k = zb) hN.out.2.1).set (p := ⟨zb, 1, none⟩) rfl _).set (p := ⟨zb, 0, none⟩) rfl _⟩
end Go.Proofs.YtloloifngbmibaaGreatDoor
