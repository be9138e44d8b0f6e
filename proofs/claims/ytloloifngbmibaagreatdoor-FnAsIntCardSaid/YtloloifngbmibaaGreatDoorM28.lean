/- impl.whole. The package's ints: bigInt, Cmp. -/
import Derived.Test.YtloloifngbmibaaGreatDoorM20
import Derived.Test.YtloloifngbmibaaGreatDoorM24
import Derived.Test.YtloloifngbmibaaGreatDoorM27
set_option linter.unusedVariables false
set_option linter.unusedSimpArgs false
set_option maxRecDepth 4000
namespace Go.Proofs.YtloloifngbmibaaGreatDoor
open Go.RowKit

theorem len30 {ws l : List Int} (hw : WL ws) (hn : Nrm ws) (hl : ByL l) (h40 : l.length ≤ 40) (h : nv ws = bv l) : ws.length ≤ 30 := by
  refine Nat.le_trans (len_le hw hn (n := 5) ?_) (by decide)
  have h1 := (bv_bd hl).2
  have h2 := pw256 h40
  rw [h, show (18446744073709551616 : Int) ^ 5 = 256 ^ 40 by decide]
  omega

theorem SI.shape {B : Nat} {v : Value} {x : Int} {W : World} (h : SI B v x W) : ∃ (s : Int) (a : Option Addr), v = .agg #[.int .i64 s, .pointer a] := by
  rcases h with ⟨rfl, _⟩ | ⟨b, _, _, _, rfl, _⟩
  · exact ⟨_, _, rfl⟩
  · exact ⟨_, _, rfl⟩
theorem wv_dec {ws : List Int} : wv (decide (ws ≠ [])) ws = wv true ws := by
  by_cases h : ws = []
  · subst h
    rfl
  · rw [decide_eq_true h]

theorem whI_any {d : Nat} {t : Tr} {x : Vc} {w : World} (h : HV d t x w) (g : GoodH t) : Calls Tryz.prog 84 #[x.agg] w fun e w' => ∃ v, e = .returned v ∧ SI w.heap.size v (iv t.neg t.mag) w' ∧ Below w.heap.size w w' := by
  obtain ⟨S, h1, h2⟩ := h
  obtain ⟨A', nq, cq, hq, _⟩ := h1.kidsV
  obtain ⟨e1, e2, e3, e4, hm⟩ := h1.head
  obtain ⟨k, n, m, b, s, q⟩ := x
  simp only at e1 e2 e3 e4 hm hq
  subst e1 e2 e3 e4 hq
  have HA := Lib.hid (And.intro g.by_ g.ml)
  have HM := Lib.hid (And.intro hm h2)
  obtain ⟨A, cm, em, hcm, hr⟩ := hm
  subst em
  clear h1 h2 hr g hcm
  have hb0 : Below w.heap.size w (((w.alloc (.cells (VcB ⟨t.k, t.neg, .slice A t.mag.length cm, t.bits, t.text, .slice A' nq cq⟩) 26)).alloc (.cells #[.int .i64 0, .pointer none] 117)).alloc (.cells #[.bool false, .slice none 0 0] 189)) :=
    below_al (below_al (below_al (Below.refl _ _) _) _) _
  have HB0 := Lib.hid hb0
  have HSB := Lib.hid (setBytesI S (w.heap.size + 2) (.slice A t.mag.length cm) t.mag (by have := HA.out.2; omega) HA.out.1 _ (by
    have := Blk.new ((w.alloc (.cells (VcB ⟨t.k, t.neg, .slice A t.mag.length cm, t.bits, t.text, .slice A' nq cq⟩) 26)).alloc (.cells #[.int .i64 0, .pointer none] 117)) 189 #[.bool false, .slice none 0 0]
    simpa using this) (HM.out.1.keep (still_below hb0 HM.out.2)) (fun k hk => Nat.lt_of_lt_of_le (HM.out.2 k hk) hb0.size))
  have HBX : Hid (Blk (((w.alloc (.cells (VcB ⟨t.k, t.neg, .slice A t.mag.length cm, t.bits, t.text, .slice A' nq cq⟩) 26)).alloc (.cells #[.int .i64 0, .pointer none] 117)).alloc (.cells #[.bool false, .slice none 0 0] 189)) w.heap.size 26 (VcB ⟨t.k, t.neg, .slice A t.mag.length cm, t.bits, t.text, .slice A' nq cq⟩)) := Lib.hid (((Blk.new w 26 (VcB ⟨t.k, t.neg, .slice A t.mag.length cm, t.bits, t.text, .slice A' nq cq⟩)).alloc _).alloc _)
  have HRS : Hid (Blk (((w.alloc (.cells (VcB ⟨t.k, t.neg, .slice A t.mag.length cm, t.bits, t.text, .slice A' nq cq⟩) 26)).alloc (.cells #[.int .i64 0, .pointer none] 117)).alloc (.cells #[.bool false, .slice none 0 0] 189)) (w.heap.size + 1) 117 #[.int .i64 0, .pointer none]) := Lib.hid (by
    have := (Blk.new (w.alloc (.cells (VcB ⟨t.k, t.neg, .slice A t.mag.length cm, t.bits, t.text, .slice A' nq cq⟩) 26)) 117 #[.int .i64 0, .pointer none]).alloc (.cells #[.bool false, .slice none 0 0] 189)
    simpa using this)
  clear hb0
  go_enter Tryz.func84, Tryz.ntmps84
  go_wp2_with fail
  refine HSB.out.mono ?_
  rintro e w1 ⟨rfl, u, ws, hg, hu, hwl, hnr, hnv, hbut⟩
  have hbx : Blk w1 w.heap.size 26 _ := HBX.out.keep (hbut.block _ HBX.out.lt (by omega))
  have hrs : Blk w1 (w.heap.size + 1) 117 _ := HRS.out.keep (hbut.block _ HRS.out.lt (by omega))
  have hlow : Below w.heap.size w w1 := HB0.out.trans (hbut.below (B := w.heap.size) (by simp; omega) (fun k hk => by omega))
  have hu' : SlV w1 (fun k => w.heap.size + 3 ≤ k ∧ k < w1.heap.size) .u64 u ws := hu.mono (fun k hk => ⟨by have := hk.1; simp at this; omega, hk.2⟩)
  have HBU := Lib.hid hu'
  have HG := Lib.hid hg
  have HBX2 := Lib.hid hbx
  have HRS2 := Lib.hid hrs
  have HLO := Lib.hid hlow
  have HW := Lib.hid (And.intro hwl (And.intro hnr (And.intro hnv (len30 hwl hnr HA.out.1 HA.out.2 hnv))))
  have j1 := hbx.cell 1
  have r0 := hrs.cell 0
  have r1 := hrs.cell 1
  have z0 := hrs.frozen 0
  have z1 := hrs.frozen 1
  simp at j1 r0 r1
  obtain ⟨ng, hng⟩ : ∃ ng, ng = t.neg := ⟨_, rfl⟩
  rw [← hng] at j1
  have HNG := Lib.hid hng
  clear hbx hrs hlow hu' hg hu hwl hnr hnv hbut HSB HB0 HBX HRS HM hng
  cases ng
  · have HMB := Lib.hid (makeBigInt_any _ (w.heap.size + 2) false u ws HW.out.2.2.2 HW.out.1 HW.out.2.1 w1 HG.out HBU.out (fun k hk => hk.2))
    go_wp2_with fail
    refine HMB.out.mono ?_
    rintro e w2 ⟨v, rfl, hsi, hb2⟩
    obtain ⟨sv, av, rfl⟩ := hsi.shape
    have HSI := Lib.hid hsi
    have HL2 := Lib.hid (below_up HLO.out hb2)
    have hrow := HRS2.out.below hb2 HRS2.out.lt
    have hge := HRS2.out.lt
    have r0 := hrow.cell 0
    have r1 := hrow.cell 1
    have z0 := hrow.frozen 0
    have z1 := hrow.frozen 1
    have hlt := hrow.lt
    simp at r0 r1
    have HGE := Lib.hid hge
    clear hrow hsi hb2 HMB HRS2 HBX2 HLO hge
    go_wp2
    refine bodyPost_ret (v := .agg #[.int .i64 sv, .pointer av]) (by simp [results, Tryz.results84, go_sem, r0, r1, hlt]) rfl ⟨_, rfl, ?_, ?_⟩
    · rw [wv_nv (neg := false) HW.out.2.2.1, HNG.out] at HSI
      exact ((HSI.out.set (p := ⟨w.heap.size + 1, 0, none⟩) HGE.out _).set (p := ⟨w.heap.size + 1, 1, none⟩) HGE.out _).low (Nat.le_trans (Nat.le_succ _) (Nat.le_of_lt HGE.out))
    · exact (HL2.out.setCell (p := ⟨w.heap.size + 1, 0, none⟩) (Nat.le_succ _) _).setCell (p := ⟨w.heap.size + 1, 1, none⟩) (Nat.le_succ _) _
  · have HNS := Lib.hid (negSelf_any _ (w.heap.size + 2) u ws w1 HG.out HBU.out)
    go_wp2_with fail
    refine HNS.out.mono ?_
    rintro e w1' ⟨rfl, hw1'⟩
    have hg2 : Blk w1' (w.heap.size + 2) 189 #[.bool (decide (ws ≠ [])), u] := by
      rw [hw1']
      simpa using HG.out.set 0 (.bool (decide (ws ≠ [])))
    have hu2 : SlV w1' (fun k => w.heap.size + 3 ≤ k ∧ k < w1'.heap.size) .u64 u ws := by
      rw [hw1']
      exact (HBU.out.keep ((Still.refl _ w1).set (p := ⟨w.heap.size + 2, 0, none⟩) (fun k hk => by have := hk.1; intro e; have e : k = w.heap.size + 2 := e; omega) _)).mono (fun k hk => ⟨hk.1, by simpa using hk.2⟩)
    have hlo2 : Below w.heap.size w w1' := by
      rw [hw1']
      exact HLO.out.setCell (p := ⟨w.heap.size + 2, 0, none⟩) (Nat.le_add_right _ _) _
    have hrs2 : Blk w1' (w.heap.size + 1) 117 #[.int .i64 0, .pointer none] := by
      rw [hw1']
      exact HRS2.out.far (p := ⟨w.heap.size + 2, 0, none⟩) (by simp) _
    have HMB := Lib.hid (makeBigInt_any _ (w.heap.size + 2) (decide (ws ≠ [])) u ws HW.out.2.2.2 HW.out.1 HW.out.2.1 w1' hg2 hu2 (fun k hk => hk.2))
    clear HLO HRS2 HBX2 HG HBU HNS hw1' hg2 hu2 j1 r0 r1 z0 z1
    have HLO := Lib.hid hlo2
    have HRS2 := Lib.hid hrs2
    have HBX2 := Lib.hid hlo2
    clear hlo2 hrs2
    go_wp2_with fail
    refine HMB.out.mono ?_
    rintro e w2 ⟨v, rfl, hsi, hb2⟩
    obtain ⟨sv, av, rfl⟩ := hsi.shape
    have HSI := Lib.hid hsi
    have HL2 := Lib.hid (below_up HLO.out hb2)
    have hrow := HRS2.out.below hb2 HRS2.out.lt
    have hge := HRS2.out.lt
    have r0 := hrow.cell 0
    have r1 := hrow.cell 1
    have z0 := hrow.frozen 0
    have z1 := hrow.frozen 1
    have hlt := hrow.lt
    simp at r0 r1
    have HGE := Lib.hid hge
    clear hrow hsi hb2 HMB HRS2 HBX2 HLO hge
    go_wp2
    refine bodyPost_ret (v := .agg #[.int .i64 sv, .pointer av]) (by simp [results, Tryz.results84, go_sem, r0, r1, hlt]) rfl ⟨_, rfl, ?_, ?_⟩
    · rw [wv_dec, wv_nv (neg := true) HW.out.2.2.1, HNG.out] at HSI
      exact ((HSI.out.set (p := ⟨w.heap.size + 1, 0, none⟩) HGE.out _).set (p := ⟨w.heap.size + 1, 1, none⟩) HGE.out _).low (Nat.le_trans (Nat.le_succ _) (Nat.le_of_lt HGE.out))
    · exact (HL2.out.setCell (p := ⟨w.heap.size + 1, 0, none⟩) (Nat.le_succ _) _).setCell (p := ⟨w.heap.size + 1, 1, none⟩) (Nat.le_succ _) _
end Go.Proofs.YtloloifngbmibaaGreatDoor
set_option linter.unusedVariables false
set_option linter.unusedSimpArgs false
set_option maxRecDepth 4000
namespace Go.Proofs.YtloloifngbmibaaGreatDoor
open Go.RowKit

theorem absW_wl {x : Int} (h0 : -9223372036854775808 ≤ x) (h1 : x ≤ 9223372036854775807) : WL (absW x) := by
  unfold absW
  split
  · exact WL.nil
  · exact WL.one (by omega) (by omega)
theorem absW_nrm (x : Int) : Nrm (absW x) := by
  unfold absW
  split
  · trivial
  · simp only [Nrm]
    omega
theorem absW_wv (x : Int) : wv (decide (x < 0)) (absW x) = x := by
  unfold wv absW
  by_cases h : x = 0
  · subst h
    rfl
  · rw [if_neg h]
    simp only [nv]
    by_cases h2 : x < 0
    · rw [decide_eq_true h2]
      simp
      omega
    · rw [decide_eq_false h2]
      simp
      omega

/-- A big integer there, worth x. -/
def BI (b : Nat) (x : Int) (W : World) : Prop := ∃ (neg : Bool) (ws : List Int) (u : Value), Blk W b 189 #[.bool neg, u] ∧ SlV W (fun k => k < W.heap.size) .u64 u ws ∧ WL ws ∧ Nrm ws ∧ ws.length ≤ 30 ∧ wv neg ws = x ∧ (neg = true → ws ≠ [])
theorem BI.up {b : Nat} {x : Int} {W W' : World} (h : BI b x W) (hb : Below W.heap.size W W') : BI b x W' := by
  obtain ⟨neg, ws, u, h2, h3, h4⟩ := h
  exact ⟨neg, ws, u, h2.below hb h2.lt, (h3.keep (still_below hb (fun k hk => hk))).mono (fun k hk => Nat.lt_of_lt_of_le hk hb.size), h4⟩
theorem BI.bigv {b : Nat} {x : Int} {W : World} (h : BI b x W) : ∃ (neg : Bool) (ws : List Int) (u : Value), Blk W b 189 #[.bool neg, u] ∧ BigV W (fun k => k < W.heap.size) b 0 neg ws ∧ WL ws ∧ Nrm ws ∧ ws.length ≤ 30 ∧ wv neg ws = x ∧ (neg = true → ws ≠ []) := by
  obtain ⟨neg, ws, u, h2, h3, h4⟩ := h
  exact ⟨neg, ws, u, h2, BigV.of_blk h2 h2.lt h3, h4⟩
theorem NewBig.bi {w W : World} {b : Nat} {neg : Bool} {ws : List Int} (h : NewBig w b neg ws W) (hw : WL ws) (hn : Nrm ws) (h1 : ws.length ≤ 30) (h2 : neg = true → ws ≠ []) : BI b (wv neg ws) W := by
  obtain ⟨v, hS, c0, c1, hv⟩ := h.big
  obtain ⟨hb, hle, u, hB, hu⟩ := h
  have e1 := hB.cell 1
  simp at e1
  rw [Nat.zero_add, e1] at c1
  injection c1 with c1
  subst c1
  exact ⟨neg, ws, _, hB, hv.mono (fun k hk => hk.2), hw, hn, h1, rfl, h2⟩
theorem nv_pos {ws : List Int} (hw : WL ws) (hn : Nrm ws) (h0 : ws ≠ []) : 0 < nv ws := by
  obtain ⟨m, hm⟩ : ∃ m, ws.length = m + 1 := ⟨ws.length - 1, by have := List.length_pos_iff.2 h0; omega⟩
  have := nv_ge hw hn m hm
  have := pw_pos m
  omega
theorem absW_neg {x : Int} (h : decide (x < 0) = true) : absW x ≠ [] := by
  have := of_decide_eq_true h
  unfold absW
  rw [if_neg (by omega)]
  simp
theorem newInt_bi (x : Int) (h0 : -9223372036854775808 ≤ x) (h1 : x ≤ 9223372036854775807) (w : World) :
    Calls Tryz.prog 96 #[.int .i64 x] w fun e w' => ∃ b, e = .returned (.pointer (some ⟨b, 0, none⟩)) ∧ BI b x w' ∧ Below w.heap.size w w' := by
  refine (newInt_any x h0 h1 w).mono ?_
  rintro e w' ⟨b, rfl, hb⟩
  have := hb.bi (absW_wl h0 h1) (absW_nrm x) (Nat.le_trans (absW_len x) (by decide)) absW_neg
  rw [absW_wv] at this
  exact ⟨b, rfl, this, hb.1⟩

theorem bigIntS_any {B : Nat} {v : Value} {x : Int} {w : World} (h : SI B v x w) :
    Calls Tryz.prog 306 #[v] w fun e w' => ∃ b, e = .returned (.pointer (some ⟨b, 0, none⟩)) ∧ BI b x w' ∧ Below w.heap.size w w' := by
  have HG := Lib.hid (fun s p (h1 : Value.oneCell' s = true) (h2 : Value.oneCell' p = true) W => get_any s p h1 h2 W)
  rcases h with ⟨rfl, h0, h1⟩ | ⟨b, neg, ws, u, rfl, h2, h3, h4, h5, h6, h7, h8, h9⟩
  · have HN := Lib.hid (fun W => newInt_bi x (by omega) (by omega) W)
    clear h0 h1
    go_enter Tryz.func306, Tryz.ntmps306
    go_wp2_with fail
    refine (HG.out _ _ rfl rfl _).mono ?_
    rintro e w1 ⟨rfl, m, rfl⟩
    go_wp2_with fail
    refine (HN.out _).mono ?_
    rintro e w2 ⟨b, rfl, hB, hb⟩
    go_wp2
    go_ret
    exact ⟨b, rfl, hB, below_up (below_drewN' (below_al (below_al (Below.refl _ _) _) _) _) hb⟩
  · have hne : ∀ W : World, (binOp .neq 113 (.pointer (some ⟨b, 0, none⟩)) (.pointer none)).run Tryz.prog W = .ok (.bool true) W := fun _ => by kernel_rfl
    have HB : Hid (BI b x w) := Lib.hid ⟨neg, ws, u, h2, h3.mono (fun k hk => hk.2), h5, h6, h8, h9, fun _ h => by subst h; simp at h7⟩
    clear h2 h3 h4 h5 h6 h7 h8 h9
    go_enter Tryz.func306, Tryz.ntmps306
    go_wp2_with fail
    refine (HG.out _ _ rfl rfl _).mono ?_
    rintro e w1 ⟨rfl, m, rfl⟩
    go_wp2
    go_ret
    have hl : Below w.heap.size w (((w.alloc (.cells #[.int .i64 0, .pointer (some ⟨b, 0, none⟩)] 117)).alloc (.cells #[.int .i64 0, .pointer (some ⟨b, 0, none⟩)] 117)).drewN m) := below_drewN' (below_al (below_al (Below.refl _ _) _) _) _
    exact ⟨b, rfl, HB.out.up hl, hl⟩

theorem intCmpSame (b o : Nat) (w : World) :
    Calls Tryz.prog 127 #[.pointer (some ⟨b, o, none⟩), .pointer (some ⟨b, o, none⟩)] w fun e w' => e = .returned (.int .i64 0) ∧ Below w.heap.size w w' := by
  obtain ⟨j, hj⟩ := info_big
  have heq : ∀ W : World, (binOp .eql 113 (.pointer (some ⟨b, o, none⟩)) (.pointer (some ⟨b, o, none⟩))).run Tryz.prog W = .ok (.bool true) W := fun W => run_eql_ptr_same W _ Tryz.underlying113 hj
  go_enter Tryz.func127, Tryz.ntmps127
  go_wp2
  go_ret
  exact ⟨rfl, Below.refl _ _⟩

theorem slV_inj {w : World} {S S' : Nat → Prop} {k : IntKind} {v : Value} {xs ys : List Int} (h : SlV w S k v xs) (h' : SlV w S' k v ys) : xs = ys := by
  obtain ⟨A, c, rfl, hc, hr⟩ := h
  obtain ⟨A', c', e, hc', hr'⟩ := h'
  injection e with e1 e2 e3
  subst e1
  refine List.ext_getElem? fun j => ?_
  by_cases hj : j < xs.length
  · obtain ⟨b, o, ea, _, q⟩ := rd_int hr hj
    obtain ⟨b', o', ea', _, q'⟩ := rd_int hr' (j := j) (by omega)
    rw [ea] at ea'
    injection ea' with ea'
    injection ea' with eb eo
    subst eb eo
    rw [q] at q'
    injection q' with q'
    injection q' with _ q'
    rw [List.getElem?_eq_getElem hj, List.getElem?_eq_getElem (show j < ys.length by omega)] at q' ⊢
    simpa using q'
  · rw [List.getElem?_eq_none (by omega), List.getElem?_eq_none (by omega)]

theorem cmpL_nv : ∀ {a b : List Int}, a.length = b.length → WL a → WL b → cmpL a b = sgnc (nv a.reverse) (nv b.reverse)
  | [], [], _, _, _ => rfl
  | x :: xs, y :: ys, hl, ha, hb => by
    have hl' : xs.length = ys.length := by simpa using hl
    have wx : WL xs.reverse := fun z hz => (WL.cons.1 ha).2 z (List.mem_reverse.1 hz)
    have wy : WL ys.reverse := fun z hz => (WL.cons.1 hb).2 z (List.mem_reverse.1 hz)
    have h1 := nv_lt wx
    have h2 := nv_lt wy
    have h3 := nv_nonneg wx
    have h4 := nv_nonneg wy
    have ih := cmpL_nv hl' (WL.cons.1 ha).2 (WL.cons.1 hb).2
    have hp := pw_pos ys.length
    rw [List.reverse_cons, List.reverse_cons, nv_snoc, nv_snoc]
    rw [List.length_reverse] at h1 h2 ⊢
    rw [List.length_reverse]
    rw [hl'] at h1 ⊢
    simp only [cmpL]
    by_cases hxy : x = y
    · subst hxy
      rw [if_pos rfl, ih]
      exact sgnc_congr ⟨by omega, by omega⟩
    · rw [if_neg hxy]
      by_cases h5 : x < y
      · have := Int.mul_le_mul_of_nonneg_left (show x + 1 ≤ y by omega) (Int.le_of_lt hp)
        rw [Int.mul_add] at this
        rw [if_pos h5, sgnc_lt (by omega)]
      · have := Int.mul_le_mul_of_nonneg_left (show y + 1 ≤ x by omega) (Int.le_of_lt hp)
        rw [Int.mul_add] at this
        rw [if_neg h5, sgnc_gt (by omega)]
  | [], _ :: _, hl, _, _ => by simp at hl
  | _ :: _, [], hl, _, _ => by simp at hl
theorem shortN {xs ys : List Int} (hx : WL xs) (hy : WL ys) (hn : Nrm ys) (h : xs.length < ys.length) : nv xs < nv ys := by
  have h1 := nv_lt hx
  have h2 := nv_ge hy hn (ys.length - 1) (by omega)
  have h3 := pw_le (show xs.length ≤ ys.length - 1 by omega)
  omega
theorem ordL_nv {xs ys : List Int} (hx : WL xs) (hy : WL ys) (nx : Nrm xs) (ny : Nrm ys) : ordL xs.reverse ys.reverse = sgnc (nv xs) (nv ys) := by
  unfold ordL
  rw [List.length_reverse, List.length_reverse]
  by_cases h : xs.length = ys.length
  · rw [if_pos h, cmpL_nv (by simpa using h) (fun z hz => hx z (List.mem_reverse.1 hz)) (fun z hz => hy z (List.mem_reverse.1 hz)), List.reverse_reverse, List.reverse_reverse]
  · rw [if_neg h]
    by_cases h1 : xs.length < ys.length
    · rw [if_pos h1, sgnc_lt (shortN hx hy ny h1)]
    · rw [if_neg h1, sgnc_gt (shortN hy hx nx (by omega))]
theorem wv_sign {neg : Bool} {ws : List Int} (hw : WL ws) (hn : Nrm ws) (h : neg = true → ws ≠ []) : (neg = true ∧ wv neg ws < 0) ∨ (neg = false ∧ 0 ≤ wv neg ws) := by
  cases neg
  · exact .inr ⟨rfl, nv_nonneg hw⟩
  · have := nv_pos hw hn (h rfl)
    exact .inl ⟨rfl, by unfold wv; rw [if_pos rfl]; omega⟩
theorem cmpB_wv {n1 n2 : Bool} {xs ys : List Int} (hx : WL xs) (hy : WL ys) (nx : Nrm xs) (ny : Nrm ys) (h1 : n1 = true → xs ≠ []) (h2 : n2 = true → ys ≠ []) : cmpB n1 xs n2 ys = sgnc (wv n1 xs) (wv n2 ys) := by
  have c1 := wv_sign hx nx h1
  have c2 := wv_sign hy ny h2
  unfold cmpB
  rcases c1 with ⟨rfl, x0⟩ | ⟨rfl, x0⟩ <;> rcases c2 with ⟨rfl, y0⟩ | ⟨rfl, y0⟩
  · rw [if_pos rfl, if_pos rfl, ordL_nv hx hy nx ny]
    unfold wv sgnc
    rw [if_pos rfl, if_pos rfl]
    split <;> split <;> (try split) <;> (try split) <;> omega
  · rw [if_neg (by decide), if_pos rfl, sgnc_lt (by omega)]
  · rw [if_neg (by decide), if_neg (by decide), sgnc_gt (by omega)]
  · rw [if_pos rfl, if_neg (by decide), ordL_nv hx hy nx ny]
    rfl

theorem intCmpB {b1 b2 : Nat} {x y : Int} {w : World} (hx : BI b1 x w) (hy : BI b2 y w) :
    Calls Tryz.prog 127 #[.pointer (some ⟨b1, 0, none⟩), .pointer (some ⟨b2, 0, none⟩)] w fun e w' => ∃ C, e = .returned (.int .i64 C) ∧ C = sgnc x y ∧ Below w.heap.size w w' := by
  by_cases hne : b1 = b2
  · subst hne
    obtain ⟨n1, xs, u, k1, v1, a1, a2, a3, a4, a5⟩ := hx.bigv
    obtain ⟨n2, ys, u', k2, v2, c1, c2, c3, c4, c5⟩ := hy.bigv
    refine (intCmpSame b1 0 w).mono ?_
    rintro e w' ⟨rfl, hb⟩
    refine ⟨0, rfl, ?_, hb⟩
    have hq := k1.symm.trans k2
    injection hq with hq
    injection hq with hq
    simp at hq
    obtain ⟨rfl, rfl⟩ := hq
    obtain ⟨_, _, _, q1, s1⟩ := v1
    obtain ⟨_, _, _, q2, s2⟩ := v2
    rw [q1] at q2
    injection q2 with q2
    subst q2
    have := slV_inj s1 s2
    subst this
    rw [← a4, ← c4, sgnc_self]
  · obtain ⟨n1, xs, u, k1, v1, a1, a2, a3, a4, a5⟩ := hx.bigv
    obtain ⟨n2, ys, u', k2, v2, c1, c2, c3, c4, c5⟩ := hy.bigv
    refine (intCmp_any _ _ b1 0 b2 0 n1 n2 xs ys (by omega) (by omega) w _ _ k1 _ _ k2 hne v1 v2).mono ?_
    rintro e w' ⟨rfl, m, rfl⟩
    refine ⟨_, rfl, ?_, below_drewN' (Below.refl _ _) _⟩
    rw [cmpB_wv a1 c1 a2 c2 a5 c5, a4, c4]

/-- Two boxes of ints. -/
abbrev Bxi (w : World) (p q p' q' : Value) (W : World) : Prop := Below w.heap.size w W ∧ W.cell? ⟨w.heap.size, 0, none⟩ = some p ∧ W.cell? ⟨w.heap.size, 1, none⟩ = some q ∧ W.cell? ⟨w.heap.size + 1, 0, none⟩ = some p' ∧ W.cell? ⟨w.heap.size + 1, 1, none⟩ = some q'
theorem Bxi.up {w : World} {p q p' q' : Value} {W W' : World} (h : Bxi w p q p' q' W) (hb : Below W.heap.size W W') : Bxi w p q p' q' W' :=
  ⟨below_up h.1 hb, cell_up hb h.2.1, cell_up hb h.2.2.1, cell_up hb h.2.2.2.1, cell_up hb h.2.2.2.2⟩
theorem Bxi.start (w : World) (p q p' q' : Value) (m1 m2 : Nat) : Bxi w p q p' q' ((((((w.alloc (.cells #[p, q] 117)).alloc (.cells #[p', q'] 117)).alloc (.cells #[p, q] 117)).drewN m1).alloc (.cells #[p', q'] 117)).drewN m2) := by
  have h0 : Bxi w p q p' q' ((w.alloc (.cells #[p, q] 117)).alloc (.cells #[p', q'] 117)) := ⟨below_al (below_al (Below.refl _ _) _) _, by simp, by simp, by simp, by simp⟩
  exact h0.up (below_drewN' (below_al (below_drewN' (below_al (Below.refl _ _) _) _) _) _)
theorem as_int (W : World) (v : Value) : (Instr.typeAssert (.iface 117 v) 64 117 false).run Tryz.prog W = .ok v W := by kernel_rfl
theorem sig64_any (x : Int) (w : World) (h : -4294967296 ≤ x ∧ x ≤ 4294967296) : Calls Tryz.prog 307 #[.int .i64 x] w fun e w' => ∃ C, e = .returned (.int .i64 C) ∧ (C = 0 → x = 0) ∧ Below w.heap.size w w' := by
  have h1 : x < 0 ∨ x = 0 ∨ 0 < x := by omega
  rcases h1 with h1 | h1 | h1
  · go_enter Tryz.func307, Tryz.ntmps307
    go_wp2
    go_ret
    refine ⟨_, rfl, fun hz => ?_, Below.refl _ _⟩
    rw [show x / 9223372036854775808 = -1 by omega, show -x / 9223372036854775808 = 0 by omega] at hz
    exact absurd hz (by decide +kernel)
  · subst h1
    go_enter Tryz.func307, Tryz.ntmps307
    go_wp2
    go_ret
    exact ⟨_, rfl, fun _ => trivial, Below.refl _ _⟩
  · go_enter Tryz.func307, Tryz.ntmps307
    go_wp2
    go_ret
    refine ⟨_, rfl, fun hz => ?_, Below.refl _ _⟩
    rw [show x / 9223372036854775808 = 0 by omega, show IntKind.u64.wrap (-x) / 9223372036854775808 = 1 by rw [IntKind.wrap_u64]; omega] at hz
    exact absurd hz (by decide +kernel)

theorem cmpS_any {B B' : Nat} {v v' : Value} {x y : Int} {d : Int} {w : World} (h : SI B v x w) (h' : SI B' v' y w) :
    Calls Tryz.prog 300 #[v, .iface 117 v', .int .i64 d] w fun e w' => ∃ C, e = .returned (.tuple #[.int .i64 C, .nilIface]) ∧ (C = 0 → x = y) ∧ Below w.heap.size w w' := by
  have HG := Lib.hid (fun s p (h1 : Value.oneCell' s = true) (h2 : Value.oneCell' p = true) W => get_any s p h1 h2 W)
  have HX := Lib.hid (fun W (hW : Below w.heap.size w W) => bigIntS_any (h.up hW))
  have HY := Lib.hid (fun W (hW : Below w.heap.size w W) => bigIntS_any (h'.up hW))
  have has := fun W v => as_int W v
  have hsome : ∀ (W : World) (b : Nat), (binOp .neq 113 (.pointer (some ⟨b, 0, none⟩)) (.pointer none)).run Tryz.prog W = .ok (.bool true) W := fun _ _ => by kernel_rfl
  rcases h with ⟨rfl, h0, h1⟩ | ⟨b, neg, ws, u, rfl, _⟩ <;> rcases h' with ⟨rfl, h0', h1'⟩ | ⟨b', neg', ws', u', rfl, _⟩
  · have hw : IntKind.i64.wrap (x - y) = x - y := by rw [IntKind.wrap_i64]; omega
    have HS := Lib.hid (fun w => sig64_any (x - y) w (by omega))
    go_enter Tryz.func300, Tryz.ntmps300
    go_wp2_with fail
    refine (HG.out _ _ rfl rfl _).mono ?_
    rintro e w1 ⟨rfl, m1, rfl⟩
    go_wp2_with fail
    refine (HG.out _ _ rfl rfl _).mono ?_
    rintro e w2 ⟨rfl, m2, rfl⟩
    go_wp2_with fail
    refine (HS.out _).mono ?_
    rintro e w3 ⟨C, rfl, hC, hb⟩
    have HL := Lib.hid (below_up (Bxi.start w (.int .i64 x) (.pointer none) (.int .i64 y) (.pointer none) m1 m2).1 hb)
    clear hb
    go_wp2
    go_ret2
    exact ⟨C, rfl, fun h => by have := hC h; omega, HL.out⟩
  ·
    go_enter Tryz.func300, Tryz.ntmps300
    go_wp2_with fail
    refine (HG.out _ _ rfl rfl _).mono ?_
    rintro e w1 ⟨rfl, m1, rfl⟩
    go_wp2_with fail
    refine (HG.out _ _ rfl rfl _).mono ?_
    rintro e w2 ⟨rfl, m2, rfl⟩
    go_wp2_with fail
    have H0 : Hid (Bxi w (.int .i64 x) (.pointer none) (.int .i64 0) (.pointer (some ⟨b', 0, none⟩)) _) := Lib.hid (Bxi.start w (.int .i64 x) (.pointer none) (.int .i64 0) (.pointer (some ⟨b', 0, none⟩)) m1 (m2 + 1))
    go_region_held3 (Bxi w (.int .i64 x) (.pointer none) (.int .i64 0) (.pointer (some ⟨b', 0, none⟩)))
      (first | assumption | exact H0.out | exact ((‹Bxi _ _ _ _ _ _›).up ‹Below _ _ _›) | exact (H0.out.up ‹Below _ _ _›))
      (first
        | ((with_reducible refine (HX.out _ ?_).mono ?_); exact (‹Bxi _ _ _ _ _ _›).1; rintro e w1 ⟨b1, rfl, hB1, hb1⟩)
        | ((with_reducible refine (HY.out _ ?_).mono ?_); exact (‹Bxi _ _ _ _ _ _›).1; rintro e w2 ⟨b2, rfl, hB2, hb2⟩)
        | ((with_reducible refine (intCmpB (hB1.up hb2) hB2).mono ?_); rintro e w3 ⟨C, rfl, hC, hb3⟩))
    have HL := Lib.hid (‹Bxi _ _ _ _ _ _›).1
    clear H0
    go_wp2
    go_ret2
    exact ⟨_, rfl, fun h => sgnc_eq0 h, HL.out⟩
  ·
    go_enter Tryz.func300, Tryz.ntmps300
    go_wp2_with fail
    refine (HG.out _ _ rfl rfl _).mono ?_
    rintro e w1 ⟨rfl, m1, rfl⟩
    go_wp2_with fail
    refine (HG.out _ _ rfl rfl _).mono ?_
    rintro e w2 ⟨rfl, m2, rfl⟩
    go_wp2_with fail
    have H0 : Hid (Bxi w (.int .i64 0) (.pointer (some ⟨b, 0, none⟩)) (.int .i64 y) (.pointer none) _) := Lib.hid (Bxi.start w (.int .i64 0) (.pointer (some ⟨b, 0, none⟩)) (.int .i64 y) (.pointer none) m1 (m2 + 1))
    go_region_held3 (Bxi w (.int .i64 0) (.pointer (some ⟨b, 0, none⟩)) (.int .i64 y) (.pointer none))
      (first | assumption | exact H0.out | exact ((‹Bxi _ _ _ _ _ _›).up ‹Below _ _ _›) | exact (H0.out.up ‹Below _ _ _›))
      (first
        | ((with_reducible refine (HX.out _ ?_).mono ?_); exact (‹Bxi _ _ _ _ _ _›).1; rintro e w1 ⟨b1, rfl, hB1, hb1⟩)
        | ((with_reducible refine (HY.out _ ?_).mono ?_); exact (‹Bxi _ _ _ _ _ _›).1; rintro e w2 ⟨b2, rfl, hB2, hb2⟩)
        | ((with_reducible refine (intCmpB (hB1.up hb2) hB2).mono ?_); rintro e w3 ⟨C, rfl, hC, hb3⟩))
    have HL := Lib.hid (‹Bxi _ _ _ _ _ _›).1
    clear H0
    go_wp2
    go_ret2
    exact ⟨_, rfl, fun h => sgnc_eq0 h, HL.out⟩
  ·
    go_enter Tryz.func300, Tryz.ntmps300
    go_wp2_with fail
    refine (HG.out _ _ rfl rfl _).mono ?_
    rintro e w1 ⟨rfl, m1, rfl⟩
    go_wp2_with fail
    refine (HG.out _ _ rfl rfl _).mono ?_
    rintro e w2 ⟨rfl, m2, rfl⟩
    go_wp2_with fail
    have H0 : Hid (Bxi w (.int .i64 0) (.pointer (some ⟨b, 0, none⟩)) (.int .i64 0) (.pointer (some ⟨b', 0, none⟩)) _) := Lib.hid (Bxi.start w (.int .i64 0) (.pointer (some ⟨b, 0, none⟩)) (.int .i64 0) (.pointer (some ⟨b', 0, none⟩)) m1 (m2 + 1))
    go_region_held3 (Bxi w (.int .i64 0) (.pointer (some ⟨b, 0, none⟩)) (.int .i64 0) (.pointer (some ⟨b', 0, none⟩)))
      (first | assumption | exact H0.out | exact ((‹Bxi _ _ _ _ _ _›).up ‹Below _ _ _›) | exact (H0.out.up ‹Below _ _ _›))
      (first
        | ((with_reducible refine (HX.out _ ?_).mono ?_); exact (‹Bxi _ _ _ _ _ _›).1; rintro e w1 ⟨b1, rfl, hB1, hb1⟩)
        | ((with_reducible refine (HY.out _ ?_).mono ?_); exact (‹Bxi _ _ _ _ _ _›).1; rintro e w2 ⟨b2, rfl, hB2, hb2⟩)
        | ((with_reducible refine (intCmpB (hB1.up hb2) hB2).mono ?_); rintro e w3 ⟨C, rfl, hC, hb3⟩))
    have HL := Lib.hid (‹Bxi _ _ _ _ _ _›).1
    clear H0
    go_wp2
    go_ret2
    exact ⟨_, rfl, fun h => sgnc_eq0 h, HL.out⟩
end Go.Proofs.YtloloifngbmibaaGreatDoor
