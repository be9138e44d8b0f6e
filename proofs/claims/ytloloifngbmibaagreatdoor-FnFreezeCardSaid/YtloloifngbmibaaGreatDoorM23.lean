/- The reference's cleanDict. The reference's Clean. The reference's Clean: what it makes. -/
import Derived.Test.YtloloifngbmibaaGreatDoorM22
set_option linter.unusedVariables false
set_option linter.unusedSimpArgs false
set_option maxRecDepth 4000
namespace Go.Proofs.YtloloifngbmibaaGreatDoor
open Go.RowKit

/-- Two Vals put behind, at a step of a region that draws. -/
theorem step_push2 {L M : Nat} {w : World} {x : Vc} {K : Int} {d B1 : Nat} {v : Value} {ts : List Tr} (W1 : World) (hM : MkS L M w x K d v ts W1) (t1 t2 : Tr) (y1 y2 : Vc) (hy1 : HVQ L M B1 d t1 y1 W1) (hy2 : HVQ L M B1 d t2 y2 W1) (hB1 : ∀ g, v.ownBlock = some g → g < B1) (h3 : w.heap.size + 3 ≤ B1) (hlen : ts.length + 2 ≤ 1000) (T : TypeId)
    {ops : Array Oper} {o : Oper} {a : Act} {KK : Act → World → Prop} {Q : Exit → Act → World → Prop} {E : Prop} (hgd : o.guard = none) (s z : Operand)
    (ho : o.op = .call { callee := .builtin .append, args := #[s, z], argTypes := #[24, 24] })
    (hs : a.eval s = v) (hz : a.eval z = .slice (some ⟨W1.heap.size, 0, none⟩) 2 2)
    (hK : ∀ v' w', RowV L M (w.heap.size + 3) d v' (ts ++ [t1, t2]) w' → Below (w.heap.size + 3) W1 w' → (∀ k, k < W1.heap.size → B1 ≤ k → w'.heap[k]? = W1.heap[k]?) → (∃ A c, v' = .slice A (ts.length + 2) c) → KK (a.put o.dst v') w') : if Region.wanted o (yielded ops a.tmps) = true then o.wp Tryz.prog a (W1.alloc (.cells #[.int .i64 y1.k, .bool y1.n, y1.m, .int .u64 y1.b, .string y1.s, y1.q, .int .i64 y2.k, .bool y2.n, y2.m, .int .u64 y2.b, .string y2.s, y2.q] T)) KK Q else E := by
  obtain ⟨S, h1, h2⟩ := hy1
  obtain ⟨S', h1', h2'⟩ := hy2
  have l3 : w.heap.size + 3 ≤ W1.heap.size := hM.ob.lt
  have hal := below_al (Below.refl W1.heap.size W1) (.cells (vcs [y1, y2]).toArray T)
  refine step_pushg (L := L) (M := M) (B := w.heap.size + 3) (d := d) (v := v) (ts := ts) (us := [t1, t2]) (ys := [y1, y2]) (S' := fun k => S k ∨ S' k) (W1.alloc (.cells (vcs [y1, y2]).toArray T)) hgd s z ho hs (hM.row.up hal) rfl ?_ ?_ ?_ W1.heap.size 2 rfl hz T (Blk.new _ _ _) hlen (Nat.le_trans l3 hal.size) ?_
  · intro i y' u' hy' hu'
    match i, hy', hu' with
    | 0, hy', hu' =>
      simp at hy' hu'
      subst hy' hu'
      exact (h1.keep (still_below hal (fun k hk => (h2 k hk).2))).mono (fun k hk => Or.inl hk)
    | 1, hy', hu' =>
      simp at hy' hu'
      subst hy' hu'
      exact (h1'.keep (still_below hal (fun k hk => (h2' k hk).2))).mono (fun k hk => Or.inr hk)
    | i + 2, hy', hu' => simp at hy'
  · intro k hk
    rcases hk with hk | hk
    · exact ⟨(h2 k hk).1.imp id (fun h => Nat.le_trans h3 h), Nat.lt_of_lt_of_le (h2 k hk).2 hal.size⟩
    · exact ⟨(h2' k hk).1.imp id (fun h => Nat.le_trans h3 h), Nat.lt_of_lt_of_le (h2' k hk).2 hal.size⟩
  · intro g hg hk
    have h5 := hB1 g hg
    have h7 := hM.row.ownGe g hg
    have h8 := hM.hM
    rcases hk with hk | hk
    · rcases (h2 g hk).1 with h6 | h6 <;> omega
    · rcases (h2' g hk).1 with h6 | h6 <;> omega
  · intro v' w' hr hb hg hv
    refine hK v' w' hr ((hal.mono l3).trans hb) (fun k hk hBk => ?_) hv
    refine (hg.block k (Nat.lt_of_lt_of_le hk hal.size) (fun e => ?_)).trans (hal.block k hk)
    have := hB1 k e.symm
    omega

theorem Six.keep {W W' : World} {b o : Nat} {x : Vc} (h : Six W b o x) (hk : W'.heap[b]? = W.heap[b]?) : Six W' b o x := by
  have k : ∀ (j : Nat) (z : Value), W.cell? ⟨b, j, none⟩ = some z → W'.cell? ⟨b, j, none⟩ = some z := fun j z hz => (World.cell?_of_block (a := ⟨b, j, none⟩) hk).trans hz
  exact ⟨k _ _ h.1, k _ _ h.2.1, k _ _ h.2.2.1, k _ _ h.2.2.2.1, k _ _ h.2.2.2.2.1, k _ _ h.2.2.2.2.2⟩
/-- A box's kids, one of them, a key's block. -/
abbrev KidD (w : World) (q : Value) (b o : Nat) (u : Vc) (g : Nat) (z : Vc) (W : World) : Prop := KidC w q b o u W ∧ Six W g 0 z
theorem KidD.up {w : World} {q : Value} {b o : Nat} {u : Vc} {g : Nat} {z : Vc} {W W' : World} (h : KidD w q b o u g z W) (hb : Below W.heap.size W W') : KidD w q b o u g z W' := ⟨h.1.up hb, h.2.up hb⟩
theorem KidD.al {w : World} {q : Value} {b o : Nat} {u : Vc} {g : Nat} {z : Vc} {W : World} (h : KidD w q b o u g z W) (ob : Obj) : KidD w q b o u g z (W.alloc ob) := h.up (below_al (Below.refl _ _) ob)
theorem KidD.lo {w : World} {q : Value} {b o : Nat} {u : Vc} {g : Nat} {z : Vc} {W W' : World} {B1 : Nat} (h : KidD w q b o u g z W) (hb : Below (w.heap.size + 3) W W') (hl : b < w.heap.size) (hg : ∀ k, k < W.heap.size → B1 ≤ k → W'.heap[k]? = W.heap[k]?) (hgB : B1 ≤ g) : KidD w q b o u g z W' :=
  ⟨h.1.lo hb hl, h.2.keep (hg g (World.block_lt_of_cell? W _ h.2.1) hgB)⟩
theorem KidD.st {w : World} {q : Value} {b o : Nat} {u : Vc} {g : Nat} {z : Vc} {W : World} (h : KidD w q b o u g z W) (hl : b < w.heap.size) (hg : w.heap.size + 3 ≤ g) (j : Nat) (y : Value) : KidD w q b o u g z (W.setCell ⟨w.heap.size + 2, j, none⟩ y) :=
  ⟨h.1.st hl j y, h.2.keep (Below.heap_setCell W _ y g (by show g ≠ w.heap.size + 2; omega))⟩

theorem dist_push2 {d : Nat} {ts : List Tr} {t2 t3 : Tr} (h : Dist d 2 ts) (he : ts.length % 2 = 0) (hf : ∀ j, j < ts.length → j % 2 = 0 → ¬ Is d ts t2 j) : Dist d 2 (ts ++ [t2, t3]) := by
  intro i j u v hji hi hj hu hv
  have hil : i < ts.length + 2 := by
    have := (List.getElem?_eq_some_iff.1 hu).1
    simpa using this
  have hjl : j < ts.length := by omega
  rw [List.getElem?_append_left hjl] at hv
  by_cases hlt : i < ts.length
  · rw [List.getElem?_append_left hlt] at hu
    exact h i j u v hji hi hj hu hv
  · have hie : i = ts.length := by omega
    subst hie
    simp at hu
    subst hu
    exact fun e => hf j hjl hj ⟨v, hv, e⟩
theorem dict_push {d i : Nat} {ts : List Tr} {t2 t3 : Tr} (h : ts.length ≤ i ∧ ts.length % 2 = 0 ∧ (∀ u ∈ ts, Good d u) ∧ Keys d 2 ts ∧ Dist d 2 ts) (h2 : Good d t2 ∧ KeyT d t2) (h3 : Good d t3) (hf : ∀ j, j < ts.length → j % 2 = 0 → ¬ Is d ts t2 j) :
    (ts ++ [t2, t3]).length ≤ i + 2 ∧ (ts ++ [t2, t3]).length % 2 = 0 ∧ (∀ u ∈ ts ++ [t2, t3], Good d u) ∧ Keys d 2 (ts ++ [t2, t3]) ∧ Dist d 2 (ts ++ [t2, t3]) := by
  obtain ⟨a1, a2, a3, a4, a5⟩ := h
  refine ⟨by simp; omega, by simp; omega, fun u hu => ?_, fun j u hj hu => ?_, dist_push2 a5 a2 hf⟩
  · rcases List.mem_append.1 hu with h | h
    · exact a3 u h
    · simp at h
      rcases h with rfl | rfl
      · exact h2.1
      · exact h3
  · by_cases hlt : j < ts.length
    · rw [List.getElem?_append_left hlt] at hu
      exact a4 j u hj hu
    · have hj2 : j < ts.length + 2 := by
        have := (List.getElem?_eq_some_iff.1 hu).1
        simpa using this
      have hje : j = ts.length := by omega
      subst hje
      simp at hu
      subst hu
      exact h2

set_option maxHeartbeats 2000000 in
theorem cdict_core (d : Nat) (k : Int) (ng : Bool) (Am : Option Addr) (nm cm : Nat) (b : Int) (s : ByteArray) (A : Option Addr) (n c : Nat) (hn : n ≤ 9223372036854775807) (dp : Int) (hd : ¬ dp ≤ 0) (hdp : dp ≤ 100) (w : World)
    (HK : KidMk 0 0 16 (fun u => #[u.agg, .int .i64 (dp - 1)]) (d + 1) (fun _ t => Good d t) A (min n 17) w) :
    Calls Tryz.prog 44 #[.agg #[.int .i64 k, .bool ng, .slice Am nm cm, .int .u64 b, .string s, .slice A n c], .int .i64 dp] w fun e w' => ∃ ts y, e = .returned (Vc.agg y) ∧ ts.length ≤ 16 ∧ ts.length % 2 = 0 ∧ (∀ u ∈ ts, Good d u) ∧ Keys d 2 ts ∧ Dist d 2 ts ∧ HVB w.heap.size (d + 2) ⟨8, false, [], 0, ⟨#[]⟩, ts⟩ y w' ∧ Below w.heap.size w w' := by
  have HH := Lib.hid HK
  have h0 := Lib.hid (MkS.start 0 0 w ⟨k, ng, .slice Am nm cm, b, s, .slice A n c⟩ 8 (d + 1) (Nat.zero_le _))
  clear HK
  have hw : IntKind.i64.wrap (dp - 1) = dp - 1 := by rw [IntKind.wrap_i64]; omega
  go_enter Tryz.func44, Tryz.ntmps44
  go_wp2
  go_loopw [6] (fun iv wr => ∃ (i : Nat) (v : Value) (ts : List Tr), iv = .int .i64 i ∧ i ≤ 16 ∧ i % 2 = 0 ∧ Hid (ts.length ≤ i ∧ ts.length % 2 = 0 ∧ (∀ u ∈ ts, Good d u) ∧ Keys d 2 ts ∧ Dist d 2 ts) ∧ Hid (MkS 0 0 w ⟨k, ng, .slice Am nm cm, b, s, .slice A n c⟩ 8 (d + 1) v ts wr)) (fun iv _ => 18 - (intOf iv).toNat)
  case atStart => exact ⟨0, _, [], rfl, Nat.zero_le _, rfl, Lib.hid ⟨Nat.le_refl _, rfl, fun u h => (by cases h), (fun i u _ h => (by simp at h)), Dist.nil _ _⟩, h0⟩
  case round =>
    obtain ⟨i, v, ts, rfl, hi, hev, hT, hM⟩ := hrel
    have b5 := hM.out.bx.cell 5
    have lb := hM.out.bx.lt
    simp at b5
    by_cases hlt : i + 1 < n ∧ i < 16
    · obtain ⟨hin, hi16⟩ := hlt
      have hin0 : i < n := by omega
      obtain ⟨u, ⟨b1, o1, rfl, hu⟩, hc⟩ := HH.out i (by omega) wr hM.out.lo
      have HC := Lib.hid hc
      have HME : Hid (18 - (i + 2) < 18 - i) := Lib.hid (by omega)
      have HSI : Hid (i + 2 ≤ 16 ∧ (i + 2) % 2 = 0) := Lib.hid ⟨by omega, by omega⟩
      have w2k : Hid (wrap64 ((i : Int) + 2) = (i : Int) + 2) := Lib.hid (wr_add i 2 (by omega))
      obtain ⟨u0, u1, u2, u3, u4, u5⟩ := hu
      have HLN : Hid (ts.length + 2 ≤ 1000) := Lib.hid (by have := hT.out.1; omega)
      have HBL : Hid (b1 < w.heap.size) := Lib.hid (by
        obtain ⟨u', ⟨b1', o1', e, hu', _⟩, _⟩ := HH.out i (by omega) w (Below.refl _ _)
        injection e with e
        injection e with e1 e2
        subst e1
        exact World.block_lt_of_cell? w _ hu')
      have HKV := Lib.hid (HH.out (i + 1) (by omega))
      clear hc HH h0 hi lb hn hev
      go_wp2_with fail
      refine HC.out.mono ?_
      rintro e w1 ⟨t1, y1, rfl, hg1, hy1, hb1⟩
      have HY1 := Lib.hid hy1
      have HG1 := Lib.hid hg1
      have HM1 := Lib.hid (hM.out.up hb1)
      have HO := Lib.hid hM.out.row.ownLt
      have h3w := Lib.hid hM.out.ob.lt
      have HW1 := Lib.hid hb1.size
      obtain ⟨yk, yn, yA, yl, yc, yb, ys, qA, ql, qc, rfl⟩ := hy1.shape
      clear hy1 hg1 hb1 HC u0 u1 u2 u3 u4 u5 b5
      go_wp2_with fail
      refine (key_any wr.heap.size w1.heap.size d (Nat.le_refl _) (HY1.out.hvi (L := 0) (M := w1.heap.size) (B' := 0) rfl) HG1.out).mono ?_
      rintro e w2 ⟨t2, y2, rfl, hy2, hg2, hk2, hb2⟩
      obtain ⟨zk, zn, zA, zl, zc, zb, zs, pA, pl, pc, rfl⟩ := hy2.shape
      have HV2 := Lib.hid (hvb_of hy2 HW1.out)
      have HM2 := Lib.hid (HM1.out.up hb2)
      have HG2 := Lib.hid (And.intro hg2 hk2)
      have HW2 := Lib.hid (Nat.le_trans HW1.out hb2.size)
      clear hy2 hg2 hk2 hb2 hM HM1 HY1 HG1
      obtain ⟨Av, cv, hv, hvs⟩ := HM2.out.row.form
      have HVS := Lib.hid hvs.2.1
      clear hvs
      subst hv
      have hal := below_al (Below.refl w2.heap.size w2) (.cells (VcB ⟨zk, zn, .slice zA zl zc, zb, zs, .slice pA pl pc⟩) 26)
      have HFN := Lib.hid (find2 d (c := cv) (Nat.le_trans (Nat.le_add_right _ 2) HLN.out) (HVS.out.up hal) (HV2.out.hv.up hal) hT.out.2.2.2.1 HG2.out.1 HG2.out.2)
      have HM3 := Lib.hid (HM2.out.up hal)
      have HV3 := Lib.hid (HV2.out.up hal)
      have HKB := Lib.hid (Blk.new w2 26 (VcB ⟨zk, zn, .slice zA zl zc, zb, zs, .slice pA pl pc⟩))
      have o5 := HM2.out.ob.cell 5
      have l3 := HM2.out.ob.lt
      simp at o5
      clear hal HVS
      go_wp2_with fail
      refine HFN.out.mono ?_
      rintro e w3 ⟨r, rfl, hr, hb3⟩
      have HM4 := Lib.hid (HM3.out.up hb3)
      have HV4 := Lib.hid (HV3.out.up hb3)
      have hkb := HKB.out.below hb3 HKB.out.lt
      have HKS := Lib.hid hb3.size
      have b5 := HM4.out.bx.cell 5
      simp at b5
      have HFR := Lib.hid hr
      clear HM3 HV3 HFN HM2 HV2 hb3 o5 l3 hr
      by_cases hr0 : r < 0
      · have o5 : w3.drew.cell? ⟨w.heap.size + 2, 5, none⟩ = some (.slice Av ts.length cv) := HM4.out.ob.cell 5
        have l3 := HM4.out.ob.lt
        obtain ⟨u', ⟨b1', o1', e', hu'⟩, hc'⟩ := HKV.out w3.drew HM4.out.lo.drew
        injection e' with e'
        injection e' with e1 e2
        subst e1 e2
        have HC' := Lib.hid hc'
        have HK0 := Lib.hid (show KidD w (.slice (some ⟨b1, o1, none⟩) n c) b1 (o1 + (i + 1) * 6) u' w2.heap.size ⟨zk, zn, .slice zA zl zc, zb, zs, .slice pA pl pc⟩ w3.drew from ⟨⟨b5, hu'⟩, ⟨hkb.cell 0, hkb.cell 1, hkb.cell 2, hkb.cell 3, hkb.cell 4, hkb.cell 5⟩⟩)
        have HMd := Lib.hid HM4.out.drew
        have HVd := Lib.hid (show HVQ 0 0 wr.heap.size (d + 1) t2 ⟨zk, zn, .slice zA zl zc, zb, zs, .slice pA pl pc⟩ w3.drew from HV4.out.drewN 1)
        have HW3 : Hid (wr.heap.size ≤ w3.drew.heap.size) := Lib.hid (Nat.le_trans HW2.out (Nat.le_trans (Nat.le_succ _) (by have := HKS.out; simpa using this)))
        have wi : IntKind.i64.wrap ((i : Int) + 1) = (i : Int) + 1 := by rw [IntKind.wrap_i64]; omega
        have ti : ((i : Int) + 1).toNat = i + 1 := by omega
        have i0 : (0 : Int) ≤ (i : Int) + 1 := by omega
        have i1 : ((i : Int) + 1 < (n : Int)) := by omega
        have i2 : decide ((i : Int) + 1 < (n : Int)) = true := decide_eq_true i1
        clear hkb HKB hc' hu' HKV
        go_wp2_with fail
        rw [show Op.load 24 (.tmp 35) = ldAs 24 (.tmp 35) from rfl]
        go_region_held3 (fun W => KidD w (.slice (some ⟨b1, o1, none⟩) n c) b1 (o1 + (i + 1) * 6) u' w2.heap.size ⟨zk, zn, .slice zA zl zc, zb, zs, .slice pA pl pc⟩ W)
          (first | (with_reducible assumption) | (with_reducible exact HK0.out) | (with_reducible exact HK0.out.up hb4) | (with_reducible exact (HK0.out.up hb4).al _) | (with_reducible exact (HK0.out.up hb4).lo hb5 HBL.out hkp HW2.out) | (with_reducible exact ((HK0.out.up hb4).lo hb5 HBL.out hkp HW2.out).st HBL.out (Nat.le_trans h3w.out HW2.out) _ _))
          (first
            | (go_at_call 16; (with_reducible refine HC'.out.mono ?_); rintro e w4 ⟨t3, y3, rfl, hg3, hy3, hb4⟩; obtain ⟨xk, xn, xA, xl, xc, xb, xs, rA, rl, rc, rfl⟩ := hy3.shape; have HM5 := Lib.hid (HMd.out.up hb4); have HV5 := Lib.hid (HVd.out.up hb4); have o5' := HM5.out.ob.cell 5; have l3' := HM5.out.ob.lt; have HY3 := Lib.hid (hy3.low (L' := 0) (M' := 0) (B' := wr.heap.size) (fun k hk => hk.imp id (fun h => Nat.le_trans HW3.out h))); have HG3 := Lib.hid hg3; simp at o5')
            | (refine step_push2 w4 HM5.out t2 t3 _ _ HV5.out HY3.out HO.out h3w.out HLN.out 26 rfl _ _ rfl (by rfl) (by rfl) ?_; rintro v' w5 hr hb5 hkp ⟨A', c', rfl⟩; have HR5 := Lib.hid hr; have HB5 := Lib.hid hb5; have hob := HM5.out.ob.below hb5 (Nat.lt_succ_self _); have l4 := hob.lt; have p5 := hob.cell 5; have f5 := hob.frozen 5; simp at p5))
        all_goals
          have HM6 := Lib.hid (HM5.out.push HB5.out HR5.out)
          have HT2 : Hid ((ts ++ [t2, t3]).length ≤ i + 2 ∧ (ts ++ [t2, t3]).length % 2 = 0 ∧ (∀ u ∈ ts ++ [t2, t3], Good d u) ∧ Keys d 2 (ts ++ [t2, t3]) ∧ Dist d 2 (ts ++ [t2, t3])) := Lib.hid (dict_push hT.out HG2.out HG3.out (HFR.out hr0))
          clear HM5 HV5 HY3 HR5 HB5 o5 o5' p5 f5 l3 l4 l3' b5 hob HK0 HMd HVd hkp hr hb5 hw wi ti i0 i1 i2
          go_wp2
          go_roundw
          case rel => exact ⟨i + 2, _, _, by first | rfl | (rw [w2k.out]; rfl), HSI.out.1, HSI.out.2, HT2, HM6⟩
          case measure => first | exact HME.out | (rw [w2k.out]; exact HME.out)
      · have HT2 : Hid (ts.length ≤ i + 2 ∧ ts.length % 2 = 0 ∧ (∀ u ∈ ts, Good d u) ∧ Keys d 2 ts ∧ Dist d 2 ts) := Lib.hid ⟨Nat.le_trans hT.out.1 (Nat.le_add_right _ _), hT.out.2⟩
        clear hkb HKB HV4
        go_wp2
        go_roundw
        case rel => exact ⟨i + 2, _, _, by first | rfl | (rw [w2k.out]; rfl), HSI.out.1, HSI.out.2, HT2, HM4⟩
        case measure => first | exact HME.out | (rw [w2k.out]; exact HME.out)
    · have hc2 : ¬ i + 1 < n ∨ (i + 1 < n ∧ ¬ i < 16) := by omega
      have HI8 : Hid (ts.length ≤ 16) := Lib.hid (by have := hT.out.1; omega)
      have hI16 : i ≤ 16 := hi
      obtain ⟨Av, cv, hv, hrest⟩ := hM.out.row.form
      clear hrest HH h0 hlt hi hn lb hw
      subst hv
      rcases hc2 with hc3 | ⟨hc3, hc4⟩
      all_goals
        have k0 := hM.out.ob.cell 0
        have k1 := hM.out.ob.cell 1
        have k2 := hM.out.ob.cell 2
        have k3 := hM.out.ob.cell 3
        have k4 := hM.out.ob.cell 4
        have k5 := hM.out.ob.cell 5
        have r0 := hM.out.rs.cell 0
        have r1 := hM.out.rs.cell 1
        have r2 := hM.out.rs.cell 2
        have r3 := hM.out.rs.cell 3
        have r4 := hM.out.rs.cell 4
        have r5 := hM.out.rs.cell 5
        have z0 := hM.out.rs.frozen 0
        have z1 := hM.out.rs.frozen 1
        have z2 := hM.out.rs.frozen 2
        have z3 := hM.out.rs.frozen 3
        have z4 := hM.out.rs.frozen 4
        have z5 := hM.out.rs.frozen 5
        have lr := hM.out.rs.lt
        simp at k0 k1 k2 k3 k4 k5 r0 r1 r2 r3 r4 r5
        have hV := (hM.out.row.val 8 trivial)
        have hm1 : 0 ≤ w.heap.size + 1 := Nat.zero_le _
        have hm2 : w.heap.size + 1 < w.heap.size + 3 := by omega
        have HRS := Lib.hid hM.out.rs
        have HV := Lib.hid ((hV.set6 hm1 hm2 (.int .i64 8) (.bool false) (.slice none 0 0) (.int .u64 0) (.string ⟨#[]⟩) (.slice Av ts.length cv)).low (L' := 0) (M' := 0) (B' := w.heap.size) (fun k hk => hk.imp id (fun h => Nat.le_trans (Nat.le_add_right _ _) h)))
        have HL := Lib.hid (low6 hM.out.lo (w.heap.size + 1) (Nat.le_add_right _ _) (.int .i64 8) (.bool false) (.slice none 0 0) (.int .u64 0) (.string ⟨#[]⟩) (.slice Av ts.length cv))
        clear hM hV hm1 hm2
        go_wp2
        clear r0 r1 r2 r3 r4 r5 k0 k1 k2 k3 k4 k5 b5
        have HF := Lib.hid (set6 HRS.out (.int .i64 8) (.bool false) (.slice none 0 0) (.int .u64 0) (.string ⟨#[]⟩) (.slice Av ts.length cv))
        have q0 := HF.out.cell 0
        have q1 := HF.out.cell 1
        have q2 := HF.out.cell 2
        have q3 := HF.out.cell 3
        have q4 := HF.out.cell 4
        have q5 := HF.out.cell 5
        simp at q0 q1 q2 q3 q4 q5
        exact bodyPost_ret (v := .agg #[.int .i64 8, .bool false, .slice none 0 0, .int .u64 0, .string ⟨#[]⟩, .slice Av ts.length cv]) (by simp [results, Tryz.results44, go_sem, q0, q1, q2, q3, q4, q5]) rfl ⟨ts, ⟨8, false, .slice none 0 0, 0, ⟨#[]⟩, .slice Av ts.length cv⟩, rfl, HI8.out, hT.out.2.1, hT.out.2.2.1, hT.out.2.2.2.1, hT.out.2.2.2.2, HV.out, HL.out⟩
end Go.Proofs.YtloloifngbmibaaGreatDoor
set_option linter.unusedVariables false
set_option linter.unusedSimpArgs false
set_option maxRecDepth 4000
namespace Go.Proofs.YtloloifngbmibaaGreatDoor
open Go.RowKit

theorem cln8 (d : Nat) (T : Tr → Prop) (k : Int) (n : Bool) (Am Aq : Option Addr) (nm cm nq cq : Nat) (b : Int) (s : ByteArray) (dp : Int) (e : kd k = 8) (hd : ¬ dp ≤ 0) (w : World)
    (HC : ∀ W, Below w.heap.size w W → Calls Tryz.prog 44 #[.agg #[.int .i64 k, .bool n, .slice Am nm cm, .int .u64 b, .string s, .slice Aq nq cq], .int .i64 dp] W fun e w' => ∃ t y, e = .returned (Vc.agg y) ∧ T t ∧ HVB W.heap.size d t y w' ∧ Below W.heap.size W w') :
    Calls Tryz.prog 16 #[.agg #[.int .i64 k, .bool n, .slice Am nm cm, .int .u64 b, .string s, .slice Aq nq cq], .int .i64 dp] w fun e w' => ∃ t y, e = .returned (Vc.agg y) ∧ T t ∧ HVB w.heap.size d t y w' ∧ Below w.heap.size w w' := by
  have H0 := Lib.hid (RbS.start w ⟨k, n, .slice Am nm cm, b, s, .slice Aq nq cq⟩)
  have HH := Lib.hid (HC _ H0.out.lo)
  clear HC
  go_enter Tryz.func16, Tryz.ntmps16
  go_upto_region 2 with fail
  rw [show (wrap64 (k.tmod 10 + 10)).tmod 10 = _ from e]
  clear e
  go_wp2_with fail
  refine HH.out.mono ?_
  rintro e w1 ⟨t, y, rfl, hT, hy, hb1⟩
  obtain ⟨zk, zn, zA, zl, zc, zb, zs, pA, pl, pc, rfl⟩ := hy.shape
  have HM := Lib.hid (H0.out.up hb1)
  have k0 := HM.out.rs.cell 0
  have k1 := HM.out.rs.cell 1
  have k2 := HM.out.rs.cell 2
  have k3 := HM.out.rs.cell 3
  have k4 := HM.out.rs.cell 4
  have k5 := HM.out.rs.cell 5
  have z0 := HM.out.rs.frozen 0
  have z1 := HM.out.rs.frozen 1
  have z2 := HM.out.rs.frozen 2
  have z3 := HM.out.rs.frozen 3
  have z4 := HM.out.rs.frozen 4
  have z5 := HM.out.rs.frozen 5
  have lr := HM.out.rs.lt
  simp at k0 k1 k2 k3 k4 k5
  have HRS := Lib.hid HM.out.rs
  have HT := Lib.hid hT
  have HL := Lib.hid (low6 HM.out.lo (w.heap.size + 1) (Nat.le_add_right _ _) (.int .i64 zk) (.bool zn) (.slice zA zl zc) (.int .u64 zb) (.string zs) (.slice pA pl pc))
  have HV := Lib.hid (((hy.low (L' := 0) (M' := 0) (B' := w.heap.size + 2) (fun k hk => hk.imp id (fun h => Nat.le_trans (Nat.le_of_eq (by simp)) h))).set6 (g := w.heap.size + 1) (Nat.zero_le _) (Nat.lt_succ_self _) (.int .i64 zk) (.bool zn) (.slice zA zl zc) (.int .u64 zb) (.string zs) (.slice pA pl pc)).low (L' := 0) (M' := 0) (B' := w.heap.size) (fun k hk => hk.imp id (fun h => Nat.le_trans (Nat.le_add_right _ _) h)))
  clear HM H0 hb1 HH hT hy
  go_wp2
  have HF := Lib.hid (set6 HRS.out (.int .i64 zk) (.bool zn) (.slice zA zl zc) (.int .u64 zb) (.string zs) (.slice pA pl pc))
  clear k0 k1 k2 k3 k4 k5
  have q0 := HF.out.cell 0
  have q1 := HF.out.cell 1
  have q2 := HF.out.cell 2
  have q3 := HF.out.cell 3
  have q4 := HF.out.cell 4
  have q5 := HF.out.cell 5
  simp at q0 q1 q2 q3 q4 q5
  exact bodyPost_ret (v := .agg #[.int .i64 zk, .bool zn, .slice zA zl zc, .int .u64 zb, .string zs, .slice pA pl pc]) (by simp [results, Tryz.results16, go_sem, q0, q1, q2, q3, q4, q5]) rfl ⟨t, ⟨zk, zn, .slice zA zl zc, zb, zs, .slice pA pl pc⟩, rfl, HT.out, HV.out, HL.out⟩

theorem cln9 (d : Nat) (T : Tr → Prop) (k : Int) (n : Bool) (Am Aq : Option Addr) (nm cm nq cq : Nat) (b : Int) (s : ByteArray) (dp : Int) (e : kd k = 9) (hd : ¬ dp ≤ 0) (w : World)
    (HC : ∀ W, Below w.heap.size w W → Calls Tryz.prog 45 #[.agg #[.int .i64 k, .bool n, .slice Am nm cm, .int .u64 b, .string s, .slice Aq nq cq], .int .i64 dp] W fun e w' => ∃ t y, e = .returned (Vc.agg y) ∧ T t ∧ HVB W.heap.size d t y w' ∧ Below W.heap.size W w') :
    Calls Tryz.prog 16 #[.agg #[.int .i64 k, .bool n, .slice Am nm cm, .int .u64 b, .string s, .slice Aq nq cq], .int .i64 dp] w fun e w' => ∃ t y, e = .returned (Vc.agg y) ∧ T t ∧ HVB w.heap.size d t y w' ∧ Below w.heap.size w w' := by
  have H0 := Lib.hid (RbS.start w ⟨k, n, .slice Am nm cm, b, s, .slice Aq nq cq⟩)
  have HH := Lib.hid (HC _ H0.out.lo)
  clear HC
  go_enter Tryz.func16, Tryz.ntmps16
  go_upto_region 2 with fail
  rw [show (wrap64 (k.tmod 10 + 10)).tmod 10 = _ from e]
  clear e
  go_wp2_with fail
  refine HH.out.mono ?_
  rintro e w1 ⟨t, y, rfl, hT, hy, hb1⟩
  obtain ⟨zk, zn, zA, zl, zc, zb, zs, pA, pl, pc, rfl⟩ := hy.shape
  have HM := Lib.hid (H0.out.up hb1)
  have k0 := HM.out.rs.cell 0
  have k1 := HM.out.rs.cell 1
  have k2 := HM.out.rs.cell 2
  have k3 := HM.out.rs.cell 3
  have k4 := HM.out.rs.cell 4
  have k5 := HM.out.rs.cell 5
  have z0 := HM.out.rs.frozen 0
  have z1 := HM.out.rs.frozen 1
  have z2 := HM.out.rs.frozen 2
  have z3 := HM.out.rs.frozen 3
  have z4 := HM.out.rs.frozen 4
  have z5 := HM.out.rs.frozen 5
  have lr := HM.out.rs.lt
  simp at k0 k1 k2 k3 k4 k5
  have HRS := Lib.hid HM.out.rs
  have HT := Lib.hid hT
  have HL := Lib.hid (low6 HM.out.lo (w.heap.size + 1) (Nat.le_add_right _ _) (.int .i64 zk) (.bool zn) (.slice zA zl zc) (.int .u64 zb) (.string zs) (.slice pA pl pc))
  have HV := Lib.hid (((hy.low (L' := 0) (M' := 0) (B' := w.heap.size + 2) (fun k hk => hk.imp id (fun h => Nat.le_trans (Nat.le_of_eq (by simp)) h))).set6 (g := w.heap.size + 1) (Nat.zero_le _) (Nat.lt_succ_self _) (.int .i64 zk) (.bool zn) (.slice zA zl zc) (.int .u64 zb) (.string zs) (.slice pA pl pc)).low (L' := 0) (M' := 0) (B' := w.heap.size) (fun k hk => hk.imp id (fun h => Nat.le_trans (Nat.le_add_right _ _) h)))
  clear HM H0 hb1 HH hT hy
  go_wp2
  have HF := Lib.hid (set6 HRS.out (.int .i64 zk) (.bool zn) (.slice zA zl zc) (.int .u64 zb) (.string zs) (.slice pA pl pc))
  clear k0 k1 k2 k3 k4 k5
  have q0 := HF.out.cell 0
  have q1 := HF.out.cell 1
  have q2 := HF.out.cell 2
  have q3 := HF.out.cell 3
  have q4 := HF.out.cell 4
  have q5 := HF.out.cell 5
  simp at q0 q1 q2 q3 q4 q5
  exact bodyPost_ret (v := .agg #[.int .i64 zk, .bool zn, .slice zA zl zc, .int .u64 zb, .string zs, .slice pA pl pc]) (by simp [results, Tryz.results16, go_sem, q0, q1, q2, q3, q4, q5]) rfl ⟨t, ⟨zk, zn, .slice zA zl zc, zb, zs, .slice pA pl pc⟩, rfl, HT.out, HV.out, HL.out⟩

end Go.Proofs.YtloloifngbmibaaGreatDoor
set_option linter.unusedVariables false
set_option linter.unusedSimpArgs false
set_option maxRecDepth 4000
namespace Go.Proofs.YtloloifngbmibaaGreatDoor
open Go.RowKit

/-- What is known of a value that comes in. -/
structure InH (t : Tr) : Prop where
  by_ : ByL t.mag
  ml : t.mag.length ≤ 9223372036854775807
  b : 0 ≤ t.bits ∧ t.bits < 18446744073709551616
  kl : t.kids.length ≤ 9223372036854775807
  tx : t.text.size ≤ 9223372036854775807
def InT : Nat → Tr → Prop
  | 0, t => InH t
  | d + 1, t => InH t ∧ ∀ u ∈ t.kids, InT d u
theorem InT.head : ∀ {d : Nat} {t : Tr}, InT d t → InH t
  | 0, _, h => h
  | _ + 1, _, h => h.1

theorem good_leaf {t : Tr} (g : GoodH t) (hk : t.k < 6) (hl : t.kids = []) : ∀ d, Good d t
  | 0 => ⟨g, hk, hl⟩
  | d + 1 => ⟨g, fun _ => hl, (fun u hu => by rw [hl] at hu; cases hu), (fun h => by omega), (fun h => by omega)⟩
theorem leaf_up {L M B d : Nat} {t : Tr} {x : Vc} {W : World} (h : HVQ L M B 1 t x W) (hl : t.kids = []) : HVQ L M B (d + 1) t x W := by
  obtain ⟨S, ⟨h1, A, c, xs, e1, e2, e3, hr, hx⟩, h2⟩ := h
  exact ⟨S, ⟨h1, A, c, xs, e1, e2, e3, hr, fun i y u hy hu => by rw [hl] at hu; simp at hu⟩, h2⟩

def CleanOut (d : Nat) (w : World) (e : Ending) (w' : World) : Prop := ∃ t' y, e = .returned (Vc.agg y) ∧ Good d t' ∧ HVB w.heap.size (d + 1) t' y w' ∧ Below w.heap.size w w'

theorem ext_size (s : ByteArray) : (s.extract 0 (min (s.size : Int) 60).toNat).size ≤ 60 := by
  rw [ByteArray.size_extract]
  omega

theorem leaf_out {d : Nat} {w w' : World} (k : Int) (b : Int) (s : ByteArray) (hk : 0 ≤ k ∧ k < 6) (hb : 0 ≤ b ∧ b < 18446744073709551616) (h1 : k = 1 → b = 0 ∨ b = 1) (hs : s.size ≤ 60) (h4 : k ≠ 4 → k ≠ 5 → s = noText) (h5 : k ≠ 1 → k ≠ 3 → b = 0) (hl : Below w.heap.size w w') :
    CleanOut d w (.returned (.agg #[.int .i64 k, .bool false, .slice none 0 0, .int .u64 b, .string s, .slice none 0 0])) w' := by
  refine ⟨⟨k, false, [], b, s, []⟩, ⟨k, false, .slice none 0 0, b, s, .slice none 0 0⟩, rfl, ?_, ?_, hl⟩
  · refine good_leaf (t := ⟨k, false, [], b, s, []⟩) ⟨⟨hk.1, (by show k ≤ 9; omega)⟩, ByL.nil, Nat.zero_le _, .inl rfl, (fun h => by have h : false = true := h; cases h), hb, h1, hs, h4, Nat.zero_le _, (fun _ => ⟨rfl, rfl⟩), h5⟩ hk.2 rfl d
  · exact leaf_up (leafV (SlV.nil w' (fun _ => False) .u8) b s false (fun _ h => h.elim)) rfl

theorem clean_any : ∀ (d : Nat) {t : Tr} {x : Vc} {w : World}, d ≤ 100 → HV d t x w → InT d t → Calls Tryz.prog 16 #[x.agg, .int .i64 (d : Int)] w (CleanOut d w) := by
  -- the leaves
  have leaf : ∀ (d : Nat) {t : Tr} {x : Vc} {w : World}, HV d t x w → InH t → (kd t.k < 6 ∨ (d : Int) ≤ 0) → Calls Tryz.prog 16 #[x.agg, .int .i64 (d : Int)] w (CleanOut d w) := by
    intro d t x w h g hkd
    obtain ⟨S, h1, h2⟩ := h
    obtain ⟨A', nq, cq, hq, _⟩ := h1.kidsV
    obtain ⟨e1, e2, e3, e4, A, cm, em, hcm, hr⟩ := h1.head
    obtain ⟨k, n, m, b, s, q⟩ := x
    simp only at e1 e2 e3 e4 em hq
    subst e1 e2 e3 e4 em hq
    have bd := kd_bd t.k
    have hcase : (kd t.k = 0 ∨ (kd t.k = 6 ∧ (d : Int) ≤ 0)) ∨ (kd t.k = 1 ∨ (kd t.k = 7 ∧ (d : Int) ≤ 0)) ∨ (kd t.k = 2 ∨ (kd t.k = 8 ∧ (d : Int) ≤ 0)) ∨ (kd t.k = 3 ∨ (kd t.k = 9 ∧ (d : Int) ≤ 0)) ∨ (kd t.k = 4 ∨ (kd t.k = 10 ∧ (d : Int) ≤ 0)) ∨ (kd t.k = 5 ∨ (kd t.k = 11 ∧ (d : Int) ≤ 0)) := by omega
    rcases hcase with hp | hp | hp | hp | hp | hp
    · refine (cln0 t.k t.neg A A' t.mag.length cm nq cq t.bits t.text d _ rfl hp w).mono ?_
      rintro e w' ⟨rfl, hl⟩
      exact leaf_out 0 0 ⟨#[]⟩ (by decide) (by decide) (by decide) (by decide) (fun _ _ => rfl) (fun _ _ => rfl) hl
    · refine (cln1 t.k t.neg A A' t.mag.length cm nq cq t.bits t.text d _ rfl hp g.b w).mono ?_
      rintro e w' ⟨bb, rfl, hl⟩
      refine leaf_out 1 _ ⟨#[]⟩ (by decide) ?_ ?_ (by decide) (fun _ _ => rfl) (fun h => absurd rfl h) hl
      · cases bb <;> decide
      · cases bb <;> simp
    · refine (cln2i t.k t.neg A A' t.mag cm nq cq t.bits t.text d _ rfl hp S w hcm g.ml hr h2 g.by_).mono ?_
      rintro e w' ⟨y, rfl, hV, hl⟩
      refine ⟨_, y, rfl, good_leaf (t := CutI t.neg t.mag) ?_ (show (2 : Int) < 6 by decide) rfl d, leaf_up hV rfl, hl⟩
      refine ⟨⟨show (0 : Int) ≤ 2 by decide, show (2 : Int) ≤ 9 by decide⟩, (g.by_.take 40).strip, Nat.le_trans (strip_len _) (by rw [List.length_take]; omega), strip_lead _, ?_, ⟨Int.le_refl 0, show (0 : Int) < 18446744073709551616 by decide⟩, (fun h => absurd (show (2 : Int) = 1 from h) (by decide)), Nat.zero_le _, (fun _ _ => rfl), Nat.zero_le _, (fun h => absurd rfl h), (fun _ _ => rfl)⟩
      intro hn hm
      have hn' : sgn2 t.neg (strip (t.mag.take 40)) = true := hn
      have hm' : strip (t.mag.take 40) = [] := hm
      rw [hm'] at hn'
      simp [sgn2] at hn'
    · refine (cln3 t.k t.neg A A' t.mag.length cm nq cq t.bits t.text d _ rfl hp w).mono ?_
      rintro e w' ⟨rfl, hl⟩
      exact leaf_out 3 _ ⟨#[]⟩ (by decide) g.b (fun h => absurd h (by decide)) (by decide) (fun _ _ => rfl) (fun _ h => absurd rfl h) hl
    · refine (cln4 t.k t.neg A A' t.mag.length cm nq cq t.bits t.text d _ rfl hp g.tx w).mono ?_
      rintro e w' ⟨rfl, hl⟩
      exact leaf_out 4 0 _ (by decide) (by decide) (fun h => absurd h (by decide)) (ext_size _) (fun h => absurd rfl h) (fun _ _ => rfl) hl
    · refine (cln5 t.k t.neg A A' t.mag.length cm nq cq t.bits t.text d _ rfl hp g.tx w).mono ?_
      rintro e w' ⟨rfl, hl⟩
      exact leaf_out 5 0 _ (by decide) (by decide) (fun h => absurd h (by decide)) (ext_size _) (fun _ h => absurd rfl h) (fun _ _ => rfl) hl
  intro d
  induction d with
  | zero =>
    intro t x w _ h g
    exact leaf 0 h g (.inr (Int.le_refl 0))
  | succ d ih =>
    intro t x w hd h g
    by_cases hk : kd t.k < 6
    · exact leaf (d + 1) h g.1 (.inl hk)
    · have bd := kd_bd t.k
      have gh := g.1
      obtain ⟨A', cq, hq, _, hks⟩ := h.kids
      obtain ⟨S, h1, h2⟩ := id h
      obtain ⟨e1, e2, e3, e4, A, cm, em, hcm, hr⟩ := h1.head
      obtain ⟨k, n, m, b, s, q⟩ := x
      simp only at e1 e2 e3 e4 em hq
      subst e1 e2 e3 e4 em hq
      have hdp : ¬ ((d + 1 : Nat) : Int) ≤ 0 := by omega
      have hdp2 : ((d + 1 : Nat) : Int) ≤ 100 := by omega
      have hdd : ((d + 1 : Nat) : Int) - 1 = (d : Int) := by omega
      have HK : ∀ N, N ≤ t.kids.length → KidMk 0 0 16 (fun u => #[u.agg, .int .i64 (((d + 1 : Nat) : Int) - 1)]) (d + 1) (fun _ t => Good d t) A' N w := by
        intro N hN i hi W hW
        obtain ⟨y, u, hu, hy, hya⟩ := (hks.up hW).at_ (i := i) (by omega)
        refine ⟨y, hya, ?_⟩
        rw [hdd]
        refine (ih (by omega) hy (g.2 u (List.mem_of_getElem? hu))).mono ?_
        rintro e w' ⟨t', y', rfl, a1, a2, a3⟩
        exact ⟨t', y', rfl, a1, a2, a3⟩
      have mk : ∀ (K : Int) (ts : List Tr), 6 ≤ K ∧ K ≤ 9 → ts.length ≤ 16 → (∀ u ∈ ts, Good d u) → (K = 8 → KeysT d 2 ts ∧ ts.length % 2 = 0 ∧ Dist d 2 ts) → (K = 9 → KeysT d 1 ts ∧ ts.length ≤ 8 ∧ Dist d 1 ts) → Good (d + 1) ⟨K, false, [], 0, ⟨#[]⟩, ts⟩ := fun K ts hK hl hg h8 h9 =>
        ⟨⟨⟨show 0 ≤ K by omega, hK.2⟩, ByL.nil, Nat.zero_le _, .inl rfl, (fun h => by have h : false = true := h; cases h), ⟨Int.le_refl 0, show (0 : Int) < 18446744073709551616 by decide⟩, (fun h => by have h : K = 1 := h; omega), Nat.zero_le _, (fun _ _ => rfl), hl, (fun _ => ⟨rfl, rfl⟩), (fun _ _ => rfl)⟩, (fun h => by have h : K < 6 := h; omega), hg, h8, h9⟩
      have hall : ∀ {ts : List Tr}, (∀ i u, ts[i]? = some u → Good d u) → ∀ u ∈ ts, Good d u := fun h u hu => by
        obtain ⟨i, hi⟩ := List.getElem?_of_mem hu
        exact h i u hi
      have hcase : kd t.k = 6 ∨ kd t.k = 7 ∨ kd t.k = 8 ∨ kd t.k = 9 := by omega
      rcases hcase with hp | hp | hp | hp
      · refine (cln_core6 (d + 1) (fun _ t => Good d t) 6 t.k t.neg A t.mag.length cm t.bits t.text A' t.kids.length cq gh.kl _ hp rfl hdp hdp2 w (HK _ (Nat.min_le_left _ _))).mono ?_
        rintro e w' ⟨ts, y, rfl, hl, hR, hV, hb⟩
        exact ⟨_, y, rfl, mk 6 ts (by decide) (by omega) (hall hR) (fun h => absurd h (by decide)) (fun h => absurd h (by decide)), hV, hb⟩
      · refine (cln_core7 (d + 1) (fun _ t => Good d t) 7 t.k t.neg A t.mag.length cm t.bits t.text A' t.kids.length cq gh.kl _ hp rfl hdp hdp2 w (HK _ (Nat.min_le_left _ _))).mono ?_
        rintro e w' ⟨ts, y, rfl, hl, hR, hV, hb⟩
        exact ⟨_, y, rfl, mk 7 ts (by decide) (by omega) (hall hR) (fun h => absurd h (by decide)) (fun h => absurd h (by decide)), hV, hb⟩
      · refine (cln8 (d + 2) (Good (d + 1)) t.k t.neg A A' t.mag.length cm t.kids.length cq t.bits t.text _ hp hdp w (fun W hW => ?_)).mono ?_
        · refine (cdict_core d t.k t.neg A t.mag.length cm t.bits t.text A' t.kids.length cq gh.kl _ hdp hdp2 W (fun i hi W' hW' => HK _ (Nat.min_le_left _ _) i hi W' (below_up hW hW'))).mono ?_
          rintro e w' ⟨ts, y, rfl, hl, hev, hg, hkk, hdi, hV, hb⟩
          exact ⟨_, y, rfl, mk 8 ts (by decide) hl hg (fun _ => ⟨fun i u hi hu => (hkk i u hi hu).2, hev, hdi⟩) (fun h => absurd h (by decide)), hV, hb⟩
        · rintro e w' ⟨t', y, rfl, hT, hV, hb⟩
          exact ⟨t', y, rfl, hT, hV, hb⟩
      · refine (cln9 (d + 2) (Good (d + 1)) t.k t.neg A A' t.mag.length cm t.kids.length cq t.bits t.text _ hp hdp w (fun W hW => ?_)).mono ?_
        · refine (cset_core d t.k t.neg A t.mag.length cm t.bits t.text A' t.kids.length cq gh.kl _ hdp hdp2 W (fun i hi W' hW' => HK _ (Nat.min_le_left _ _) i hi W' (below_up hW hW'))).mono ?_
          rintro e w' ⟨ts, y, rfl, hl, hg, hdi, hV, hb⟩
          exact ⟨_, y, rfl, mk 9 ts (by decide) (by omega) (fun u hu => (hg u hu).1) (fun h => absurd h (by decide)) (fun _ => ⟨fun i u hi hu => (hg u (List.mem_of_getElem? hu)).2, hl, hdi⟩), hV, hb⟩
        · rintro e w' ⟨t', y, rfl, hT, hV, hb⟩
          exact ⟨t', y, rfl, hT, hV, hb⟩
end Go.Proofs.YtloloifngbmibaaGreatDoor
