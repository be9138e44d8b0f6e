/- The reference's Clean: lists, tuples. The reference's cleanSet. -/
import Derived.Test.YtloloifngbmibaaGreatDoorM21
set_option linter.unusedVariables false
set_option linter.unusedSimpArgs false
set_option maxRecDepth 4000
namespace Go.Proofs.YtloloifngbmibaaGreatDoor
open Go.RowKit

set_option maxHeartbeats 2000000 in
theorem cln_core6 (d : Nat) (R : Nat → Tr → Prop) (K k : Int) (ng : Bool) (Am : Option Addr) (nm cm : Nat) (b : Int) (s : ByteArray) (A : Option Addr) (n c : Nat) (hn : n ≤ 9223372036854775807) (dp : Int) (e : kd k = K) (hK : K = 6) (hd : ¬ dp ≤ 0) (hdp : dp ≤ 100) (w : World)
    (HK : KidMk 0 0 16 (fun u => #[u.agg, .int .i64 (dp - 1)]) d R A (min n 8) w) :
    Calls Tryz.prog 16 #[.agg #[.int .i64 k, .bool ng, .slice Am nm cm, .int .u64 b, .string s, .slice A n c], .int .i64 dp] w fun e w' => ∃ ts y, e = .returned (Vc.agg y) ∧ ts.length = min n 8 ∧ (∀ i u, ts[i]? = some u → R i u) ∧ HVB w.heap.size (d + 1) ⟨K, false, [], 0, ⟨#[]⟩, ts⟩ y w' ∧ Below w.heap.size w w' := by
  have HH := Lib.hid HK
  have h0 := Lib.hid (MkS.start 0 0 w ⟨k, ng, .slice Am nm cm, b, s, .slice A n c⟩ K d (Nat.zero_le _))
  clear HK
  obtain ⟨n8, hn8⟩ : ∃ n8, n8 = min n 8 := ⟨_, rfl⟩
  rw [← hn8] at HH ⊢
  have HN8 := Lib.hid hn8
  clear hn8
  have hw : IntKind.i64.wrap (dp - 1) = dp - 1 := by rw [IntKind.wrap_i64]; omega
  have f0 := beq_no (show ¬ K = 0 by omega)
  have f1 := beq_no (show ¬ K = 1 by omega)
  have f2 := beq_no (show ¬ K = 2 by omega)
  have f3 := beq_no (show ¬ K = 3 by omega)
  have f4 := beq_no (show ¬ K = 4 by omega)
  have f5 := beq_no (show ¬ K = 5 by omega)
  have f6 := beq_yes hK
  clear hK
  go_enter Tryz.func16, Tryz.ntmps16
  go_upto_region 2 with fail
  rw [show (wrap64 (k.tmod 10 + 10)).tmod 10 = _ from e]
  clear e
  go_wp2
  go_loopw [7] (fun iv wr => ∃ (i : Nat) (v : Value) (ts : List Tr), iv = .int .i64 i ∧ i ≤ n8 ∧ Hid (ts.length = i ∧ ∀ j u, ts[j]? = some u → R j u) ∧ Hid (MkS 0 0 w ⟨k, ng, .slice Am nm cm, b, s, .slice A n c⟩ K d v ts wr)) (fun iv _ => n8 - (intOf iv).toNat)
  case atStart => exact ⟨0, _, [], rfl, Nat.zero_le _, Lib.hid ⟨rfl, fun j u h => by simp at h⟩, h0⟩
  case round =>
    obtain ⟨i, v, ts, rfl, hi, hT, hM⟩ := hrel
    have b5 := hM.out.bx.cell 5
    have lb := hM.out.bx.lt
    simp at b5
    by_cases hlt : i < n8
    · have hin : i < n := by have := HN8.out; omega
      have hi8 : i < 8 := by have := HN8.out; omega
      obtain ⟨u, ⟨b1, o1, rfl, hu⟩, hc⟩ := HH.out i hlt wr.drew hM.out.lo.drew
      have HC := Lib.hid hc
      have HME := Lib.hid (ms_lt hlt)
      have HSI := Lib.hid (Nat.succ_le_of_lt hlt)
      have w1k := Lib.hid (wr_suc i (by have := HN8.out; omega))
      have HU := Lib.hid (show Six wr.drew b1 (o1 + i * 6) u from hu)
      have HMd := Lib.hid hM.out.drew
      have l3 := hM.out.ob.lt
      obtain ⟨Av, cv, hv, hrest⟩ := hM.out.row.form
      clear hrest
      subst hv
      have o5 : wr.drew.cell? ⟨w.heap.size + 2, 5, none⟩ = some (.slice Av ts.length cv) := hM.out.ob.cell 5
      clear hc hu
      have HO := Lib.hid hM.out.row.ownLt
      have HBL : Hid (b1 < w.heap.size) := Lib.hid (by
        obtain ⟨u', ⟨b1', o1', e, hu', _⟩, _⟩ := HH.out i hlt w (Below.refl _ _)
        injection e with e
        injection e with e1 e2
        subst e1
        exact World.block_lt_of_cell? w _ hu')
      have HLN : Hid (ts.length + 1 ≤ 1000) := Lib.hid (by have := hT.out.1; have := HN8.out; omega)
      clear HH h0 hM hi hlt lb hn
      go_wp2_with fail
      have HK0 := Lib.hid (show KidC w (.slice (some ⟨b1, o1, none⟩) n c) b1 (o1 + i * 6) u wr.drew from ⟨b5, HU.out⟩)
      rw [show Op.load 24 (.tmp 75) = ldAs 24 (.tmp 75) from rfl]
      go_region_held3 (fun W => KidC w (.slice (some ⟨b1, o1, none⟩) n c) b1 (o1 + i * 6) u W)
        (first | assumption | exact HK0.out | exact (‹KidC _ _ _ _ _ _›).up ‹Below _ _ _› | exact HK0.out.up ‹Below _ _ _› | exact (‹KidC _ _ _ _ _ _›).al _ | exact (‹KidC _ _ _ _ _ _›).lo ‹Below (w.heap.size + 3) _ _› HBL.out | exact KidC.lo (KidC.up HK0.out ‹Below _ _ w1›) ‹Below (w.heap.size + 3) _ _› HBL.out | exact (‹KidC _ _ _ _ _ _›).st HBL.out _ _)
        (first
          | (go_at_call 16; (with_reducible refine HC.out.mono ?_); rintro e w1 ⟨t, y, rfl, hRt, hy, hb1⟩; obtain ⟨yk, yn, yA, yl, yc, yb, ys, qA, ql, qc, rfl⟩ := hy.shape; have HM1 := Lib.hid (HMd.out.up hb1); have o5' := HM1.out.ob.cell 5; have l3' := HM1.out.ob.lt; have HY := Lib.hid hy; have HR := Lib.hid hRt; simp at o5')
          | (refine step_push1 w1 HM1.out t _ HY.out (fun g hg => HO.out g hg) HMd.out.ob.lt HLN.out 26 rfl _ _ rfl (by rfl) (by rfl) ?_; rintro v' w2 hr hb3 ⟨A', c', rfl⟩; have HR2 := Lib.hid hr; have HB3 := Lib.hid hb3; have hob := HM1.out.ob.below hb3 (Nat.lt_succ_self _); have l4 := hob.lt; have p5 := hob.cell 5; have q5 := hob.frozen 5; simp at p5))
      all_goals
        have HM2 := Lib.hid (HM1.out.push HB3.out HR2.out)
        have HT2 : Hid ((ts ++ [t]).length = i + 1 ∧ ∀ j u, (ts ++ [t])[j]? = some u → R j u) := Lib.hid ⟨by simp [hT.out.1], fun j u hj => by
          by_cases hlt : j < ts.length
          · rw [List.getElem?_append_left hlt] at hj
            exact hT.out.2 j u hj
          · have hje : j = ts.length := by
              have := (List.getElem?_eq_some_iff.1 hj).1
              simp at this
              omega
            subst hje
            simp at hj
            subst hj
            rw [hT.out.1]
            exact HR.out⟩
        clear p5 q5 l4 hob o5' l3' hb3 hr HM1 HY HR HR2 HB3 o5 b5
        go_wp2
        go_roundw
        case rel => exact ⟨i + 1, _, _, by first | rfl | (rw [w1k.out]; rfl), HSI.out, HT2, HM2⟩
        case measure => first | exact HME.out | (rw [w1k.out]; exact HME.out)
    · have hie : i = n8 := Nat.le_antisymm hi (Nat.not_lt.1 hlt)
      subst hie
      have hc : i < n → ¬ i < 8 := by have := HN8.out; omega
      obtain ⟨Av, cv, hv, hrest⟩ := hM.out.row.form
      clear hrest
      subst hv
      have k0 := hM.out.ob.cell 0
      have k1 := hM.out.ob.cell 1
      have k2 := hM.out.ob.cell 2
      have k3 := hM.out.ob.cell 3
      have k4 := hM.out.ob.cell 4
      have k5 := hM.out.ob.cell 5
      have r0 := hM.out.rs.cell 0
      have r1 := hM.out.rs.cell 1
      have r2 := hM.out.rs.cell 2
      have r3 := hM.out.rs.cell 3
      have r4 := hM.out.rs.cell 4
      have r5 := hM.out.rs.cell 5
      have z0 := hM.out.rs.frozen 0
      have z1 := hM.out.rs.frozen 1
      have z2 := hM.out.rs.frozen 2
      have z3 := hM.out.rs.frozen 3
      have z4 := hM.out.rs.frozen 4
      have z5 := hM.out.rs.frozen 5
      have lr := hM.out.rs.lt
      simp at k0 k1 k2 k3 k4 k5 r0 r1 r2 r3 r4 r5
      clear HH h0 hlt hi hn lb
      have hcc : ¬ (i < n ∧ i < 8) := fun h => hc h.1 h.2
      have hc2 : n ≤ i ∨ (i < n ∧ 8 ≤ i) := by omega
      clear hc hcc
      have hV := (hM.out.row.val K trivial)
      have hm1 : 0 ≤ w.heap.size + 1 := Nat.zero_le _
      have hm2 : w.heap.size + 1 < w.heap.size + 3 := by omega
      have HRS := Lib.hid hM.out.rs
      have HV := Lib.hid (((((((hV.set (p := ⟨w.heap.size + 1, 0, none⟩) hm1 hm2 (.int .i64 K)).set (p := ⟨w.heap.size + 1, 1, none⟩) hm1 hm2 (.bool false)).set (p := ⟨w.heap.size + 1, 2, none⟩) hm1 hm2 (.slice none 0 0)).set (p := ⟨w.heap.size + 1, 3, none⟩) hm1 hm2 (.int .u64 0)).set (p := ⟨w.heap.size + 1, 4, none⟩) hm1 hm2 (.string ⟨#[]⟩)).set (p := ⟨w.heap.size + 1, 5, none⟩) hm1 hm2 (.slice Av ts.length cv)).low (L' := 0) (M' := 0) (B' := w.heap.size) (fun k hk => hk.imp id (fun h => Nat.le_trans (Nat.le_add_right _ _) h)))
      have HL := Lib.hid (low6 hM.out.lo (w.heap.size + 1) (Nat.le_add_right _ _) (.int .i64 K) (.bool false) (.slice none 0 0) (.int .u64 0) (.string ⟨#[]⟩) (.slice Av ts.length cv))
      clear hM hV hm1 hm2 hdp hw f0 f1 f2 f3 f4 f5
      (try clear f7)
      clear f6
      rcases hc2 with hc3 | ⟨hc3, hc4⟩
      all_goals
       go_wp2
       clear r0 r1 r2 r3 r4 r5 k0 k1 k2 k3 k4 k5 b5
       have HF := Lib.hid (set6 HRS.out (.int .i64 K) (.bool false) (.slice none 0 0) (.int .u64 0) (.string ⟨#[]⟩) (.slice Av ts.length cv))
       have q0 := HF.out.cell 0
       have q1 := HF.out.cell 1
       have q2 := HF.out.cell 2
       have q3 := HF.out.cell 3
       have q4 := HF.out.cell 4
       have q5 := HF.out.cell 5
       simp at q0 q1 q2 q3 q4 q5
       exact bodyPost_ret (v := .agg #[.int .i64 K, .bool false, .slice none 0 0, .int .u64 0, .string ⟨#[]⟩, .slice Av ts.length cv]) (by simp [results, Tryz.results16, go_sem, q0, q1, q2, q3, q4, q5]) rfl ⟨ts, ⟨K, false, .slice none 0 0, 0, ⟨#[]⟩, .slice Av ts.length cv⟩, rfl, hT.out.1, hT.out.2, HV.out, HL.out⟩

set_option maxHeartbeats 2000000 in
theorem cln_core7 (d : Nat) (R : Nat → Tr → Prop) (K k : Int) (ng : Bool) (Am : Option Addr) (nm cm : Nat) (b : Int) (s : ByteArray) (A : Option Addr) (n c : Nat) (hn : n ≤ 9223372036854775807) (dp : Int) (e : kd k = K) (hK : K = 7) (hd : ¬ dp ≤ 0) (hdp : dp ≤ 100) (w : World)
    (HK : KidMk 0 0 16 (fun u => #[u.agg, .int .i64 (dp - 1)]) d R A (min n 8) w) :
    Calls Tryz.prog 16 #[.agg #[.int .i64 k, .bool ng, .slice Am nm cm, .int .u64 b, .string s, .slice A n c], .int .i64 dp] w fun e w' => ∃ ts y, e = .returned (Vc.agg y) ∧ ts.length = min n 8 ∧ (∀ i u, ts[i]? = some u → R i u) ∧ HVB w.heap.size (d + 1) ⟨K, false, [], 0, ⟨#[]⟩, ts⟩ y w' ∧ Below w.heap.size w w' := by
  have HH := Lib.hid HK
  have h0 := Lib.hid (MkS.start 0 0 w ⟨k, ng, .slice Am nm cm, b, s, .slice A n c⟩ K d (Nat.zero_le _))
  clear HK
  obtain ⟨n8, hn8⟩ : ∃ n8, n8 = min n 8 := ⟨_, rfl⟩
  rw [← hn8] at HH ⊢
  have HN8 := Lib.hid hn8
  clear hn8
  have hw : IntKind.i64.wrap (dp - 1) = dp - 1 := by rw [IntKind.wrap_i64]; omega
  have f0 := beq_no (show ¬ K = 0 by omega)
  have f1 := beq_no (show ¬ K = 1 by omega)
  have f2 := beq_no (show ¬ K = 2 by omega)
  have f3 := beq_no (show ¬ K = 3 by omega)
  have f4 := beq_no (show ¬ K = 4 by omega)
  have f5 := beq_no (show ¬ K = 5 by omega)
  have f6 := beq_no (show ¬ K = 6 by omega)
  have f7 := beq_yes hK
  clear hK
  go_enter Tryz.func16, Tryz.ntmps16
  go_upto_region 2 with fail
  rw [show (wrap64 (k.tmod 10 + 10)).tmod 10 = _ from e]
  clear e
  go_wp2
  go_loopw [7] (fun iv wr => ∃ (i : Nat) (v : Value) (ts : List Tr), iv = .int .i64 i ∧ i ≤ n8 ∧ Hid (ts.length = i ∧ ∀ j u, ts[j]? = some u → R j u) ∧ Hid (MkS 0 0 w ⟨k, ng, .slice Am nm cm, b, s, .slice A n c⟩ K d v ts wr)) (fun iv _ => n8 - (intOf iv).toNat)
  case atStart => exact ⟨0, _, [], rfl, Nat.zero_le _, Lib.hid ⟨rfl, fun j u h => by simp at h⟩, h0⟩
  case round =>
    obtain ⟨i, v, ts, rfl, hi, hT, hM⟩ := hrel
    have b5 := hM.out.bx.cell 5
    have lb := hM.out.bx.lt
    simp at b5
    by_cases hlt : i < n8
    · have hin : i < n := by have := HN8.out; omega
      have hi8 : i < 8 := by have := HN8.out; omega
      obtain ⟨u, ⟨b1, o1, rfl, hu⟩, hc⟩ := HH.out i hlt wr.drew hM.out.lo.drew
      have HC := Lib.hid hc
      have HME := Lib.hid (ms_lt hlt)
      have HSI := Lib.hid (Nat.succ_le_of_lt hlt)
      have w1k := Lib.hid (wr_suc i (by have := HN8.out; omega))
      have HU := Lib.hid (show Six wr.drew b1 (o1 + i * 6) u from hu)
      have HMd := Lib.hid hM.out.drew
      have l3 := hM.out.ob.lt
      obtain ⟨Av, cv, hv, hrest⟩ := hM.out.row.form
      clear hrest
      subst hv
      have o5 : wr.drew.cell? ⟨w.heap.size + 2, 5, none⟩ = some (.slice Av ts.length cv) := hM.out.ob.cell 5
      clear hc hu
      have HO := Lib.hid hM.out.row.ownLt
      have HBL : Hid (b1 < w.heap.size) := Lib.hid (by
        obtain ⟨u', ⟨b1', o1', e, hu', _⟩, _⟩ := HH.out i hlt w (Below.refl _ _)
        injection e with e
        injection e with e1 e2
        subst e1
        exact World.block_lt_of_cell? w _ hu')
      have HLN : Hid (ts.length + 1 ≤ 1000) := Lib.hid (by have := hT.out.1; have := HN8.out; omega)
      clear HH h0 hM hi hlt lb hn
      go_wp2_with fail
      have HK0 := Lib.hid (show KidC w (.slice (some ⟨b1, o1, none⟩) n c) b1 (o1 + i * 6) u wr.drew from ⟨b5, HU.out⟩)
      rw [show Op.load 24 (.tmp 75) = ldAs 24 (.tmp 75) from rfl]
      go_region_held3 (fun W => KidC w (.slice (some ⟨b1, o1, none⟩) n c) b1 (o1 + i * 6) u W)
        (first | assumption | exact HK0.out | exact (‹KidC _ _ _ _ _ _›).up ‹Below _ _ _› | exact HK0.out.up ‹Below _ _ _› | exact (‹KidC _ _ _ _ _ _›).al _ | exact (‹KidC _ _ _ _ _ _›).lo ‹Below (w.heap.size + 3) _ _› HBL.out | exact KidC.lo (KidC.up HK0.out ‹Below _ _ w1›) ‹Below (w.heap.size + 3) _ _› HBL.out | exact (‹KidC _ _ _ _ _ _›).st HBL.out _ _)
        (first
          | (go_at_call 16; (with_reducible refine HC.out.mono ?_); rintro e w1 ⟨t, y, rfl, hRt, hy, hb1⟩; obtain ⟨yk, yn, yA, yl, yc, yb, ys, qA, ql, qc, rfl⟩ := hy.shape; have HM1 := Lib.hid (HMd.out.up hb1); have o5' := HM1.out.ob.cell 5; have l3' := HM1.out.ob.lt; have HY := Lib.hid hy; have HR := Lib.hid hRt; simp at o5')
          | (refine step_push1 w1 HM1.out t _ HY.out (fun g hg => HO.out g hg) HMd.out.ob.lt HLN.out 26 rfl _ _ rfl (by rfl) (by rfl) ?_; rintro v' w2 hr hb3 ⟨A', c', rfl⟩; have HR2 := Lib.hid hr; have HB3 := Lib.hid hb3; have hob := HM1.out.ob.below hb3 (Nat.lt_succ_self _); have l4 := hob.lt; have p5 := hob.cell 5; have q5 := hob.frozen 5; simp at p5))
      all_goals
        have HM2 := Lib.hid (HM1.out.push HB3.out HR2.out)
        have HT2 : Hid ((ts ++ [t]).length = i + 1 ∧ ∀ j u, (ts ++ [t])[j]? = some u → R j u) := Lib.hid ⟨by simp [hT.out.1], fun j u hj => by
          by_cases hlt : j < ts.length
          · rw [List.getElem?_append_left hlt] at hj
            exact hT.out.2 j u hj
          · have hje : j = ts.length := by
              have := (List.getElem?_eq_some_iff.1 hj).1
              simp at this
              omega
            subst hje
            simp at hj
            subst hj
            rw [hT.out.1]
            exact HR.out⟩
        clear p5 q5 l4 hob o5' l3' hb3 hr HM1 HY HR HR2 HB3 o5 b5
        go_wp2
        go_roundw
        case rel => exact ⟨i + 1, _, _, by first | rfl | (rw [w1k.out]; rfl), HSI.out, HT2, HM2⟩
        case measure => first | exact HME.out | (rw [w1k.out]; exact HME.out)
    · have hie : i = n8 := Nat.le_antisymm hi (Nat.not_lt.1 hlt)
      subst hie
      have hc : i < n → ¬ i < 8 := by have := HN8.out; omega
      obtain ⟨Av, cv, hv, hrest⟩ := hM.out.row.form
      clear hrest
      subst hv
      have k0 := hM.out.ob.cell 0
      have k1 := hM.out.ob.cell 1
      have k2 := hM.out.ob.cell 2
      have k3 := hM.out.ob.cell 3
      have k4 := hM.out.ob.cell 4
      have k5 := hM.out.ob.cell 5
      have r0 := hM.out.rs.cell 0
      have r1 := hM.out.rs.cell 1
      have r2 := hM.out.rs.cell 2
      have r3 := hM.out.rs.cell 3
      have r4 := hM.out.rs.cell 4
      have r5 := hM.out.rs.cell 5
      have z0 := hM.out.rs.frozen 0
      have z1 := hM.out.rs.frozen 1
      have z2 := hM.out.rs.frozen 2
      have z3 := hM.out.rs.frozen 3
      have z4 := hM.out.rs.frozen 4
      have z5 := hM.out.rs.frozen 5
      have lr := hM.out.rs.lt
      simp at k0 k1 k2 k3 k4 k5 r0 r1 r2 r3 r4 r5
      clear HH h0 hlt hi hn lb
      have hcc : ¬ (i < n ∧ i < 8) := fun h => hc h.1 h.2
      have hc2 : n ≤ i ∨ (i < n ∧ 8 ≤ i) := by omega
      clear hc hcc
      have hV := (hM.out.row.val K trivial)
      have hm1 : 0 ≤ w.heap.size + 1 := Nat.zero_le _
      have hm2 : w.heap.size + 1 < w.heap.size + 3 := by omega
      have HRS := Lib.hid hM.out.rs
      have HV := Lib.hid (((((((hV.set (p := ⟨w.heap.size + 1, 0, none⟩) hm1 hm2 (.int .i64 K)).set (p := ⟨w.heap.size + 1, 1, none⟩) hm1 hm2 (.bool false)).set (p := ⟨w.heap.size + 1, 2, none⟩) hm1 hm2 (.slice none 0 0)).set (p := ⟨w.heap.size + 1, 3, none⟩) hm1 hm2 (.int .u64 0)).set (p := ⟨w.heap.size + 1, 4, none⟩) hm1 hm2 (.string ⟨#[]⟩)).set (p := ⟨w.heap.size + 1, 5, none⟩) hm1 hm2 (.slice Av ts.length cv)).low (L' := 0) (M' := 0) (B' := w.heap.size) (fun k hk => hk.imp id (fun h => Nat.le_trans (Nat.le_add_right _ _) h)))
      have HL := Lib.hid (low6 hM.out.lo (w.heap.size + 1) (Nat.le_add_right _ _) (.int .i64 K) (.bool false) (.slice none 0 0) (.int .u64 0) (.string ⟨#[]⟩) (.slice Av ts.length cv))
      clear hM hV hm1 hm2 hdp hw f0 f1 f2 f3 f4 f5
      (try clear f7)
      clear f6
      rcases hc2 with hc3 | ⟨hc3, hc4⟩
      all_goals
       go_wp2
       clear r0 r1 r2 r3 r4 r5 k0 k1 k2 k3 k4 k5 b5
       have HF := Lib.hid (set6 HRS.out (.int .i64 K) (.bool false) (.slice none 0 0) (.int .u64 0) (.string ⟨#[]⟩) (.slice Av ts.length cv))
       have q0 := HF.out.cell 0
       have q1 := HF.out.cell 1
       have q2 := HF.out.cell 2
       have q3 := HF.out.cell 3
       have q4 := HF.out.cell 4
       have q5 := HF.out.cell 5
       simp at q0 q1 q2 q3 q4 q5
       exact bodyPost_ret (v := .agg #[.int .i64 K, .bool false, .slice none 0 0, .int .u64 0, .string ⟨#[]⟩, .slice Av ts.length cv]) (by simp [results, Tryz.results16, go_sem, q0, q1, q2, q3, q4, q5]) rfl ⟨ts, ⟨K, false, .slice none 0 0, 0, ⟨#[]⟩, .slice Av ts.length cv⟩, rfl, hT.out.1, hT.out.2, HV.out, HL.out⟩
end Go.Proofs.YtloloifngbmibaaGreatDoor
set_option linter.unusedVariables false
set_option linter.unusedSimpArgs false
set_option maxRecDepth 4000
namespace Go.Proofs.YtloloifngbmibaaGreatDoor
open Go.RowKit

theorem HVQ.hvi {L M B B' d : Nat} {t : Tr} {x : Vc} {W : World} (h : HVB B d t x W) (hM : M = W.heap.size) : HVI B M d t x W := by
  obtain ⟨S, h1, h2⟩ := h
  exact ⟨S, h1, fun k hk => ⟨by have := (h2 k hk).1; omega, by rw [hM]; exact (h2 k hk).2⟩⟩
theorem hvb_of {L M d : Nat} {t : Tr} {x : Vc} {W : World} (h : HVQ L M M d t x W) (hL : L ≤ M) : HVB L d t x W := h.low (fun k hk => .inr (by rcases hk with h | h <;> omega))
/-- One Val put behind, at a plain region. -/
theorem wpList_push1 {L M : Nat} {w : World} {x : Vc} {K : Int} {d B1 : Nat} {v : Value} {ts : List Tr} (W1 : World) (hM : MkS L M w x K d v ts W1) (t : Tr) (y : Vc) (hy : HVQ L M B1 d t y W1) (hB1 : ∀ g, v.ownBlock = some g → g < B1) (h3 : w.heap.size + 3 ≤ B1) (hlen : ts.length + 1 ≤ 1000) (T : TypeId)
    {ops : Array Oper} {rest : List Oper} {o : Oper} {a : Act} {Q : Exit → Act → World → Prop} (hgd : o.guard = none) (s z : Operand)
    (ho : o.op = .call { callee := .builtin .append, args := #[s, z], argTypes := #[24, 24] })
    (hs : a.eval s = v) (hz : a.eval z = .slice (some ⟨W1.heap.size, 0, none⟩) 1 1)
    (hK : ∀ v' w', RowV L M (w.heap.size + 3) d v' (ts ++ [t]) w' → Below (w.heap.size + 3) W1 w' → (∃ A c, v' = .slice A (ts.length + 1) c) → wpList Tryz.prog ops Q rest (a.put o.dst v') w') : wpList Tryz.prog ops Q (o :: rest) a (W1.alloc (.cells (VcB y) T)) := by
  refine wpList_plain hgd fun _ hKK => ?_
  have hst := step_push1 (ops := #[o]) (KK := _) (Q := Q) (E := True) W1 hM t y hy hB1 h3 hlen T hgd s z ho hs hz (fun v' w' h1 h2 h3 => hKK _ _ (hK v' w' h1 h2 h3))
  rw [if_pos (by simp [Region.wanted, hgd])] at hst
  exact hst

theorem find1 (d : Nat) {ts : List Tr} {A : Option Addr} {c : Nat} {key : Tr} {x : Vc} {w : World} (hn : ts.length ≤ 1000) (h : HVs (d + 1) ts A w) (hx : HV (d + 1) key x w) (hk : Keys d 1 ts) (g : Good d key) (kt : KeyT d key) :
    Calls Tryz.prog 51 #[.slice A ts.length c, .int .i64 1, x.agg] w (FindOut (Is d ts key) ts.length 1 w) := find_any d 1 (by decide) hn h hx hk g kt
theorem find2 (d : Nat) {ts : List Tr} {A : Option Addr} {c : Nat} {key : Tr} {x : Vc} {w : World} (hn : ts.length ≤ 1000) (h : HVs (d + 1) ts A w) (hx : HV (d + 1) key x w) (hk : Keys d 2 ts) (g : Good d key) (kt : KeyT d key) :
    Calls Tryz.prog 51 #[.slice A ts.length c, .int .i64 2, x.agg] w (FindOut (Is d ts key) ts.length 2 w) := find_any d 2 (by decide) hn h hx hk g kt

theorem dist_push1 {d : Nat} {ts : List Tr} {t2 : Tr} (h : Dist d 1 ts) (hf : ∀ j, j < ts.length → j % 1 = 0 → ¬ Is d ts t2 j) : Dist d 1 (ts ++ [t2]) := by
  intro i j u v hji hi hj hu hv
  have hil : i < ts.length + 1 := by
    have := (List.getElem?_eq_some_iff.1 hu).1
    simpa using this
  have hjl : j < ts.length := by omega
  rw [List.getElem?_append_left hjl] at hv
  by_cases hlt : i < ts.length
  · rw [List.getElem?_append_left hlt] at hu
    exact h i j u v hji hi hj hu hv
  · have hie : i = ts.length := by omega
    subst hie
    simp at hu
    subst hu
    exact fun e => hf j hjl hj ⟨v, hv, e⟩
set_option maxHeartbeats 1000000 in
theorem cset_core (d : Nat) (k : Int) (ng : Bool) (Am : Option Addr) (nm cm : Nat) (b : Int) (s : ByteArray) (A : Option Addr) (n c : Nat) (hn : n ≤ 9223372036854775807) (dp : Int) (hd : ¬ dp ≤ 0) (hdp : dp ≤ 100) (w : World)
    (HK : KidMk 0 0 16 (fun u => #[u.agg, .int .i64 (dp - 1)]) (d + 1) (fun _ t => Good d t) A (min n 8) w) :
    Calls Tryz.prog 45 #[.agg #[.int .i64 k, .bool ng, .slice Am nm cm, .int .u64 b, .string s, .slice A n c], .int .i64 dp] w fun e w' => ∃ ts y, e = .returned (Vc.agg y) ∧ ts.length ≤ 8 ∧ (∀ u ∈ ts, Good d u ∧ KeyT d u) ∧ Dist d 1 ts ∧ HVB w.heap.size (d + 2) ⟨9, false, [], 0, ⟨#[]⟩, ts⟩ y w' ∧ Below w.heap.size w w' := by
  have HH := Lib.hid HK
  have h0 := Lib.hid (MkS.start 0 0 w ⟨k, ng, .slice Am nm cm, b, s, .slice A n c⟩ 9 (d + 1) (Nat.zero_le _))
  clear HK
  obtain ⟨n8, hn8⟩ : ∃ n8, n8 = min n 8 := ⟨_, rfl⟩
  rw [← hn8] at HH
  have HN8 := Lib.hid hn8
  clear hn8
  go_enter Tryz.func45, Tryz.ntmps45
  go_wp2
  go_loopw [6] (fun iv wr => ∃ (i : Nat) (v : Value) (ts : List Tr), iv = .int .i64 i ∧ i ≤ n8 ∧ Hid (ts.length ≤ i ∧ (∀ u ∈ ts, Good d u ∧ KeyT d u) ∧ Dist d 1 ts) ∧ Hid (MkS 0 0 w ⟨k, ng, .slice Am nm cm, b, s, .slice A n c⟩ 9 (d + 1) v ts wr)) (fun iv _ => n8 - (intOf iv).toNat)
  case atStart => exact ⟨0, _, [], rfl, Nat.zero_le _, Lib.hid ⟨Nat.le_refl _, (fun u h => by cases h), Dist.nil _ _⟩, h0⟩
  case round =>
    obtain ⟨i, v, ts, rfl, hi, hT, hM⟩ := hrel
    have b5 := hM.out.bx.cell 5
    have lb := hM.out.bx.lt
    simp at b5
    by_cases hlt : i < n8
    · have hin : i < n := by have := HN8.out; omega
      have hi8 : i < 8 := by have := HN8.out; omega
      obtain ⟨u, ⟨b1, o1, rfl, hu⟩, hc⟩ := HH.out i hlt wr hM.out.lo
      have HC := Lib.hid hc
      have HME := Lib.hid (ms_lt hlt)
      have HSI := Lib.hid (Nat.succ_le_of_lt hlt)
      have w1k := Lib.hid (wr_suc i (by have := HN8.out; omega))
      obtain ⟨u0, u1, u2, u3, u4, u5⟩ := hu
      have HLN : Hid (ts.length + 1 ≤ 1000) := Lib.hid (by have := hT.out.1; omega)
      clear hc HH h0 hi hlt hn lb
      go_wp2_with fail
      refine HC.out.mono ?_
      rintro e w1 ⟨t1, y1, rfl, hg1, hy1, hb1⟩
      have HY1 := Lib.hid hy1
      have HG1 := Lib.hid hg1
      have HM1 := Lib.hid (hM.out.up hb1)
      have HO := Lib.hid hM.out.row.ownLt
      have h3w := Lib.hid hM.out.ob.lt
      have HW1 := Lib.hid hb1.size
      obtain ⟨yk, yn, yA, yl, yc, yb, ys, qA, ql, qc, rfl⟩ := hy1.shape
      clear hy1 hg1 hb1 HC u0 u1 u2 u3 u4 u5 b5
      go_wp2_with fail
      refine (key_any wr.heap.size w1.heap.size d (Nat.le_refl _) (HY1.out.hvi (L := 0) (M := w1.heap.size) (B' := 0) rfl) HG1.out).mono ?_
      rintro e w2 ⟨t2, y2, rfl, hy2, hg2, hk2, hb2⟩
      obtain ⟨zk, zn, zA, zl, zc, zb, zs, pA, pl, pc, rfl⟩ := hy2.shape
      have HV2 := Lib.hid (hvb_of hy2 HW1.out)
      have HM2 := Lib.hid (HM1.out.up hb2)
      have HG2 := Lib.hid (And.intro hg2 hk2)
      clear hy2 hg2 hk2 hb2 hM HM1 HY1 HG1
      obtain ⟨Av, cv, hv, hvs⟩ := HM2.out.row.form
      have HVS := Lib.hid hvs.2.1
      clear hvs
      subst hv
      have hal := below_al (Below.refl w2.heap.size w2) (.cells (VcB ⟨zk, zn, .slice zA zl zc, zb, zs, .slice pA pl pc⟩) 26)
      have HFN := Lib.hid (find1 d (c := cv) (Nat.le_trans (Nat.le_succ _) HLN.out) (HVS.out.up hal) (HV2.out.hv.up hal) (fun j u _ hj => hT.out.2.1 u (List.mem_of_getElem? hj)) HG2.out.1 HG2.out.2)
      have HM3 := Lib.hid (HM2.out.up hal)
      have HV3 := Lib.hid (HV2.out.up hal)
      have HKB := Lib.hid (Blk.new w2 26 (VcB ⟨zk, zn, .slice zA zl zc, zb, zs, .slice pA pl pc⟩))
      have o5 := HM2.out.ob.cell 5
      have l3 := HM2.out.ob.lt
      simp at o5
      clear hal HVS
      go_wp2_with fail
      refine HFN.out.mono ?_
      rintro e w3 ⟨r, rfl, hr, hb3⟩
      have HM4 := Lib.hid (HM3.out.up hb3)
      have HV4 := Lib.hid (HV3.out.up hb3)
      have hkb := HKB.out.below hb3 HKB.out.lt
      have HW2 := Lib.hid hb3.size
      have b5 := HM4.out.bx.cell 5
      simp at b5
      have HFR := Lib.hid hr
      clear HM3 HV3 HFN HM2 HV2 hb3 o5 l3 hr
      by_cases hr0 : r < 0
      · have o5 := HM4.out.ob.cell 5
        have l3 := HM4.out.ob.lt
        have q0 := hkb.cell 0
        have q1 := hkb.cell 1
        have q2 := hkb.cell 2
        have q3 := hkb.cell 3
        have q4 := hkb.cell 4
        have q5 := hkb.cell 5
        simp at o5 q0 q1 q2 q3 q4 q5
        clear hkb HKB
        go_wp2_with (at_builtin; refine wpList_push1 w3 HM4.out t2 ⟨zk, zn, .slice zA zl zc, zb, zs, .slice pA pl pc⟩ HV4.out HO.out h3w.out HLN.out 26 rfl _ _ rfl rfl rfl ?_; rintro v' w4 hr hb4 ⟨A', c', rfl⟩; have HR4 := Lib.hid hr; have HB4 := Lib.hid hb4; have hob := HM4.out.ob.below hb4 (Nat.lt_succ_self _); have l4 := hob.lt; have p5 := hob.cell 5; have f5 := hob.frozen 5; simp at p5; clear hr hb4 hob)
        have HM5 := Lib.hid (HM4.out.push HB4.out HR4.out)
        have HT2 : Hid ((ts ++ [t2]).length ≤ i + 1 ∧ (∀ u ∈ ts ++ [t2], Good d u ∧ KeyT d u) ∧ Dist d 1 (ts ++ [t2])) := Lib.hid ⟨by have := hT.out.1; simp; omega, (fun u hu => by
          rcases List.mem_append.1 hu with h | h
          · exact hT.out.2.1 u h
          · have : u = t2 := by simpa using h
            rw [this]
            exact HG2.out), dist_push1 hT.out.2.2 (HFR.out hr0)⟩
        clear HM4 HV4 HR4 HB4 o5 q0 q1 q2 q3 q4 q5 p5 f5 l3 l4 b5
        go_roundw
        case rel => exact ⟨i + 1, _, _, by first | rfl | (rw [w1k.out]; rfl), HSI.out, HT2, HM5⟩
        case measure => first | exact HME.out | (rw [w1k.out]; exact HME.out)
      · have HT2 : Hid (ts.length ≤ i + 1 ∧ (∀ u ∈ ts, Good d u ∧ KeyT d u) ∧ Dist d 1 ts) := Lib.hid ⟨Nat.le_succ_of_le hT.out.1, hT.out.2⟩
        clear hkb HKB HV4
        go_wp2
        go_roundw
        case rel => exact ⟨i + 1, _, _, by first | rfl | (rw [w1k.out]; rfl), HSI.out, HT2, HM4⟩
        case measure => first | exact HME.out | (rw [w1k.out]; exact HME.out)
    · have hie : i = n8 := Nat.le_antisymm hi (Nat.not_lt.1 hlt)
      subst hie
      have hc2 : n ≤ i ∨ (i < n ∧ 8 ≤ i) := by have := HN8.out; omega
      have HI8 : Hid (ts.length ≤ 8) := Lib.hid (by have := HN8.out; have := hT.out.1; omega)
      obtain ⟨Av, cv, hv, hrest⟩ := hM.out.row.form
      clear hrest HH h0 hlt hi hn lb
      subst hv
      rcases hc2 with hc3 | ⟨hc3, hc4⟩
      all_goals
        have k0 := hM.out.ob.cell 0
        have k1 := hM.out.ob.cell 1
        have k2 := hM.out.ob.cell 2
        have k3 := hM.out.ob.cell 3
        have k4 := hM.out.ob.cell 4
        have k5 := hM.out.ob.cell 5
        have r0 := hM.out.rs.cell 0
        have r1 := hM.out.rs.cell 1
        have r2 := hM.out.rs.cell 2
        have r3 := hM.out.rs.cell 3
        have r4 := hM.out.rs.cell 4
        have r5 := hM.out.rs.cell 5
        have z0 := hM.out.rs.frozen 0
        have z1 := hM.out.rs.frozen 1
        have z2 := hM.out.rs.frozen 2
        have z3 := hM.out.rs.frozen 3
        have z4 := hM.out.rs.frozen 4
        have z5 := hM.out.rs.frozen 5
        have lr := hM.out.rs.lt
        simp at k0 k1 k2 k3 k4 k5 r0 r1 r2 r3 r4 r5
        have hV := (hM.out.row.val 9 trivial)
        have hm1 : 0 ≤ w.heap.size + 1 := Nat.zero_le _
        have hm2 : w.heap.size + 1 < w.heap.size + 3 := by omega
        have HRS := Lib.hid hM.out.rs
        have HV := Lib.hid ((hV.set6 hm1 hm2 (.int .i64 9) (.bool false) (.slice none 0 0) (.int .u64 0) (.string ⟨#[]⟩) (.slice Av ts.length cv)).low (L' := 0) (M' := 0) (B' := w.heap.size) (fun k hk => hk.imp id (fun h => Nat.le_trans (Nat.le_add_right _ _) h)))
        have HL := Lib.hid (low6 hM.out.lo (w.heap.size + 1) (Nat.le_add_right _ _) (.int .i64 9) (.bool false) (.slice none 0 0) (.int .u64 0) (.string ⟨#[]⟩) (.slice Av ts.length cv))
        clear hM hV hm1 hm2
        go_wp2
        clear r0 r1 r2 r3 r4 r5 k0 k1 k2 k3 k4 k5 b5
        have HF := Lib.hid (set6 HRS.out (.int .i64 9) (.bool false) (.slice none 0 0) (.int .u64 0) (.string ⟨#[]⟩) (.slice Av ts.length cv))
        have q0 := HF.out.cell 0
        have q1 := HF.out.cell 1
        have q2 := HF.out.cell 2
        have q3 := HF.out.cell 3
        have q4 := HF.out.cell 4
        have q5 := HF.out.cell 5
        simp at q0 q1 q2 q3 q4 q5
        exact bodyPost_ret (v := .agg #[.int .i64 9, .bool false, .slice none 0 0, .int .u64 0, .string ⟨#[]⟩, .slice Av ts.length cv]) (by simp [results, Tryz.results45, go_sem, q0, q1, q2, q3, q4, q5]) rfl ⟨ts, ⟨9, false, .slice none 0 0, 0, ⟨#[]⟩, .slice Av ts.length cv⟩, rfl, HI8.out, hT.out.2.1, hT.out.2.2, HV.out, HL.out⟩
end Go.Proofs.YtloloifngbmibaaGreatDoor
