/- A hash table: insert. -/
import Derived.Test.YtloloifngbmibaaGreatDoorM07
import Derived.Test.YtloloifngbmibaaGreatDoorM26
import Derived.Laws.Bits64b
import Derived.WalkMore
set_option linter.unusedVariables false
set_option linter.unusedSimpArgs false
set_option maxRecDepth 4000
namespace Go.Proofs.YtloloifngbmibaaGreatDoor
open Go.RowKit

/-- What can be asked for its hash in the worlds that P lets in. -/
def HashM (P : World → Prop) (kv : Value) : Prop := ∃ T x F, kv = .iface T x ∧ (∀ W : World, (method 506 T x "Hash").run Tryz.prog W = .ok (F, x) W) ∧ (∀ W : World, (callFunc F #[x]).run Tryz.prog W = .ok (.enter F #[x]) W) ∧ ∀ W : World, P W → Calls Tryz.prog F #[x] W (HashOut W)
theorem and_0 (h : Int) : bits .and .u32 h 0 = 0 := by
  show IntKind.u32.wrap ((BitVec.ofInt 32 h &&& BitVec.ofInt 32 0).toNat : Int) = 0
  simp [IntKind.wrap, IntKind.bits, IntKind.signed]

/-- What insert leaves behind. -/
def InsOut (g : Nat) (T : TypeId) (es : List En) (kv v : Value) (w : World) (e : Ending) (w' : World) : Prop := e = .returned .nilIface ∧ ∃ h, h ≠ 0 ∧ Blk w' g T (htI g (es ++ [⟨h, kv, v⟩]) false).toArray ∧ But (fun k => k = g) w w'
/-- A place in a table: empty or taken. -/
theorem place_any {g : Nat} {T : TypeId} {es : List En} {w : World} (hb : Blk w g T (htI g es false).toArray) (hn : es.length ≤ 7) (i : Nat) (hi : i < 8) :
    (i < 8 - es.length ∧ w.cell? ⟨g, 1 + i * 5, none⟩ = some (.int .u32 0)) ∨ (8 - es.length ≤ i ∧ ∃ e ∈ es, w.cell? ⟨g, 1 + i * 5, none⟩ = some (.int .u32 e.h) ∧ w.cell? ⟨g, 1 + i * 5 + 1, none⟩ = some e.k) := by
  by_cases h : i < 8 - es.length
  · exact .inl ⟨h, by rw [hb.cell]; simpa using htI_no g es false i hi (by omega)⟩
  · have h2 : 7 - i < es.length := by omega
    have h3 := htI_yes g es false i hi es[7 - i] (List.getElem?_eq_getElem h2)
    exact .inr ⟨by omega, es[7 - i], List.getElem_mem h2, by rw [hb.cell]; simpa using h3.1, by rw [hb.cell]; simpa using h3.2.1⟩

set_option maxHeartbeats 1000000 in
theorem insert_ne (g : Nat) (T : TypeId) (es : List En) (hn : es.length ≤ 7) (kv : Value) (TV : TypeId) (xv : Value) (w : World) (hb : Blk w g T (htI g es false).toArray) (hz : ∀ e ∈ es, e.h ≠ 0) (ho : kv.oneCell' = true) (hoe : ∀ e ∈ es, e.k.oneCell' = true)
    (hk : HashM (But (fun k => k = g) w) kv) (he : ∀ e ∈ es, ∀ W, But (fun k => k = g) w W → Calls Tryz.prog 119 #[kv, e.k] W (CmpOut False W)) :
    Calls Tryz.prog 100 #[.pointer (some ⟨g, 0, none⟩), kv, .iface TV xv] w (InsOut g T es kv (.iface TV xv) w) := by
  obtain ⟨TT, x, F, rfl, hm, hf, hc⟩ := hk
  have HC := Lib.hid hc
  have HB := Lib.hid hb
  have HE := Lib.hid he
  have HO := Lib.hid (And.intro hz hoe)
  obtain ⟨n, hnn⟩ : ∃ n, n = es.length := ⟨_, rfl⟩
  have HNN := Lib.hid hnn
  have hnn7 : n ≤ 7 := by omega
  clear hnn
  have c0 : w.cell? ⟨g, 0, none⟩ = some (.slice (some ⟨g, 1, none⟩) 1 1) := hb.cell 0
  have c43 : w.cell? ⟨g, 43, none⟩ = some (.int .u32 0) := by rw [hb.cell]; simpa using htI_end g es false 2
  have c46 : w.cell? ⟨g, 46, none⟩ = some (.bool false) := by rw [hb.cell]; simpa using htI_end g es false 5
  have hsn : ∀ W : World, (binOp .eql 159 (.slice (some ⟨g, 1, none⟩) 1 1) (.slice none 0 0)).run Tryz.prog W = .ok (.bool false) W := fun W => by kernel_rfl
  have HM := Lib.hid (fun s => mutable_any g s w c46 c43)
  clear hb hc he hz hoe
  go_enter Tryz.func100, Tryz.ntmps100
  go_wp2
  go_step3
  go_wp2_with fail
  refine (HM.out _).mono ?_
  rintro e w1 ⟨rfl, rfl⟩
  go_wp2_with fail
  refine (HC.out _ (But.refl _ _)).mono ?_
  rintro e w2 ⟨h, rfl, hb2⟩
  have hB2 := HB.out.below hb2 HB.out.lt
  have HB2 := Lib.hid hB2
  have HT2 : Hid (But (fun k => k = g) w1 w2) := Lib.hid (But.of_below hb2)
  clear HB HM c0 c43 c46
  have c0 : w2.cell? ⟨g, 0, none⟩ = some (.slice (some ⟨g, 1, none⟩) 1 1) := hB2.cell 0
  clear hB2 hb2 HC hm hf hsn
  by_cases hh : h = 0
  · subst hh
    have a0 := and_0 1
    have HH0 : Hid ((1 : Int) ≠ 0) := Lib.hid (by decide)
    go_wp2_with fail
    go_step3
    go_wp2_with fail
    go_quiet (fail)
    have HB3 : Hid (Blk (w2.drewN nq) g T (htI g es false).toArray) := Lib.hid HB2.out
    have HT3 : Hid (But (fun k => k = g) w1 (w2.drewN nq)) := Lib.hid (HT2.out.drewN nq)
    clear HB2 HT2 a0 c0
    go_wp2
    go_loopw [10, 11] (fun iv pv wr => iv = .pointer none ∧ pv = .pointer (some ⟨g, 1, none⟩) ∧ Hid (Blk wr g T (htI g es false).toArray) ∧ Hid (But (fun k => k = g) w1 wr)) (fun _ _ _ => 0)
    case atStart => exact ⟨rfl, rfl, HB3, HT3⟩
    case round =>
      obtain ⟨rfl, rfl, HB4, HT4⟩ := hrel
      clear HB3 HT3
      go_wp2
      go_loopw [53, 10] (fun iv nv wr => ∃ i : Nat, iv = .int .i64 i ∧ nv = insV g n i ∧ i ≤ 8 ∧ Hid (Blk wr g T (htI g es false).toArray) ∧ Hid (But (fun k => k = g) w1 wr)) (fun iv _ _ => 8 - (intOf iv).toNat)
      case atStart => exact ⟨0, rfl, rfl, by decide, HB4, HT4⟩
      case round =>
        obtain ⟨i, rfl, rfl, hi, HB5, HT5⟩ := hrel
        clear HB4 HT4
        by_cases hlt : i < 8
        · have hpl := place_any HB5.out hn i hlt
          rw [← HNN.out] at hpl
          have HME := Lib.hid (ms_lt hlt)
          have HSI := Lib.hid (Nat.succ_le_of_lt hlt)
          rcases hpl with ⟨hfr, hce⟩ | ⟨htk, e, hee, hce, hck⟩
          · have HIV := Lib.hid (insV_no g n i hfr)
            have hz0 : ((0 : Int) != 1) = true := bne_yes (Ne.symm HH0.out)
            clear hfr
            go_wp2_with fail
            exact ⟨⟨i + 1, rfl, HIV.out.symm, HSI.out, HB5, HT5⟩, HME.out⟩
          · have HIV := Lib.hid (insV_yes g n i hnn7 htk)
            have hez := beq_no (HO.out.1 e hee)
            obtain ⟨eh, heh⟩ : ∃ eh, eh = e.h := ⟨_, rfl⟩
            obtain ⟨ek, hek⟩ : ∃ ek, ek = e.k := ⟨_, rfl⟩
            have hck1 := HO.out.2 e hee
            have HEQ := Lib.hid (HE.out e hee wr HT5.out)
            rw [← heh] at hce hez
            rw [← hek] at hck hck1 HEQ
            have HKK := Lib.hid hee
            clear htk heh hek hee
            by_cases hsm : eh = 1
            · subst hsm
              go_wp2_with fail
              refine HEQ.out.mono ?_
              rintro ee w5 ⟨r, rfl, hr, hb5⟩
              obtain rfl : r = false := by
                cases r
                · rfl
                · exact (hr rfl).elim
              have HB6 := Lib.hid (HB5.out.below hb5 HB5.out.lt)
              have HT6 : Hid (But (fun k => k = g) w1 w5) := Lib.hid (HT5.out.trans (But.of_below hb5))
              clear HB5 HT5 hb5 hr hce hck HEQ
              go_wp2_with fail
              exact ⟨⟨i + 1, rfl, HIV.out.symm, HSI.out, HB6, HT6⟩, HME.out⟩
            · have hnz := bne_yes hsm
              go_wp2_with fail
              exact ⟨⟨i + 1, rfl, HIV.out.symm, HSI.out, HB5, HT5⟩, HME.out⟩
        · have hi8 : i = 8 := by omega
          subst hi8
          have c41 : wr.cell? ⟨g, 41, none⟩ = some (.pointer none) := by rw [HB5.out.cell]; simpa using htI_end g es false 0
          have c42 : wr.cell? ⟨g, 42, none⟩ = some (.int .u32 n) := by rw [HB5.out.cell, HNN.out]; simpa using htI_end g es false 1
          have c0 : wr.cell? ⟨g, 0, none⟩ = some (.slice (some ⟨g, 1, none⟩) 1 1) := HB5.out.cell 0
          have hvn := insV_8 g n hnn7
          rw [hvn]
          have HOV : Hid (∀ k, Calls Tryz.prog 120 #[.int .i64 (n : Int), .int .i64 1] (wr.drewN k) fun e w' => e = .returned (.bool false) ∧ ∃ m, w' = wr.drewN m) := Lib.hid fun k => by
            refine (overloaded_no (n : Int) 1 _ (by omega)).mono ?_
            rintro e w' ⟨rfl, rfl⟩
            exact ⟨rfl, k, rfl⟩
          have wn : IntKind.i64.wrap (n : Int) = (n : Int) := by rw [IntKind.wrap_i64]; omega
          have hpn : ∀ (W : World) (q : Nat), (binOp .eql 160 (.pointer (some ⟨g, q, none⟩)) (.pointer none)).run Tryz.prog W = .ok (.bool false) W := fun W q => by kernel_rfl
          clear hvn hlt hi
          go_wp2_with fail
          go_quiet (exact HOV.out _)
          generalize hW5 : wr.drewN nq = W5
          have HB6 : Hid (Blk W5 g T (htI g es false).toArray) := Lib.hid (by rw [← hW5]; exact HB5.out.drewN _)
          have HT6 : Hid (But (fun k => k = g) w1 W5) := Lib.hid (by rw [← hW5]; exact HT5.out.drewN _)
          clear hW5 HB5 HT5 c41 c42 c0 HOV wn
          have c42 : W5.cell? ⟨g, 42, none⟩ = some (.int .u32 n) := by rw [HB6.out.cell, HNN.out]; simpa using htI_end g es false 1
          have c45 : W5.cell? ⟨g, 45, none⟩ = some (.pointer (some ⟨g, tOff n, none⟩)) := by rw [HB6.out.cell, HNN.out]; simpa using htI_end g es false 4
          have ct : W5.cell? ⟨g, tOff n, none⟩ = some (.pointer none) := by rw [HB6.out.cell, HNN.out]; simpa using htI_tail g es false (by omega)
          have cq0 : W5.cell? ⟨g, 1 + (7 - n) * 5, none⟩ = some (.int .u32 0) := by rw [HB6.out.cell, HNN.out]; simpa using htI_free g es false hn 0 (by decide)
          have cq1 : W5.cell? ⟨g, 1 + (7 - n) * 5 + 1, none⟩ = some .nilIface := by rw [HB6.out.cell, HNN.out]; simpa using htI_free g es false hn 1 (by decide)
          have cq2 : W5.cell? ⟨g, 1 + (7 - n) * 5 + 2, none⟩ = some .nilIface := by rw [HB6.out.cell, HNN.out]; simpa using htI_free g es false hn 2 (by decide)
          have cq4 : W5.cell? ⟨g, 1 + (7 - n) * 5 + 4, none⟩ = some (.pointer none) := by rw [HB6.out.cell, HNN.out]; simpa using htI_free g es false hn 4 (by decide)
          have HPU := Lib.hid (htI_push g es ⟨1, .iface TT x, .iface TV xv⟩ false hn)
          have htn := tOff_ne n (by omega)
          rw [← HNN.out] at HPU
          obtain ⟨C, hC⟩ : ∃ C, C = (htI g es false).toArray := ⟨_, rfl⟩
          rw [← hC] at HPU HB6
          obtain ⟨t, ht⟩ : ∃ t, t = tOff n := ⟨_, rfl⟩
          obtain ⟨q, hqq⟩ : ∃ q, q = 1 + (7 - n) * 5 := ⟨_, rfl⟩
          rw [← ht] at c45 ct htn HPU
          rw [← hqq] at cq0 cq1 cq2 cq4 HPU ⊢
          have HQ : Hid (q ≤ 36) := Lib.hid (by omega)
          have HTN := Lib.hid htn
          have HTQ : Hid (t = 44 ∨ t = q + 8) := Lib.hid (by rw [ht, hqq]; unfold tOff; split <;> omega)
          have HK42 : Hid (C[42]? = some (.int .u32 n)) := Lib.hid (by rw [← HB6.out.cell]; exact c42)
          have HK45 : Hid (C[45]? = some (.pointer (some ⟨g, t, none⟩))) := Lib.hid (by rw [← HB6.out.cell]; exact c45)
          have HKT : Hid (C[t]? = some (.pointer none)) := Lib.hid (by rw [← HB6.out.cell]; exact ct)
          have HKQ2 : Hid (C[q + 2]? = some .nilIface) := Lib.hid (by rw [← HB6.out.cell]; exact cq2)
          have HKQ4 : Hid (C[q + 4]? = some (.pointer none)) := Lib.hid (by rw [← HB6.out.cell]; exact cq4)
          have gq0 := HB6.out.frozen q
          have gq1 := HB6.out.frozen (q + 1)
          have glt := HB6.out.lt
          clear c42 c45 ct cq4 cq2 hC ht hqq htn
          go_upto_region 37 with fail
          generalize hW6 : ((W5.setCell ⟨g, q, none⟩ (.int .u32 1)).setCell ⟨g, q + 1, none⟩ (.iface TT x)) = W6
          have HB7 : Hid (Blk W6 g T ((C.setIfInBounds q (.int .u32 1)).setIfInBounds (q + 1) (.iface TT x))) := Lib.hid (by rw [← hW6]; exact (HB6.out.set q _).set (q + 1) _)
          have HT7 : Hid (But (fun k => k = g) w1 W6) := Lib.hid (by rw [← hW6]; exact (HT6.out.set (p := ⟨g, q, none⟩) rfl _).set (p := ⟨g, q + 1, none⟩) rfl _)
          clear hW6 HB6 HT6 gq0 gq1 glt cq0 cq1
          have cq2 : W6.cell? ⟨g, q + 2, none⟩ = some .nilIface := by rw [HB7.out.cell]; have := HQ.out; rw [Array.getElem?_setIfInBounds_ne (by omega), Array.getElem?_setIfInBounds_ne (by omega)]; exact HKQ2.out
          have gq2 := HB7.out.frozen (q + 2)
          have glt := HB7.out.lt
          go_upto_region 38 with fail
          generalize hW7 : (W6.setCell ⟨g, q + 2, none⟩ (.iface TV xv)) = W7
          have HB8 : Hid (Blk W7 g T (((C.setIfInBounds q (.int .u32 1)).setIfInBounds (q + 1) (.iface TT x)).setIfInBounds (q + 2) (.iface TV xv))) := Lib.hid (by rw [← hW7]; exact HB7.out.set (q + 2) _)
          have HT8 : Hid (But (fun k => k = g) w1 W7) := Lib.hid (by rw [← hW7]; exact HT7.out.set (p := ⟨g, q + 2, none⟩) rfl _)
          clear hW7 HB7 HT7 cq2 gq2 glt
          have c45 : W7.cell? ⟨g, 45, none⟩ = some (.pointer (some ⟨g, t, none⟩)) := by
            have h1 := HQ.out
            have h2 := HTN.out
            have h3 := HTQ.out
            rw [HB8.out.cell]
            rw [Array.getElem?_setIfInBounds_ne (by omega)]; rw [Array.getElem?_setIfInBounds_ne (by omega)]; rw [Array.getElem?_setIfInBounds_ne (by omega)]
            exact HK45.out
          have cq4 : W7.cell? ⟨g, q + 4, none⟩ = some (.pointer none) := by
            have h1 := HQ.out
            have h2 := HTN.out
            have h3 := HTQ.out
            rw [HB8.out.cell]
            rw [Array.getElem?_setIfInBounds_ne (by omega)]; rw [Array.getElem?_setIfInBounds_ne (by omega)]; rw [Array.getElem?_setIfInBounds_ne (by omega)]
            exact HKQ4.out
          have gq4 := HB8.out.frozen (q + 4)
          have glt := HB8.out.lt
          go_upto_region 39 with fail
          generalize hW8 : (W7.setCell ⟨g, q + 4, none⟩ (.pointer (some ⟨g, t, none⟩))) = W8
          have HB9 : Hid (Blk W8 g T ((((C.setIfInBounds q (.int .u32 1)).setIfInBounds (q + 1) (.iface TT x)).setIfInBounds (q + 2) (.iface TV xv)).setIfInBounds (q + 4) (.pointer (some ⟨g, t, none⟩)))) := Lib.hid (by rw [← hW8]; exact HB8.out.set (q + 4) _)
          have HT9 : Hid (But (fun k => k = g) w1 W8) := Lib.hid (by rw [← hW8]; exact HT8.out.set (p := ⟨g, q + 4, none⟩) rfl _)
          clear hW8 HB8 HT8 glt c45 cq4 gq4
          have c45 : W8.cell? ⟨g, 45, none⟩ = some (.pointer (some ⟨g, t, none⟩)) := by
            have h1 := HQ.out
            have h2 := HTN.out
            have h3 := HTQ.out
            rw [HB9.out.cell]
            rw [Array.getElem?_setIfInBounds_ne (by omega)]; rw [Array.getElem?_setIfInBounds_ne (by omega)]; rw [Array.getElem?_setIfInBounds_ne (by omega)]; rw [Array.getElem?_setIfInBounds_ne (by omega)]
            exact HK45.out
          have ct : W8.cell? ⟨g, t, none⟩ = some (.pointer none) := by
            have h1 := HQ.out
            have h2 := HTN.out
            have h3 := HTQ.out
            rw [HB9.out.cell]
            rw [Array.getElem?_setIfInBounds_ne (by omega)]; rw [Array.getElem?_setIfInBounds_ne (by omega)]; rw [Array.getElem?_setIfInBounds_ne (by omega)]; rw [Array.getElem?_setIfInBounds_ne (by omega)]
            exact HKT.out
          have gt := HB9.out.frozen (t)
          have glt := HB9.out.lt
          go_upto_region 40 with fail
          generalize hW9 : (W8.setCell ⟨g, t, none⟩ (.pointer (some ⟨g, q, none⟩))) = W9
          have HB10 : Hid (Blk W9 g T (((((C.setIfInBounds q (.int .u32 1)).setIfInBounds (q + 1) (.iface TT x)).setIfInBounds (q + 2) (.iface TV xv)).setIfInBounds (q + 4) (.pointer (some ⟨g, t, none⟩))).setIfInBounds (t) (.pointer (some ⟨g, q, none⟩)))) := Lib.hid (by rw [← hW9]; exact HB9.out.set (t) _)
          have HT10 : Hid (But (fun k => k = g) w1 W9) := Lib.hid (by rw [← hW9]; exact HT9.out.set (p := ⟨g, t, none⟩) rfl _)
          clear hW9 HB9 HT9 glt c45 ct gt
          have c45 : W9.cell? ⟨g, 45, none⟩ = some (.pointer (some ⟨g, t, none⟩)) := by
            have h1 := HQ.out
            have h2 := HTN.out
            have h3 := HTQ.out
            rw [HB10.out.cell]
            rw [Array.getElem?_setIfInBounds_ne (by omega)]; rw [Array.getElem?_setIfInBounds_ne (by omega)]; rw [Array.getElem?_setIfInBounds_ne (by omega)]; rw [Array.getElem?_setIfInBounds_ne (by omega)]; rw [Array.getElem?_setIfInBounds_ne (by omega)]
            exact HK45.out
          have g45 := HB10.out.frozen (45)
          have glt := HB10.out.lt
          go_upto_region 41 with fail
          generalize hW10 : (W9.setCell ⟨g, 45, none⟩ (.pointer (some ⟨g, q + 3, none⟩))) = W10
          have HB11 : Hid (Blk W10 g T ((((((C.setIfInBounds q (.int .u32 1)).setIfInBounds (q + 1) (.iface TT x)).setIfInBounds (q + 2) (.iface TV xv)).setIfInBounds (q + 4) (.pointer (some ⟨g, t, none⟩))).setIfInBounds (t) (.pointer (some ⟨g, q, none⟩))).setIfInBounds (45) (.pointer (some ⟨g, q + 3, none⟩)))) := Lib.hid (by rw [← hW10]; exact HB10.out.set (45) _)
          have HT11 : Hid (But (fun k => k = g) w1 W10) := Lib.hid (by rw [← hW10]; exact HT10.out.set (p := ⟨g, 45, none⟩) rfl _)
          clear hW10 HB10 HT10 glt c45 g45
          have c42 : W10.cell? ⟨g, 42, none⟩ = some (.int .u32 n) := by
            have h1 := HQ.out
            have h2 := HTN.out
            have h3 := HTQ.out
            rw [HB11.out.cell]
            rw [Array.getElem?_setIfInBounds_ne (by omega)]; rw [Array.getElem?_setIfInBounds_ne (by omega)]; rw [Array.getElem?_setIfInBounds_ne (by omega)]; rw [Array.getElem?_setIfInBounds_ne (by omega)]; rw [Array.getElem?_setIfInBounds_ne (by omega)]; rw [Array.getElem?_setIfInBounds_ne (by omega)]
            exact HK42.out
          have g42 := HB11.out.frozen (42)
          have glt := HB11.out.lt
          have wnn : IntKind.u32.wrap ((n : Int) + 1) = (n : Int) + 1 := by simp [IntKind.wrap, IntKind.bits, IntKind.signed]; omega
          go_wp2_with fail
          go_ret
          refine ⟨rfl, 1, HH0.out, ?_, HT11.out.set (p := ⟨g, 42, none⟩) rfl _⟩
          have h9 := HPU.out
          rw [show ((n + 1 : Nat) : Int) = (n : Int) + 1 from rfl] at h9
          rw [← h9]
          exact HB11.out.set 42 _

  · have hq := beq_no hh
    have a0 := and_0 h
    have HH0 : Hid ((h : Int) ≠ 0) := Lib.hid (hh)
    go_wp2_with fail
    go_step3
    go_wp2_with fail
    go_quiet (fail)
    have HB3 : Hid (Blk (w2.drewN nq) g T (htI g es false).toArray) := Lib.hid HB2.out
    have HT3 : Hid (But (fun k => k = g) w1 (w2.drewN nq)) := Lib.hid (HT2.out.drewN nq)
    clear HB2 HT2 a0 c0
    go_wp2
    go_loopw [10, 11] (fun iv pv wr => iv = .pointer none ∧ pv = .pointer (some ⟨g, 1, none⟩) ∧ Hid (Blk wr g T (htI g es false).toArray) ∧ Hid (But (fun k => k = g) w1 wr)) (fun _ _ _ => 0)
    case atStart => exact ⟨rfl, rfl, HB3, HT3⟩
    case round =>
      obtain ⟨rfl, rfl, HB4, HT4⟩ := hrel
      clear HB3 HT3
      go_wp2
      go_loopw [53, 10] (fun iv nv wr => ∃ i : Nat, iv = .int .i64 i ∧ nv = insV g n i ∧ i ≤ 8 ∧ Hid (Blk wr g T (htI g es false).toArray) ∧ Hid (But (fun k => k = g) w1 wr)) (fun iv _ _ => 8 - (intOf iv).toNat)
      case atStart => exact ⟨0, rfl, rfl, by decide, HB4, HT4⟩
      case round =>
        obtain ⟨i, rfl, rfl, hi, HB5, HT5⟩ := hrel
        clear HB4 HT4
        by_cases hlt : i < 8
        · have hpl := place_any HB5.out hn i hlt
          rw [← HNN.out] at hpl
          have HME := Lib.hid (ms_lt hlt)
          have HSI := Lib.hid (Nat.succ_le_of_lt hlt)
          rcases hpl with ⟨hfr, hce⟩ | ⟨htk, e, hee, hce, hck⟩
          · have HIV := Lib.hid (insV_no g n i hfr)
            have hz0 : ((0 : Int) != h) = true := bne_yes (Ne.symm HH0.out)
            clear hfr
            go_wp2_with fail
            exact ⟨⟨i + 1, rfl, HIV.out.symm, HSI.out, HB5, HT5⟩, HME.out⟩
          · have HIV := Lib.hid (insV_yes g n i hnn7 htk)
            have hez := beq_no (HO.out.1 e hee)
            obtain ⟨eh, heh⟩ : ∃ eh, eh = e.h := ⟨_, rfl⟩
            obtain ⟨ek, hek⟩ : ∃ ek, ek = e.k := ⟨_, rfl⟩
            have hck1 := HO.out.2 e hee
            have HEQ := Lib.hid (HE.out e hee wr HT5.out)
            rw [← heh] at hce hez
            rw [← hek] at hck hck1 HEQ
            have HKK := Lib.hid hee
            clear htk heh hek hee
            by_cases hsm : eh = h
            · subst hsm
              go_wp2_with fail
              refine HEQ.out.mono ?_
              rintro ee w5 ⟨r, rfl, hr, hb5⟩
              obtain rfl : r = false := by
                cases r
                · rfl
                · exact (hr rfl).elim
              have HB6 := Lib.hid (HB5.out.below hb5 HB5.out.lt)
              have HT6 : Hid (But (fun k => k = g) w1 w5) := Lib.hid (HT5.out.trans (But.of_below hb5))
              clear HB5 HT5 hb5 hr hce hck HEQ
              go_wp2_with fail
              exact ⟨⟨i + 1, rfl, HIV.out.symm, HSI.out, HB6, HT6⟩, HME.out⟩
            · have hnz := bne_yes hsm
              go_wp2_with fail
              exact ⟨⟨i + 1, rfl, HIV.out.symm, HSI.out, HB5, HT5⟩, HME.out⟩
        · have hi8 : i = 8 := by omega
          subst hi8
          have c41 : wr.cell? ⟨g, 41, none⟩ = some (.pointer none) := by rw [HB5.out.cell]; simpa using htI_end g es false 0
          have c42 : wr.cell? ⟨g, 42, none⟩ = some (.int .u32 n) := by rw [HB5.out.cell, HNN.out]; simpa using htI_end g es false 1
          have c0 : wr.cell? ⟨g, 0, none⟩ = some (.slice (some ⟨g, 1, none⟩) 1 1) := HB5.out.cell 0
          have hvn := insV_8 g n hnn7
          rw [hvn]
          have HOV : Hid (∀ k, Calls Tryz.prog 120 #[.int .i64 (n : Int), .int .i64 1] (wr.drewN k) fun e w' => e = .returned (.bool false) ∧ ∃ m, w' = wr.drewN m) := Lib.hid fun k => by
            refine (overloaded_no (n : Int) 1 _ (by omega)).mono ?_
            rintro e w' ⟨rfl, rfl⟩
            exact ⟨rfl, k, rfl⟩
          have wn : IntKind.i64.wrap (n : Int) = (n : Int) := by rw [IntKind.wrap_i64]; omega
          have hpn : ∀ (W : World) (q : Nat), (binOp .eql 160 (.pointer (some ⟨g, q, none⟩)) (.pointer none)).run Tryz.prog W = .ok (.bool false) W := fun W q => by kernel_rfl
          clear hvn hlt hi
          go_wp2_with fail
          go_quiet (exact HOV.out _)
          generalize hW5 : wr.drewN nq = W5
          have HB6 : Hid (Blk W5 g T (htI g es false).toArray) := Lib.hid (by rw [← hW5]; exact HB5.out.drewN _)
          have HT6 : Hid (But (fun k => k = g) w1 W5) := Lib.hid (by rw [← hW5]; exact HT5.out.drewN _)
          clear hW5 HB5 HT5 c41 c42 c0 HOV wn
          have c42 : W5.cell? ⟨g, 42, none⟩ = some (.int .u32 n) := by rw [HB6.out.cell, HNN.out]; simpa using htI_end g es false 1
          have c45 : W5.cell? ⟨g, 45, none⟩ = some (.pointer (some ⟨g, tOff n, none⟩)) := by rw [HB6.out.cell, HNN.out]; simpa using htI_end g es false 4
          have ct : W5.cell? ⟨g, tOff n, none⟩ = some (.pointer none) := by rw [HB6.out.cell, HNN.out]; simpa using htI_tail g es false (by omega)
          have cq0 : W5.cell? ⟨g, 1 + (7 - n) * 5, none⟩ = some (.int .u32 0) := by rw [HB6.out.cell, HNN.out]; simpa using htI_free g es false hn 0 (by decide)
          have cq1 : W5.cell? ⟨g, 1 + (7 - n) * 5 + 1, none⟩ = some .nilIface := by rw [HB6.out.cell, HNN.out]; simpa using htI_free g es false hn 1 (by decide)
          have cq2 : W5.cell? ⟨g, 1 + (7 - n) * 5 + 2, none⟩ = some .nilIface := by rw [HB6.out.cell, HNN.out]; simpa using htI_free g es false hn 2 (by decide)
          have cq4 : W5.cell? ⟨g, 1 + (7 - n) * 5 + 4, none⟩ = some (.pointer none) := by rw [HB6.out.cell, HNN.out]; simpa using htI_free g es false hn 4 (by decide)
          have HPU := Lib.hid (htI_push g es ⟨h, .iface TT x, .iface TV xv⟩ false hn)
          have htn := tOff_ne n (by omega)
          rw [← HNN.out] at HPU
          obtain ⟨C, hC⟩ : ∃ C, C = (htI g es false).toArray := ⟨_, rfl⟩
          rw [← hC] at HPU HB6
          obtain ⟨t, ht⟩ : ∃ t, t = tOff n := ⟨_, rfl⟩
          obtain ⟨q, hqq⟩ : ∃ q, q = 1 + (7 - n) * 5 := ⟨_, rfl⟩
          rw [← ht] at c45 ct htn HPU
          rw [← hqq] at cq0 cq1 cq2 cq4 HPU ⊢
          have HQ : Hid (q ≤ 36) := Lib.hid (by omega)
          have HTN := Lib.hid htn
          have HTQ : Hid (t = 44 ∨ t = q + 8) := Lib.hid (by rw [ht, hqq]; unfold tOff; split <;> omega)
          have HK42 : Hid (C[42]? = some (.int .u32 n)) := Lib.hid (by rw [← HB6.out.cell]; exact c42)
          have HK45 : Hid (C[45]? = some (.pointer (some ⟨g, t, none⟩))) := Lib.hid (by rw [← HB6.out.cell]; exact c45)
          have HKT : Hid (C[t]? = some (.pointer none)) := Lib.hid (by rw [← HB6.out.cell]; exact ct)
          have HKQ2 : Hid (C[q + 2]? = some .nilIface) := Lib.hid (by rw [← HB6.out.cell]; exact cq2)
          have HKQ4 : Hid (C[q + 4]? = some (.pointer none)) := Lib.hid (by rw [← HB6.out.cell]; exact cq4)
          have gq0 := HB6.out.frozen q
          have gq1 := HB6.out.frozen (q + 1)
          have glt := HB6.out.lt
          clear c42 c45 ct cq4 cq2 hC ht hqq htn
          go_upto_region 37 with fail
          generalize hW6 : ((W5.setCell ⟨g, q, none⟩ (.int .u32 h)).setCell ⟨g, q + 1, none⟩ (.iface TT x)) = W6
          have HB7 : Hid (Blk W6 g T ((C.setIfInBounds q (.int .u32 h)).setIfInBounds (q + 1) (.iface TT x))) := Lib.hid (by rw [← hW6]; exact (HB6.out.set q _).set (q + 1) _)
          have HT7 : Hid (But (fun k => k = g) w1 W6) := Lib.hid (by rw [← hW6]; exact (HT6.out.set (p := ⟨g, q, none⟩) rfl _).set (p := ⟨g, q + 1, none⟩) rfl _)
          clear hW6 HB6 HT6 gq0 gq1 glt cq0 cq1
          have cq2 : W6.cell? ⟨g, q + 2, none⟩ = some .nilIface := by rw [HB7.out.cell]; have := HQ.out; rw [Array.getElem?_setIfInBounds_ne (by omega), Array.getElem?_setIfInBounds_ne (by omega)]; exact HKQ2.out
          have gq2 := HB7.out.frozen (q + 2)
          have glt := HB7.out.lt
          go_upto_region 38 with fail
          generalize hW7 : (W6.setCell ⟨g, q + 2, none⟩ (.iface TV xv)) = W7
          have HB8 : Hid (Blk W7 g T (((C.setIfInBounds q (.int .u32 h)).setIfInBounds (q + 1) (.iface TT x)).setIfInBounds (q + 2) (.iface TV xv))) := Lib.hid (by rw [← hW7]; exact HB7.out.set (q + 2) _)
          have HT8 : Hid (But (fun k => k = g) w1 W7) := Lib.hid (by rw [← hW7]; exact HT7.out.set (p := ⟨g, q + 2, none⟩) rfl _)
          clear hW7 HB7 HT7 cq2 gq2 glt
          have c45 : W7.cell? ⟨g, 45, none⟩ = some (.pointer (some ⟨g, t, none⟩)) := by
            have h1 := HQ.out
            have h2 := HTN.out
            have h3 := HTQ.out
            rw [HB8.out.cell]
            rw [Array.getElem?_setIfInBounds_ne (by omega)]; rw [Array.getElem?_setIfInBounds_ne (by omega)]; rw [Array.getElem?_setIfInBounds_ne (by omega)]
            exact HK45.out
          have cq4 : W7.cell? ⟨g, q + 4, none⟩ = some (.pointer none) := by
            have h1 := HQ.out
            have h2 := HTN.out
            have h3 := HTQ.out
            rw [HB8.out.cell]
            rw [Array.getElem?_setIfInBounds_ne (by omega)]; rw [Array.getElem?_setIfInBounds_ne (by omega)]; rw [Array.getElem?_setIfInBounds_ne (by omega)]
            exact HKQ4.out
          have gq4 := HB8.out.frozen (q + 4)
          have glt := HB8.out.lt
          go_upto_region 39 with fail
          generalize hW8 : (W7.setCell ⟨g, q + 4, none⟩ (.pointer (some ⟨g, t, none⟩))) = W8
          have HB9 : Hid (Blk W8 g T ((((C.setIfInBounds q (.int .u32 h)).setIfInBounds (q + 1) (.iface TT x)).setIfInBounds (q + 2) (.iface TV xv)).setIfInBounds (q + 4) (.pointer (some ⟨g, t, none⟩)))) := Lib.hid (by rw [← hW8]; exact HB8.out.set (q + 4) _)
          have HT9 : Hid (But (fun k => k = g) w1 W8) := Lib.hid (by rw [← hW8]; exact HT8.out.set (p := ⟨g, q + 4, none⟩) rfl _)
          clear hW8 HB8 HT8 glt c45 cq4 gq4
          have c45 : W8.cell? ⟨g, 45, none⟩ = some (.pointer (some ⟨g, t, none⟩)) := by
            have h1 := HQ.out
            have h2 := HTN.out
            have h3 := HTQ.out
            rw [HB9.out.cell]
            rw [Array.getElem?_setIfInBounds_ne (by omega)]; rw [Array.getElem?_setIfInBounds_ne (by omega)]; rw [Array.getElem?_setIfInBounds_ne (by omega)]; rw [Array.getElem?_setIfInBounds_ne (by omega)]
            exact HK45.out
          have ct : W8.cell? ⟨g, t, none⟩ = some (.pointer none) := by
            have h1 := HQ.out
            have h2 := HTN.out
            have h3 := HTQ.out
            rw [HB9.out.cell]
            rw [Array.getElem?_setIfInBounds_ne (by omega)]; rw [Array.getElem?_setIfInBounds_ne (by omega)]; rw [Array.getElem?_setIfInBounds_ne (by omega)]; rw [Array.getElem?_setIfInBounds_ne (by omega)]
            exact HKT.out
          have gt := HB9.out.frozen (t)
          have glt := HB9.out.lt
          go_upto_region 40 with fail
          generalize hW9 : (W8.setCell ⟨g, t, none⟩ (.pointer (some ⟨g, q, none⟩))) = W9
          have HB10 : Hid (Blk W9 g T (((((C.setIfInBounds q (.int .u32 h)).setIfInBounds (q + 1) (.iface TT x)).setIfInBounds (q + 2) (.iface TV xv)).setIfInBounds (q + 4) (.pointer (some ⟨g, t, none⟩))).setIfInBounds (t) (.pointer (some ⟨g, q, none⟩)))) := Lib.hid (by rw [← hW9]; exact HB9.out.set (t) _)
          have HT10 : Hid (But (fun k => k = g) w1 W9) := Lib.hid (by rw [← hW9]; exact HT9.out.set (p := ⟨g, t, none⟩) rfl _)
          clear hW9 HB9 HT9 glt c45 ct gt
          have c45 : W9.cell? ⟨g, 45, none⟩ = some (.pointer (some ⟨g, t, none⟩)) := by
            have h1 := HQ.out
            have h2 := HTN.out
            have h3 := HTQ.out
            rw [HB10.out.cell]
            rw [Array.getElem?_setIfInBounds_ne (by omega)]; rw [Array.getElem?_setIfInBounds_ne (by omega)]; rw [Array.getElem?_setIfInBounds_ne (by omega)]; rw [Array.getElem?_setIfInBounds_ne (by omega)]; rw [Array.getElem?_setIfInBounds_ne (by omega)]
            exact HK45.out
          have g45 := HB10.out.frozen (45)
          have glt := HB10.out.lt
          go_upto_region 41 with fail
          generalize hW10 : (W9.setCell ⟨g, 45, none⟩ (.pointer (some ⟨g, q + 3, none⟩))) = W10
          have HB11 : Hid (Blk W10 g T ((((((C.setIfInBounds q (.int .u32 h)).setIfInBounds (q + 1) (.iface TT x)).setIfInBounds (q + 2) (.iface TV xv)).setIfInBounds (q + 4) (.pointer (some ⟨g, t, none⟩))).setIfInBounds (t) (.pointer (some ⟨g, q, none⟩))).setIfInBounds (45) (.pointer (some ⟨g, q + 3, none⟩)))) := Lib.hid (by rw [← hW10]; exact HB10.out.set (45) _)
          have HT11 : Hid (But (fun k => k = g) w1 W10) := Lib.hid (by rw [← hW10]; exact HT10.out.set (p := ⟨g, 45, none⟩) rfl _)
          clear hW10 HB10 HT10 glt c45 g45
          have c42 : W10.cell? ⟨g, 42, none⟩ = some (.int .u32 n) := by
            have h1 := HQ.out
            have h2 := HTN.out
            have h3 := HTQ.out
            rw [HB11.out.cell]
            rw [Array.getElem?_setIfInBounds_ne (by omega)]; rw [Array.getElem?_setIfInBounds_ne (by omega)]; rw [Array.getElem?_setIfInBounds_ne (by omega)]; rw [Array.getElem?_setIfInBounds_ne (by omega)]; rw [Array.getElem?_setIfInBounds_ne (by omega)]; rw [Array.getElem?_setIfInBounds_ne (by omega)]
            exact HK42.out
          have g42 := HB11.out.frozen (42)
          have glt := HB11.out.lt
          have wnn : IntKind.u32.wrap ((n : Int) + 1) = (n : Int) + 1 := by simp [IntKind.wrap, IntKind.bits, IntKind.signed]; omega
          go_wp2_with fail
          go_ret
          refine ⟨rfl, h, HH0.out, ?_, HT11.out.set (p := ⟨g, 42, none⟩) rfl _⟩
          have h9 := HPU.out
          rw [show ((n + 1 : Nat) : Int) = (n : Int) + 1 from rfl] at h9
          rw [← h9]
          exact HB11.out.set 42 _


set_option maxHeartbeats 1000000 in
theorem insert_0 (g : Nat) (T : TypeId) (es : List En) (h0 : es = []) (hn : es.length ≤ 7) (kv : Value) (TV : TypeId) (xv : Value) (w : World) (hb : Blk w g T (htZ false).toArray) (hz : ∀ e ∈ es, e.h ≠ 0) (ho : kv.oneCell' = true) (hoe : ∀ e ∈ es, e.k.oneCell' = true)
    (hk : HashM (But (fun k => k = g) w) kv) (he : ∀ e ∈ es, ∀ W, But (fun k => k = g) w W → Calls Tryz.prog 119 #[kv, e.k] W (CmpOut False W)) :
    Calls Tryz.prog 100 #[.pointer (some ⟨g, 0, none⟩), kv, .iface TV xv] w (InsOut g T es kv (.iface TV xv) w) := by
  obtain ⟨TT, x, F, rfl, hm, hf, hc⟩ := hk
  have HC := Lib.hid hc
  have HB := Lib.hid hb
  have HE := Lib.hid he
  have HO := Lib.hid (And.intro hz hoe)
  obtain ⟨n, hnn⟩ : ∃ n, n = es.length := ⟨_, rfl⟩
  have HNN := Lib.hid hnn
  have hnn7 : n ≤ 7 := by omega
  clear hnn
  have c0 : w.cell? ⟨g, 0, none⟩ = some (.slice none 0 0) := hb.cell 0
  have c43 : w.cell? ⟨g, 43, none⟩ = some (.int .u32 0) := by rw [hb.cell]; rfl
  have c46 : w.cell? ⟨g, 46, none⟩ = some (.bool false) := by rw [hb.cell]; rfl
  have hsn : ∀ W : World, (binOp .eql 159 (.slice none 0 0) (.slice none 0 0)).run Tryz.prog W = .ok (.bool true) W := fun W => by kernel_rfl
  have HM := Lib.hid (fun s => mutable_any g s w c46 c43)
  clear hb hc he hz hoe
  go_enter Tryz.func100, Tryz.ntmps100
  go_wp2
  go_step3
  go_wp2_with fail
  refine (HM.out _).mono ?_
  rintro e w1 ⟨rfl, rfl⟩
  go_wp2_with fail
  refine (htInit g T false w1 HB.out).mono ?_
  rintro e wi ⟨rfl, hbi, hti⟩
  have HBI : Hid (Blk wi g T (htI g es false).toArray) := Lib.hid (by rw [h0]; exact hbi)
  have HTI := Lib.hid hti
  clear hbi hti HB HM c0 c43 c46 h0
  go_wp2_with fail
  refine (HC.out _ HTI.out).mono ?_
  rintro e w2 ⟨h, rfl, hb2⟩
  have hB2 := HBI.out.below hb2 HBI.out.lt
  have HB2 := Lib.hid hB2
  have HT2 : Hid (But (fun k => k = g) w1 w2) := Lib.hid (HTI.out.trans (But.of_below hb2))
  clear HBI HTI
  have c0 : w2.cell? ⟨g, 0, none⟩ = some (.slice (some ⟨g, 1, none⟩) 1 1) := hB2.cell 0
  clear hB2 hb2 HC hm hf hsn
  by_cases hh : h = 0
  · subst hh
    have a0 := and_0 1
    have HH0 : Hid ((1 : Int) ≠ 0) := Lib.hid (by decide)
    go_wp2_with fail
    go_step3
    go_wp2_with fail
    go_quiet (fail)
    have HB3 : Hid (Blk (w2.drewN nq) g T (htI g es false).toArray) := Lib.hid HB2.out
    have HT3 : Hid (But (fun k => k = g) w1 (w2.drewN nq)) := Lib.hid (HT2.out.drewN nq)
    clear HB2 HT2 a0 c0
    go_wp2
    go_loopw [10, 11] (fun iv pv wr => iv = .pointer none ∧ pv = .pointer (some ⟨g, 1, none⟩) ∧ Hid (Blk wr g T (htI g es false).toArray) ∧ Hid (But (fun k => k = g) w1 wr)) (fun _ _ _ => 0)
    case atStart => exact ⟨rfl, rfl, HB3, HT3⟩
    case round =>
      obtain ⟨rfl, rfl, HB4, HT4⟩ := hrel
      clear HB3 HT3
      go_wp2
      go_loopw [53, 10] (fun iv nv wr => ∃ i : Nat, iv = .int .i64 i ∧ nv = insV g n i ∧ i ≤ 8 ∧ Hid (Blk wr g T (htI g es false).toArray) ∧ Hid (But (fun k => k = g) w1 wr)) (fun iv _ _ => 8 - (intOf iv).toNat)
      case atStart => exact ⟨0, rfl, rfl, by decide, HB4, HT4⟩
      case round =>
        obtain ⟨i, rfl, rfl, hi, HB5, HT5⟩ := hrel
        clear HB4 HT4
        by_cases hlt : i < 8
        · have hpl := place_any HB5.out hn i hlt
          rw [← HNN.out] at hpl
          have HME := Lib.hid (ms_lt hlt)
          have HSI := Lib.hid (Nat.succ_le_of_lt hlt)
          rcases hpl with ⟨hfr, hce⟩ | ⟨htk, e, hee, hce, hck⟩
          · have HIV := Lib.hid (insV_no g n i hfr)
            have hz0 : ((0 : Int) != 1) = true := bne_yes (Ne.symm HH0.out)
            clear hfr
            go_wp2_with fail
            exact ⟨⟨i + 1, rfl, HIV.out.symm, HSI.out, HB5, HT5⟩, HME.out⟩
          · have HIV := Lib.hid (insV_yes g n i hnn7 htk)
            have hez := beq_no (HO.out.1 e hee)
            obtain ⟨eh, heh⟩ : ∃ eh, eh = e.h := ⟨_, rfl⟩
            obtain ⟨ek, hek⟩ : ∃ ek, ek = e.k := ⟨_, rfl⟩
            have hck1 := HO.out.2 e hee
            have HEQ := Lib.hid (HE.out e hee wr HT5.out)
            rw [← heh] at hce hez
            rw [← hek] at hck hck1 HEQ
            have HKK := Lib.hid hee
            clear htk heh hek hee
            by_cases hsm : eh = 1
            · subst hsm
              go_wp2_with fail
              refine HEQ.out.mono ?_
              rintro ee w5 ⟨r, rfl, hr, hb5⟩
              obtain rfl : r = false := by
                cases r
                · rfl
                · exact (hr rfl).elim
              have HB6 := Lib.hid (HB5.out.below hb5 HB5.out.lt)
              have HT6 : Hid (But (fun k => k = g) w1 w5) := Lib.hid (HT5.out.trans (But.of_below hb5))
              clear HB5 HT5 hb5 hr hce hck HEQ
              go_wp2_with fail
              exact ⟨⟨i + 1, rfl, HIV.out.symm, HSI.out, HB6, HT6⟩, HME.out⟩
            · have hnz := bne_yes hsm
              go_wp2_with fail
              exact ⟨⟨i + 1, rfl, HIV.out.symm, HSI.out, HB5, HT5⟩, HME.out⟩
        · have hi8 : i = 8 := by omega
          subst hi8
          have c41 : wr.cell? ⟨g, 41, none⟩ = some (.pointer none) := by rw [HB5.out.cell]; simpa using htI_end g es false 0
          have c42 : wr.cell? ⟨g, 42, none⟩ = some (.int .u32 n) := by rw [HB5.out.cell, HNN.out]; simpa using htI_end g es false 1
          have c0 : wr.cell? ⟨g, 0, none⟩ = some (.slice (some ⟨g, 1, none⟩) 1 1) := HB5.out.cell 0
          have hvn := insV_8 g n hnn7
          rw [hvn]
          have HOV : Hid (∀ k, Calls Tryz.prog 120 #[.int .i64 (n : Int), .int .i64 1] (wr.drewN k) fun e w' => e = .returned (.bool false) ∧ ∃ m, w' = wr.drewN m) := Lib.hid fun k => by
            refine (overloaded_no (n : Int) 1 _ (by omega)).mono ?_
            rintro e w' ⟨rfl, rfl⟩
            exact ⟨rfl, k, rfl⟩
          have wn : IntKind.i64.wrap (n : Int) = (n : Int) := by rw [IntKind.wrap_i64]; omega
          have hpn : ∀ (W : World) (q : Nat), (binOp .eql 160 (.pointer (some ⟨g, q, none⟩)) (.pointer none)).run Tryz.prog W = .ok (.bool false) W := fun W q => by kernel_rfl
          clear hvn hlt hi
          go_wp2_with fail
          go_quiet (exact HOV.out _)
          generalize hW5 : wr.drewN nq = W5
          have HB6 : Hid (Blk W5 g T (htI g es false).toArray) := Lib.hid (by rw [← hW5]; exact HB5.out.drewN _)
          have HT6 : Hid (But (fun k => k = g) w1 W5) := Lib.hid (by rw [← hW5]; exact HT5.out.drewN _)
          clear hW5 HB5 HT5 c41 c42 c0 HOV wn
          have c42 : W5.cell? ⟨g, 42, none⟩ = some (.int .u32 n) := by rw [HB6.out.cell, HNN.out]; simpa using htI_end g es false 1
          have c45 : W5.cell? ⟨g, 45, none⟩ = some (.pointer (some ⟨g, tOff n, none⟩)) := by rw [HB6.out.cell, HNN.out]; simpa using htI_end g es false 4
          have ct : W5.cell? ⟨g, tOff n, none⟩ = some (.pointer none) := by rw [HB6.out.cell, HNN.out]; simpa using htI_tail g es false (by omega)
          have cq0 : W5.cell? ⟨g, 1 + (7 - n) * 5, none⟩ = some (.int .u32 0) := by rw [HB6.out.cell, HNN.out]; simpa using htI_free g es false hn 0 (by decide)
          have cq1 : W5.cell? ⟨g, 1 + (7 - n) * 5 + 1, none⟩ = some .nilIface := by rw [HB6.out.cell, HNN.out]; simpa using htI_free g es false hn 1 (by decide)
          have cq2 : W5.cell? ⟨g, 1 + (7 - n) * 5 + 2, none⟩ = some .nilIface := by rw [HB6.out.cell, HNN.out]; simpa using htI_free g es false hn 2 (by decide)
          have cq4 : W5.cell? ⟨g, 1 + (7 - n) * 5 + 4, none⟩ = some (.pointer none) := by rw [HB6.out.cell, HNN.out]; simpa using htI_free g es false hn 4 (by decide)
          have HPU := Lib.hid (htI_push g es ⟨1, .iface TT x, .iface TV xv⟩ false hn)
          have htn := tOff_ne n (by omega)
          rw [← HNN.out] at HPU
          obtain ⟨C, hC⟩ : ∃ C, C = (htI g es false).toArray := ⟨_, rfl⟩
          rw [← hC] at HPU HB6
          obtain ⟨t, ht⟩ : ∃ t, t = tOff n := ⟨_, rfl⟩
          obtain ⟨q, hqq⟩ : ∃ q, q = 1 + (7 - n) * 5 := ⟨_, rfl⟩
          rw [← ht] at c45 ct htn HPU
          rw [← hqq] at cq0 cq1 cq2 cq4 HPU ⊢
          have HQ : Hid (q ≤ 36) := Lib.hid (by omega)
          have HTN := Lib.hid htn
          have HTQ : Hid (t = 44 ∨ t = q + 8) := Lib.hid (by rw [ht, hqq]; unfold tOff; split <;> omega)
          have HK42 : Hid (C[42]? = some (.int .u32 n)) := Lib.hid (by rw [← HB6.out.cell]; exact c42)
          have HK45 : Hid (C[45]? = some (.pointer (some ⟨g, t, none⟩))) := Lib.hid (by rw [← HB6.out.cell]; exact c45)
          have HKT : Hid (C[t]? = some (.pointer none)) := Lib.hid (by rw [← HB6.out.cell]; exact ct)
          have HKQ2 : Hid (C[q + 2]? = some .nilIface) := Lib.hid (by rw [← HB6.out.cell]; exact cq2)
          have HKQ4 : Hid (C[q + 4]? = some (.pointer none)) := Lib.hid (by rw [← HB6.out.cell]; exact cq4)
          have gq0 := HB6.out.frozen q
          have gq1 := HB6.out.frozen (q + 1)
          have glt := HB6.out.lt
          clear c42 c45 ct cq4 cq2 hC ht hqq htn
          go_upto_region 37 with fail
          generalize hW6 : ((W5.setCell ⟨g, q, none⟩ (.int .u32 1)).setCell ⟨g, q + 1, none⟩ (.iface TT x)) = W6
          have HB7 : Hid (Blk W6 g T ((C.setIfInBounds q (.int .u32 1)).setIfInBounds (q + 1) (.iface TT x))) := Lib.hid (by rw [← hW6]; exact (HB6.out.set q _).set (q + 1) _)
          have HT7 : Hid (But (fun k => k = g) w1 W6) := Lib.hid (by rw [← hW6]; exact (HT6.out.set (p := ⟨g, q, none⟩) rfl _).set (p := ⟨g, q + 1, none⟩) rfl _)
          clear hW6 HB6 HT6 gq0 gq1 glt cq0 cq1
          have cq2 : W6.cell? ⟨g, q + 2, none⟩ = some .nilIface := by rw [HB7.out.cell]; have := HQ.out; rw [Array.getElem?_setIfInBounds_ne (by omega), Array.getElem?_setIfInBounds_ne (by omega)]; exact HKQ2.out
          have gq2 := HB7.out.frozen (q + 2)
          have glt := HB7.out.lt
          go_upto_region 38 with fail
          generalize hW7 : (W6.setCell ⟨g, q + 2, none⟩ (.iface TV xv)) = W7
          have HB8 : Hid (Blk W7 g T (((C.setIfInBounds q (.int .u32 1)).setIfInBounds (q + 1) (.iface TT x)).setIfInBounds (q + 2) (.iface TV xv))) := Lib.hid (by rw [← hW7]; exact HB7.out.set (q + 2) _)
          have HT8 : Hid (But (fun k => k = g) w1 W7) := Lib.hid (by rw [← hW7]; exact HT7.out.set (p := ⟨g, q + 2, none⟩) rfl _)
          clear hW7 HB7 HT7 cq2 gq2 glt
          have c45 : W7.cell? ⟨g, 45, none⟩ = some (.pointer (some ⟨g, t, none⟩)) := by
            have h1 := HQ.out
            have h2 := HTN.out
            have h3 := HTQ.out
            rw [HB8.out.cell]
            rw [Array.getElem?_setIfInBounds_ne (by omega)]; rw [Array.getElem?_setIfInBounds_ne (by omega)]; rw [Array.getElem?_setIfInBounds_ne (by omega)]
            exact HK45.out
          have cq4 : W7.cell? ⟨g, q + 4, none⟩ = some (.pointer none) := by
            have h1 := HQ.out
            have h2 := HTN.out
            have h3 := HTQ.out
            rw [HB8.out.cell]
            rw [Array.getElem?_setIfInBounds_ne (by omega)]; rw [Array.getElem?_setIfInBounds_ne (by omega)]; rw [Array.getElem?_setIfInBounds_ne (by omega)]
            exact HKQ4.out
          have gq4 := HB8.out.frozen (q + 4)
          have glt := HB8.out.lt
          go_upto_region 39 with fail
          generalize hW8 : (W7.setCell ⟨g, q + 4, none⟩ (.pointer (some ⟨g, t, none⟩))) = W8
          have HB9 : Hid (Blk W8 g T ((((C.setIfInBounds q (.int .u32 1)).setIfInBounds (q + 1) (.iface TT x)).setIfInBounds (q + 2) (.iface TV xv)).setIfInBounds (q + 4) (.pointer (some ⟨g, t, none⟩)))) := Lib.hid (by rw [← hW8]; exact HB8.out.set (q + 4) _)
          have HT9 : Hid (But (fun k => k = g) w1 W8) := Lib.hid (by rw [← hW8]; exact HT8.out.set (p := ⟨g, q + 4, none⟩) rfl _)
          clear hW8 HB8 HT8 glt c45 cq4 gq4
          have c45 : W8.cell? ⟨g, 45, none⟩ = some (.pointer (some ⟨g, t, none⟩)) := by
            have h1 := HQ.out
            have h2 := HTN.out
            have h3 := HTQ.out
            rw [HB9.out.cell]
            rw [Array.getElem?_setIfInBounds_ne (by omega)]; rw [Array.getElem?_setIfInBounds_ne (by omega)]; rw [Array.getElem?_setIfInBounds_ne (by omega)]; rw [Array.getElem?_setIfInBounds_ne (by omega)]
            exact HK45.out
          have ct : W8.cell? ⟨g, t, none⟩ = some (.pointer none) := by
            have h1 := HQ.out
            have h2 := HTN.out
            have h3 := HTQ.out
            rw [HB9.out.cell]
            rw [Array.getElem?_setIfInBounds_ne (by omega)]; rw [Array.getElem?_setIfInBounds_ne (by omega)]; rw [Array.getElem?_setIfInBounds_ne (by omega)]; rw [Array.getElem?_setIfInBounds_ne (by omega)]
            exact HKT.out
          have gt := HB9.out.frozen (t)
          have glt := HB9.out.lt
          go_upto_region 40 with fail
          generalize hW9 : (W8.setCell ⟨g, t, none⟩ (.pointer (some ⟨g, q, none⟩))) = W9
          have HB10 : Hid (Blk W9 g T (((((C.setIfInBounds q (.int .u32 1)).setIfInBounds (q + 1) (.iface TT x)).setIfInBounds (q + 2) (.iface TV xv)).setIfInBounds (q + 4) (.pointer (some ⟨g, t, none⟩))).setIfInBounds (t) (.pointer (some ⟨g, q, none⟩)))) := Lib.hid (by rw [← hW9]; exact HB9.out.set (t) _)
          have HT10 : Hid (But (fun k => k = g) w1 W9) := Lib.hid (by rw [← hW9]; exact HT9.out.set (p := ⟨g, t, none⟩) rfl _)
          clear hW9 HB9 HT9 glt c45 ct gt
          have c45 : W9.cell? ⟨g, 45, none⟩ = some (.pointer (some ⟨g, t, none⟩)) := by
            have h1 := HQ.out
            have h2 := HTN.out
            have h3 := HTQ.out
            rw [HB10.out.cell]
            rw [Array.getElem?_setIfInBounds_ne (by omega)]; rw [Array.getElem?_setIfInBounds_ne (by omega)]; rw [Array.getElem?_setIfInBounds_ne (by omega)]; rw [Array.getElem?_setIfInBounds_ne (by omega)]; rw [Array.getElem?_setIfInBounds_ne (by omega)]
            exact HK45.out
          have g45 := HB10.out.frozen (45)
          have glt := HB10.out.lt
          go_upto_region 41 with fail
          generalize hW10 : (W9.setCell ⟨g, 45, none⟩ (.pointer (some ⟨g, q + 3, none⟩))) = W10
          have HB11 : Hid (Blk W10 g T ((((((C.setIfInBounds q (.int .u32 1)).setIfInBounds (q + 1) (.iface TT x)).setIfInBounds (q + 2) (.iface TV xv)).setIfInBounds (q + 4) (.pointer (some ⟨g, t, none⟩))).setIfInBounds (t) (.pointer (some ⟨g, q, none⟩))).setIfInBounds (45) (.pointer (some ⟨g, q + 3, none⟩)))) := Lib.hid (by rw [← hW10]; exact HB10.out.set (45) _)
          have HT11 : Hid (But (fun k => k = g) w1 W10) := Lib.hid (by rw [← hW10]; exact HT10.out.set (p := ⟨g, 45, none⟩) rfl _)
          clear hW10 HB10 HT10 glt c45 g45
          have c42 : W10.cell? ⟨g, 42, none⟩ = some (.int .u32 n) := by
            have h1 := HQ.out
            have h2 := HTN.out
            have h3 := HTQ.out
            rw [HB11.out.cell]
            rw [Array.getElem?_setIfInBounds_ne (by omega)]; rw [Array.getElem?_setIfInBounds_ne (by omega)]; rw [Array.getElem?_setIfInBounds_ne (by omega)]; rw [Array.getElem?_setIfInBounds_ne (by omega)]; rw [Array.getElem?_setIfInBounds_ne (by omega)]; rw [Array.getElem?_setIfInBounds_ne (by omega)]
            exact HK42.out
          have g42 := HB11.out.frozen (42)
          have glt := HB11.out.lt
          have wnn : IntKind.u32.wrap ((n : Int) + 1) = (n : Int) + 1 := by simp [IntKind.wrap, IntKind.bits, IntKind.signed]; omega
          go_wp2_with fail
          go_ret
          refine ⟨rfl, 1, HH0.out, ?_, HT11.out.set (p := ⟨g, 42, none⟩) rfl _⟩
          have h9 := HPU.out
          rw [show ((n + 1 : Nat) : Int) = (n : Int) + 1 from rfl] at h9
          rw [← h9]
          exact HB11.out.set 42 _

  · have hq := beq_no hh
    have a0 := and_0 h
    have HH0 : Hid ((h : Int) ≠ 0) := Lib.hid (hh)
    go_wp2_with fail
    go_step3
    go_wp2_with fail
    go_quiet (fail)
    have HB3 : Hid (Blk (w2.drewN nq) g T (htI g es false).toArray) := Lib.hid HB2.out
    have HT3 : Hid (But (fun k => k = g) w1 (w2.drewN nq)) := Lib.hid (HT2.out.drewN nq)
    clear HB2 HT2 a0 c0
    go_wp2
    go_loopw [10, 11] (fun iv pv wr => iv = .pointer none ∧ pv = .pointer (some ⟨g, 1, none⟩) ∧ Hid (Blk wr g T (htI g es false).toArray) ∧ Hid (But (fun k => k = g) w1 wr)) (fun _ _ _ => 0)
    case atStart => exact ⟨rfl, rfl, HB3, HT3⟩
    case round =>
      obtain ⟨rfl, rfl, HB4, HT4⟩ := hrel
      clear HB3 HT3
      go_wp2
      go_loopw [53, 10] (fun iv nv wr => ∃ i : Nat, iv = .int .i64 i ∧ nv = insV g n i ∧ i ≤ 8 ∧ Hid (Blk wr g T (htI g es false).toArray) ∧ Hid (But (fun k => k = g) w1 wr)) (fun iv _ _ => 8 - (intOf iv).toNat)
      case atStart => exact ⟨0, rfl, rfl, by decide, HB4, HT4⟩
      case round =>
        obtain ⟨i, rfl, rfl, hi, HB5, HT5⟩ := hrel
        clear HB4 HT4
        by_cases hlt : i < 8
        · have hpl := place_any HB5.out hn i hlt
          rw [← HNN.out] at hpl
          have HME := Lib.hid (ms_lt hlt)
          have HSI := Lib.hid (Nat.succ_le_of_lt hlt)
          rcases hpl with ⟨hfr, hce⟩ | ⟨htk, e, hee, hce, hck⟩
          · have HIV := Lib.hid (insV_no g n i hfr)
            have hz0 : ((0 : Int) != h) = true := bne_yes (Ne.symm HH0.out)
            clear hfr
            go_wp2_with fail
            exact ⟨⟨i + 1, rfl, HIV.out.symm, HSI.out, HB5, HT5⟩, HME.out⟩
          · have HIV := Lib.hid (insV_yes g n i hnn7 htk)
            have hez := beq_no (HO.out.1 e hee)
            obtain ⟨eh, heh⟩ : ∃ eh, eh = e.h := ⟨_, rfl⟩
            obtain ⟨ek, hek⟩ : ∃ ek, ek = e.k := ⟨_, rfl⟩
            have hck1 := HO.out.2 e hee
            have HEQ := Lib.hid (HE.out e hee wr HT5.out)
            rw [← heh] at hce hez
            rw [← hek] at hck hck1 HEQ
            have HKK := Lib.hid hee
            clear htk heh hek hee
            by_cases hsm : eh = h
            · subst hsm
              go_wp2_with fail
              refine HEQ.out.mono ?_
              rintro ee w5 ⟨r, rfl, hr, hb5⟩
              obtain rfl : r = false := by
                cases r
                · rfl
                · exact (hr rfl).elim
              have HB6 := Lib.hid (HB5.out.below hb5 HB5.out.lt)
              have HT6 : Hid (But (fun k => k = g) w1 w5) := Lib.hid (HT5.out.trans (But.of_below hb5))
              clear HB5 HT5 hb5 hr hce hck HEQ
              go_wp2_with fail
              exact ⟨⟨i + 1, rfl, HIV.out.symm, HSI.out, HB6, HT6⟩, HME.out⟩
            · have hnz := bne_yes hsm
              go_wp2_with fail
              exact ⟨⟨i + 1, rfl, HIV.out.symm, HSI.out, HB5, HT5⟩, HME.out⟩
        · have hi8 : i = 8 := by omega
          subst hi8
          have c41 : wr.cell? ⟨g, 41, none⟩ = some (.pointer none) := by rw [HB5.out.cell]; simpa using htI_end g es false 0
          have c42 : wr.cell? ⟨g, 42, none⟩ = some (.int .u32 n) := by rw [HB5.out.cell, HNN.out]; simpa using htI_end g es false 1
          have c0 : wr.cell? ⟨g, 0, none⟩ = some (.slice (some ⟨g, 1, none⟩) 1 1) := HB5.out.cell 0
          have hvn := insV_8 g n hnn7
          rw [hvn]
          have HOV : Hid (∀ k, Calls Tryz.prog 120 #[.int .i64 (n : Int), .int .i64 1] (wr.drewN k) fun e w' => e = .returned (.bool false) ∧ ∃ m, w' = wr.drewN m) := Lib.hid fun k => by
            refine (overloaded_no (n : Int) 1 _ (by omega)).mono ?_
            rintro e w' ⟨rfl, rfl⟩
            exact ⟨rfl, k, rfl⟩
          have wn : IntKind.i64.wrap (n : Int) = (n : Int) := by rw [IntKind.wrap_i64]; omega
          have hpn : ∀ (W : World) (q : Nat), (binOp .eql 160 (.pointer (some ⟨g, q, none⟩)) (.pointer none)).run Tryz.prog W = .ok (.bool false) W := fun W q => by kernel_rfl
          clear hvn hlt hi
          go_wp2_with fail
          go_quiet (exact HOV.out _)
          generalize hW5 : wr.drewN nq = W5
          have HB6 : Hid (Blk W5 g T (htI g es false).toArray) := Lib.hid (by rw [← hW5]; exact HB5.out.drewN _)
          have HT6 : Hid (But (fun k => k = g) w1 W5) := Lib.hid (by rw [← hW5]; exact HT5.out.drewN _)
          clear hW5 HB5 HT5 c41 c42 c0 HOV wn
          have c42 : W5.cell? ⟨g, 42, none⟩ = some (.int .u32 n) := by rw [HB6.out.cell, HNN.out]; simpa using htI_end g es false 1
          have c45 : W5.cell? ⟨g, 45, none⟩ = some (.pointer (some ⟨g, tOff n, none⟩)) := by rw [HB6.out.cell, HNN.out]; simpa using htI_end g es false 4
          have ct : W5.cell? ⟨g, tOff n, none⟩ = some (.pointer none) := by rw [HB6.out.cell, HNN.out]; simpa using htI_tail g es false (by omega)
          have cq0 : W5.cell? ⟨g, 1 + (7 - n) * 5, none⟩ = some (.int .u32 0) := by rw [HB6.out.cell, HNN.out]; simpa using htI_free g es false hn 0 (by decide)
          have cq1 : W5.cell? ⟨g, 1 + (7 - n) * 5 + 1, none⟩ = some .nilIface := by rw [HB6.out.cell, HNN.out]; simpa using htI_free g es false hn 1 (by decide)
          have cq2 : W5.cell? ⟨g, 1 + (7 - n) * 5 + 2, none⟩ = some .nilIface := by rw [HB6.out.cell, HNN.out]; simpa using htI_free g es false hn 2 (by decide)
          have cq4 : W5.cell? ⟨g, 1 + (7 - n) * 5 + 4, none⟩ = some (.pointer none) := by rw [HB6.out.cell, HNN.out]; simpa using htI_free g es false hn 4 (by decide)
          have HPU := Lib.hid (htI_push g es ⟨h, .iface TT x, .iface TV xv⟩ false hn)
          have htn := tOff_ne n (by omega)
          rw [← HNN.out] at HPU
          obtain ⟨C, hC⟩ : ∃ C, C = (htI g es false).toArray := ⟨_, rfl⟩
          rw [← hC] at HPU HB6
          obtain ⟨t, ht⟩ : ∃ t, t = tOff n := ⟨_, rfl⟩
          obtain ⟨q, hqq⟩ : ∃ q, q = 1 + (7 - n) * 5 := ⟨_, rfl⟩
          rw [← ht] at c45 ct htn HPU
          rw [← hqq] at cq0 cq1 cq2 cq4 HPU ⊢
          have HQ : Hid (q ≤ 36) := Lib.hid (by omega)
          have HTN := Lib.hid htn
          have HTQ : Hid (t = 44 ∨ t = q + 8) := Lib.hid (by rw [ht, hqq]; unfold tOff; split <;> omega)
          have HK42 : Hid (C[42]? = some (.int .u32 n)) := Lib.hid (by rw [← HB6.out.cell]; exact c42)
          have HK45 : Hid (C[45]? = some (.pointer (some ⟨g, t, none⟩))) := Lib.hid (by rw [← HB6.out.cell]; exact c45)
          have HKT : Hid (C[t]? = some (.pointer none)) := Lib.hid (by rw [← HB6.out.cell]; exact ct)
          have HKQ2 : Hid (C[q + 2]? = some .nilIface) := Lib.hid (by rw [← HB6.out.cell]; exact cq2)
          have HKQ4 : Hid (C[q + 4]? = some (.pointer none)) := Lib.hid (by rw [← HB6.out.cell]; exact cq4)
          have gq0 := HB6.out.frozen q
          have gq1 := HB6.out.frozen (q + 1)
          have glt := HB6.out.lt
          clear c42 c45 ct cq4 cq2 hC ht hqq htn
          go_upto_region 37 with fail
          generalize hW6 : ((W5.setCell ⟨g, q, none⟩ (.int .u32 h)).setCell ⟨g, q + 1, none⟩ (.iface TT x)) = W6
          have HB7 : Hid (Blk W6 g T ((C.setIfInBounds q (.int .u32 h)).setIfInBounds (q + 1) (.iface TT x))) := Lib.hid (by rw [← hW6]; exact (HB6.out.set q _).set (q + 1) _)
          have HT7 : Hid (But (fun k => k = g) w1 W6) := Lib.hid (by rw [← hW6]; exact (HT6.out.set (p := ⟨g, q, none⟩) rfl _).set (p := ⟨g, q + 1, none⟩) rfl _)
          clear hW6 HB6 HT6 gq0 gq1 glt cq0 cq1
          have cq2 : W6.cell? ⟨g, q + 2, none⟩ = some .nilIface := by rw [HB7.out.cell]; have := HQ.out; rw [Array.getElem?_setIfInBounds_ne (by omega), Array.getElem?_setIfInBounds_ne (by omega)]; exact HKQ2.out
          have gq2 := HB7.out.frozen (q + 2)
          have glt := HB7.out.lt
          go_upto_region 38 with fail
          generalize hW7 : (W6.setCell ⟨g, q + 2, none⟩ (.iface TV xv)) = W7
          have HB8 : Hid (Blk W7 g T (((C.setIfInBounds q (.int .u32 h)).setIfInBounds (q + 1) (.iface TT x)).setIfInBounds (q + 2) (.iface TV xv))) := Lib.hid (by rw [← hW7]; exact HB7.out.set (q + 2) _)
          have HT8 : Hid (But (fun k => k = g) w1 W7) := Lib.hid (by rw [← hW7]; exact HT7.out.set (p := ⟨g, q + 2, none⟩) rfl _)
          clear hW7 HB7 HT7 cq2 gq2 glt
          have c45 : W7.cell? ⟨g, 45, none⟩ = some (.pointer (some ⟨g, t, none⟩)) := by
            have h1 := HQ.out
            have h2 := HTN.out
            have h3 := HTQ.out
            rw [HB8.out.cell]
            rw [Array.getElem?_setIfInBounds_ne (by omega)]; rw [Array.getElem?_setIfInBounds_ne (by omega)]; rw [Array.getElem?_setIfInBounds_ne (by omega)]
            exact HK45.out
          have cq4 : W7.cell? ⟨g, q + 4, none⟩ = some (.pointer none) := by
            have h1 := HQ.out
            have h2 := HTN.out
            have h3 := HTQ.out
            rw [HB8.out.cell]
            rw [Array.getElem?_setIfInBounds_ne (by omega)]; rw [Array.getElem?_setIfInBounds_ne (by omega)]; rw [Array.getElem?_setIfInBounds_ne (by omega)]
            exact HKQ4.out
          have gq4 := HB8.out.frozen (q + 4)
          have glt := HB8.out.lt
          go_upto_region 39 with fail
          generalize hW8 : (W7.setCell ⟨g, q + 4, none⟩ (.pointer (some ⟨g, t, none⟩))) = W8
          have HB9 : Hid (Blk W8 g T ((((C.setIfInBounds q (.int .u32 h)).setIfInBounds (q + 1) (.iface TT x)).setIfInBounds (q + 2) (.iface TV xv)).setIfInBounds (q + 4) (.pointer (some ⟨g, t, none⟩)))) := Lib.hid (by rw [← hW8]; exact HB8.out.set (q + 4) _)
          have HT9 : Hid (But (fun k => k = g) w1 W8) := Lib.hid (by rw [← hW8]; exact HT8.out.set (p := ⟨g, q + 4, none⟩) rfl _)
          clear hW8 HB8 HT8 glt c45 cq4 gq4
          have c45 : W8.cell? ⟨g, 45, none⟩ = some (.pointer (some ⟨g, t, none⟩)) := by
            have h1 := HQ.out
            have h2 := HTN.out
            have h3 := HTQ.out
            rw [HB9.out.cell]
            rw [Array.getElem?_setIfInBounds_ne (by omega)]; rw [Array.getElem?_setIfInBounds_ne (by omega)]; rw [Array.getElem?_setIfInBounds_ne (by omega)]; rw [Array.getElem?_setIfInBounds_ne (by omega)]
            exact HK45.out
          have ct : W8.cell? ⟨g, t, none⟩ = some (.pointer none) := by
            have h1 := HQ.out
            have h2 := HTN.out
            have h3 := HTQ.out
            rw [HB9.out.cell]
            rw [Array.getElem?_setIfInBounds_ne (by omega)]; rw [Array.getElem?_setIfInBounds_ne (by omega)]; rw [Array.getElem?_setIfInBounds_ne (by omega)]; rw [Array.getElem?_setIfInBounds_ne (by omega)]
            exact HKT.out
          have gt := HB9.out.frozen (t)
          have glt := HB9.out.lt
          go_upto_region 40 with fail
          generalize hW9 : (W8.setCell ⟨g, t, none⟩ (.pointer (some ⟨g, q, none⟩))) = W9
          have HB10 : Hid (Blk W9 g T (((((C.setIfInBounds q (.int .u32 h)).setIfInBounds (q + 1) (.iface TT x)).setIfInBounds (q + 2) (.iface TV xv)).setIfInBounds (q + 4) (.pointer (some ⟨g, t, none⟩))).setIfInBounds (t) (.pointer (some ⟨g, q, none⟩)))) := Lib.hid (by rw [← hW9]; exact HB9.out.set (t) _)
          have HT10 : Hid (But (fun k => k = g) w1 W9) := Lib.hid (by rw [← hW9]; exact HT9.out.set (p := ⟨g, t, none⟩) rfl _)
          clear hW9 HB9 HT9 glt c45 ct gt
          have c45 : W9.cell? ⟨g, 45, none⟩ = some (.pointer (some ⟨g, t, none⟩)) := by
            have h1 := HQ.out
            have h2 := HTN.out
            have h3 := HTQ.out
            rw [HB10.out.cell]
            rw [Array.getElem?_setIfInBounds_ne (by omega)]; rw [Array.getElem?_setIfInBounds_ne (by omega)]; rw [Array.getElem?_setIfInBounds_ne (by omega)]; rw [Array.getElem?_setIfInBounds_ne (by omega)]; rw [Array.getElem?_setIfInBounds_ne (by omega)]
            exact HK45.out
          have g45 := HB10.out.frozen (45)
          have glt := HB10.out.lt
          go_upto_region 41 with fail
          generalize hW10 : (W9.setCell ⟨g, 45, none⟩ (.pointer (some ⟨g, q + 3, none⟩))) = W10
          have HB11 : Hid (Blk W10 g T ((((((C.setIfInBounds q (.int .u32 h)).setIfInBounds (q + 1) (.iface TT x)).setIfInBounds (q + 2) (.iface TV xv)).setIfInBounds (q + 4) (.pointer (some ⟨g, t, none⟩))).setIfInBounds (t) (.pointer (some ⟨g, q, none⟩))).setIfInBounds (45) (.pointer (some ⟨g, q + 3, none⟩)))) := Lib.hid (by rw [← hW10]; exact HB10.out.set (45) _)
          have HT11 : Hid (But (fun k => k = g) w1 W10) := Lib.hid (by rw [← hW10]; exact HT10.out.set (p := ⟨g, 45, none⟩) rfl _)
          clear hW10 HB10 HT10 glt c45 g45
          have c42 : W10.cell? ⟨g, 42, none⟩ = some (.int .u32 n) := by
            have h1 := HQ.out
            have h2 := HTN.out
            have h3 := HTQ.out
            rw [HB11.out.cell]
            rw [Array.getElem?_setIfInBounds_ne (by omega)]; rw [Array.getElem?_setIfInBounds_ne (by omega)]; rw [Array.getElem?_setIfInBounds_ne (by omega)]; rw [Array.getElem?_setIfInBounds_ne (by omega)]; rw [Array.getElem?_setIfInBounds_ne (by omega)]; rw [Array.getElem?_setIfInBounds_ne (by omega)]
            exact HK42.out
          have g42 := HB11.out.frozen (42)
          have glt := HB11.out.lt
          have wnn : IntKind.u32.wrap ((n : Int) + 1) = (n : Int) + 1 := by simp [IntKind.wrap, IntKind.bits, IntKind.signed]; omega
          go_wp2_with fail
          go_ret
          refine ⟨rfl, h, HH0.out, ?_, HT11.out.set (p := ⟨g, 42, none⟩) rfl _⟩
          have h9 := HPU.out
          rw [show ((n + 1 : Nat) : Int) = (n : Int) + 1 from rfl] at h9
          rw [← h9]
          exact HB11.out.set 42 _


theorem insert_any (g : Nat) (T : TypeId) (es : List En) (hn : es.length ≤ 7) (kv : Value) (TV : TypeId) (xv : Value) (w : World) (hb : Blk w g T (htC g es false).toArray) (hz : ∀ e ∈ es, e.h ≠ 0) (ho : kv.oneCell' = true) (hoe : ∀ e ∈ es, e.k.oneCell' = true)
    (hk : HashM (But (fun k => k = g) w) kv) (he : ∀ e ∈ es, ∀ W, But (fun k => k = g) w W → Calls Tryz.prog 119 #[kv, e.k] W (CmpOut False W)) :
    Calls Tryz.prog 100 #[.pointer (some ⟨g, 0, none⟩), kv, .iface TV xv] w fun e w' => e = .returned .nilIface ∧ ∃ h, h ≠ 0 ∧ Blk w' g T (htC g (es ++ [⟨h, kv, .iface TV xv⟩]) false).toArray ∧ But (fun k => k = g) w w' := by
  have hC : ∀ e : En, htC g (es ++ [e]) false = htI g (es ++ [e]) false := fun e => by unfold htC; rw [if_neg (by simp)]
  by_cases h0 : es.length = 0
  · rw [htC, if_pos h0] at hb
    refine (insert_0 g T es (List.length_eq_zero_iff.1 h0) hn kv TV xv w hb hz ho hoe hk he).mono ?_
    rintro e w' ⟨rfl, h, h1, h2, h3⟩
    exact ⟨rfl, h, h1, by rw [hC]; exact h2, h3⟩
  · rw [htC, if_neg h0] at hb
    refine (insert_ne g T es hn kv TV xv w hb hz ho hoe hk he).mono ?_
    rintro e w' ⟨rfl, h, h1, h2, h3⟩
    exact ⟨rfl, h, h1, by rw [hC]; exact h2, h3⟩
end Go.Proofs.YtloloifngbmibaaGreatDoor
