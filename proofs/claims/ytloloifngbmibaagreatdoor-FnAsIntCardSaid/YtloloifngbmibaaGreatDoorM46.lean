/- The thin package's AsInt. -/
import Derived.Test.YtloloifngbmibaaGreatDoorM45
set_option linter.unusedVariables false
set_option linter.unusedSimpArgs false
set_option maxRecDepth 4000
namespace Go.Proofs.YtloloifngbmibaaGreatDoor
open Go.RowKit

theorem AsOut.imp {P Q : Prop} (hpq : P ↔ Q) {p : Nat} {T : TypeId} {k : IntKind} {x : Int} {w w' : World} {e : Ending} (h : AsOut P p T k x w e w') : AsOut Q p T k x w e w' := by
  rcases h with ⟨h1, h2⟩ | ⟨h1, h2⟩
  · exact .inl ⟨hpq.1 h1, h2⟩
  · exact .inr ⟨fun hq => h1 (hpq.2 hq), h2⟩
theorem now_sl2 {w w2 w3 : World} {A : Option Addr} {c : Nat} {l : List Int} {n g : Nat} {v0 v1 v2 v3 v4 v5 : Value} (h : SlV w3 (Nw w2 w3) .u8 (.slice A n c) l) (hs : w.heap.size ≤ w2.heap.size) (hg : g < w2.heap.size) :
    SlV ((((((w3.setCell ⟨g, 0, none⟩ v0).setCell ⟨g, 1, none⟩ v1).setCell ⟨g, 2, none⟩ v2).setCell ⟨g, 3, none⟩ v3).setCell ⟨g, 4, none⟩ v4).setCell ⟨g, 5, none⟩ v5)
      (Nw w ((((((w3.setCell ⟨g, 0, none⟩ v0).setCell ⟨g, 1, none⟩ v1).setCell ⟨g, 2, none⟩ v2).setCell ⟨g, 3, none⟩ v3).setCell ⟨g, 4, none⟩ v4).setCell ⟨g, 5, none⟩ v5)) .u8 (.slice A n c) l := by
  refine (h.keep ?_).mono (fun k hk => ⟨Nat.le_trans hs hk.1, by simpa using hk.2⟩)
  have hne : ∀ (i : Nat) k, Nw w2 w3 k → k ≠ (⟨g, i, none⟩ : Addr).block := fun i k hk => Nat.ne_of_gt (Nat.lt_of_lt_of_le hg hk.1)
  exact ((((((Still.refl _ w3).set (hne 0) _).set (hne 1) _).set (hne 2) _).set (hne 3) _).set (hne 4) _).set (hne 5) _
/-- What is not an int. -/
theorem asNo_fv {fz : Bool} {d a b : Nat} {t : Tr} {W : World} {v pv : Value} (h : FV fz d a b t W v) (hk : t.k ≠ 2) : Calls Tryz.prog 59 #[v, pv] W (ErrOut W) := by
  have hf : ∀ {v : Value}, FVF a b t W v → Calls Tryz.prog 59 #[v, pv] W (ErrOut W) := fun h => by
    cases h with
    | none h => exact asNo (fun W => by kernel_rfl)
    | bool h => exact asNo (fun W => by kernel_rfl)
    | int v h hs => exact absurd h hk
    | flt h => exact asNo (fun W => by kernel_rfl)
    | str h => exact asNo (fun W => by kernel_rfl)
    | byt h => exact asNo (fun W => by kernel_rfl)
  cases d with
  | zero => exact hf h
  | succ d =>
    rcases h with h | ⟨_, A, c, ys, m, rfl, _⟩ | ⟨_, A, c, ys, m, g, rfl, _⟩ | ⟨_, es, g, rfl, _⟩ | ⟨_, es, g, rfl, _⟩
    · exact hf h
    · exact asNo (fun W => by kernel_rfl)
    · exact asNo (fun W => by kernel_rfl)
    · exact asNo (fun W => by kernel_rfl)
    · exact asNo (fun W => by kernel_rfl)
theorem FV.int_of {fz : Bool} {d a b : Nat} {t : Tr} {W : World} {v : Value} (h : FV fz d a b t W v) (hk : t.k = 2) : ∃ u, v = .iface 117 u ∧ SMI a b u (iv t.neg t.mag) W := by
  have hf : ∀ {v : Value}, FVF a b t W v → ∃ u, v = .iface 117 u ∧ SMI a b u (iv t.neg t.mag) W := fun h => by
    cases h with
    | int v h hs => exact ⟨v, rfl, hs⟩
    | none h => omega
    | bool h => omega
    | flt h => omega
    | str h => omega
    | byt h => omega
  cases d with
  | zero => exact hf h
  | succ d =>
    rcases h with h | ⟨h, _⟩ | ⟨h, _⟩ | ⟨h, _⟩ | ⟨h, _⟩
    · exact hf h
    all_goals omega


theorem asV_int {fz : Bool} {d a b : Nat} {t : Tr} {W : World} {T : TypeId} {v : Value} {p : Nat} {y : Int} (h : FV fz d a b t W (.iface T v)) (hb : b ≤ W.heap.size) (hp : Blk W p 3 #[.int .i64 y]) :
    Calls Tryz.prog 59 #[.iface T v, .iface 111 (.pointer (some ⟨p, 0, none⟩))] W (AsOut (t.k = 2 ∧ -9223372036854775808 ≤ iv t.neg t.mag ∧ iv t.neg t.mag ≤ 9223372036854775807) p 3 .i64 (iv t.neg t.mag) W) := by
  by_cases hk : t.k = 2
  · obtain ⟨u, he, hs⟩ := h.int_of hk
    injection he with he1 he2
    subst he1 he2
    exact (asP_int (hs.sm.si hb) hp).mono (fun e w' h => h.imp ⟨fun h => ⟨hk, h⟩, fun h => h.2⟩)
  · exact (asNo_fv h hk).mono (fun e w' h => .inr ⟨fun h2 => hk h2.1, h⟩)
theorem asK_int {t : Tr} {x : Vc} {w : World} (h : HV 4 t x w) (g : Good 3 t) (m : MakeT 3 t) (hG : GL w) (bf : Int) (hb0 : 0 ≤ bf) (hb1 : bf < 256) :
    Calls Tryz.prog 13 #[x.agg, .int .i64 0, .int .u8 bf] w (NowOut (t.k = 2 ∧ -9223372036854775808 ≤ iv t.neg t.mag ∧ iv t.neg t.mag ≤ 9223372036854775807) (iv t.neg t.mag) w) := by
  obtain ⟨k, n, A, l, c, b, s, A', l', c', rfl⟩ := h.shape
  have hl1 : Below w.heap.size w (w.alloc (.cells (VcB ⟨k, n, .slice A l c, b, s, .slice A' l' c'⟩) 26)) := below_al (Below.refl _ _) _
  have hl2 := below_al hl1 (.cells valZ 26)
  have HV := Lib.hid (value_any 3 (by decide) (h.up hl2) g m (hG.up hl2))
  have hz : (w.alloc (.cells (VcB ⟨k, n, .slice A l c, b, s, .slice A' l' c'⟩) 26)).heap.size = w.heap.size + 1 := by simp
  have hr := Blk.new (w.alloc (.cells (VcB ⟨k, n, .slice A l c, b, s, .slice A' l' c'⟩) 26)) 26 valZ
  rw [hz] at hr
  have HR := Lib.hid hr
  have HL := Lib.hid hl2
  obtain ⟨b2, hb2⟩ : ∃ b2 : Int, b2 = bf := ⟨_, rfl⟩
  have HBF : Hid (-9223372036854775808 ≤ b2 ∧ b2 ≤ 9223372036854775807) := Lib.hid (by rw [hb2]; omega)
  have w1 : IntKind.i64.wrap bf = b2 := by rw [hb2]; simp [IntKind.wrap, IntKind.bits, IntKind.signed]; omega
  clear hb2
  clear h g m hG hl1 hl2 hz hr hb0 hb1
  go_enter Tryz.func13, Tryz.ntmps13
  go_wp2_with fail
  refine HV.out.mono ?_
  rintro e w2 ⟨v, rfl, hv, hb⟩
  obtain ⟨T, v, rfl⟩ := hv.ifc
  have HB := Lib.hid (below_up HL.out hb)
  have hr2 := HR.out.below hb HR.out.lt
  have hq1 : Below w2.heap.size w2 (w2.alloc (.cells valZ 26)) := below_al (Below.refl _ _) _
  have hq2 := below_al hq1 (.cells #[.int .i64 b2] 3)
  have hz2 : (w2.alloc (.cells valZ 26)).heap.size = w2.heap.size + 1 := by simp
  have hp2 := Blk.new (w2.alloc (.cells valZ 26)) 3 #[.int .i64 b2]
  rw [hz2] at hp2
  have HN := Lib.hid (now_int (fun h => h.2) HBF.out.1 HBF.out.2 (asV_int (hv.keep (still_below hq2 (fun k hk => hk.2))) hq2.size hp2))
  have HR2 := Lib.hid hr2
  clear hq1 hq2 hz2 hp2 hv hb hr2 HV HR HL HBF
  go_wp2_with fail
  refine HN.out.mono ?_
  rintro e w3 ⟨y, A3, c3, ok, rfl, hs, hok, hx, hy0, hy1, hb3⟩
  have hr3 := HR2.out.below hb3 HR2.out.lt
  have HR3 := Lib.hid hr3
  have HB3 := Lib.hid (below_up HB.out hb3)
  have HS := Lib.hid hs
  have HSZ : Hid (w.heap.size + 1 < w2.heap.size) := Lib.hid HR2.out.lt
  have HO := Lib.hid (And.intro hok (And.intro hx (And.intro hy0 hy1)))
  have c0 := hr3.cell 0
  have c1 := hr3.cell 1
  have c2 := hr3.cell 2
  have c3' := hr3.cell 3
  have c4 := hr3.cell 4
  have c5 := hr3.cell 5
  have f0 := hr3.frozen 0
  have f1 := hr3.frozen 1
  have f2 := hr3.frozen 2
  have f3 := hr3.frozen 3
  have f4 := hr3.frozen 4
  have f5 := hr3.frozen 5
  have gl := hr3.lt
  simp at c0 c1 c2 c3' c4 c5
  clear hr3 hb3 hs hok hx hy0 hy1 HN HR2 HB
  go_wp2
  clear c0 c1 c2 c3' c4 c5
  have hF := set6 HR3.out (.int .i64 2) (.bool (decide (y < 0))) (.slice A3 (strip (be8 (y.natAbs : Int))).length c3) (.int .u64 0) (.string { data := #[] }) (.slice none 0 0)
  have q0 := hF.cell 0
  have q1 := hF.cell 1
  have q2 := hF.cell 2
  have q3 := hF.cell 3
  have q4 := hF.cell 4
  have q5 := hF.cell 5
  simp at q0 q1 q2 q3 q4 q5
  refine bodyPost_ret (v := .tuple #[valI (decide (y < 0)) (.slice A3 (strip (be8 (y.natAbs : Int))).length c3), .bool ok, .bool true]) (by simp [results, Tryz.results13, go_sem, q0, q1, q2, q3, q4, q5]) rfl ⟨y, A3, c3, ok, rfl, ?_, HO.out.1, HO.out.2.1, HO.out.2.2.1, HO.out.2.2.2, low6 HB3.out (w.heap.size + 1) (Nat.le_succ _) _ _ _ _ _ _⟩
  exact now_sl2 HS.out (Nat.le_trans (Nat.le_succ _) (Nat.le_of_lt HSZ.out)) HSZ.out

theorem asV_int8 {fz : Bool} {d a b : Nat} {t : Tr} {W : World} {T : TypeId} {v : Value} {p : Nat} {y : Int} (h : FV fz d a b t W (.iface T v)) (hb : b ≤ W.heap.size) (hp : Blk W p 69 #[.int .i8 y]) :
    Calls Tryz.prog 59 #[.iface T v, .iface 119 (.pointer (some ⟨p, 0, none⟩))] W (AsOut (t.k = 2 ∧ -128 ≤ iv t.neg t.mag ∧ iv t.neg t.mag ≤ 127) p 69 .i8 (iv t.neg t.mag) W) := by
  by_cases hk : t.k = 2
  · obtain ⟨u, he, hs⟩ := h.int_of hk
    injection he with he1 he2
    subst he1 he2
    exact (asP_int8 (hs.sm.si hb) hp).mono (fun e w' h => h.imp ⟨fun h => ⟨hk, h⟩, fun h => h.2⟩)
  · exact (asNo_fv h hk).mono (fun e w' h => .inr ⟨fun h2 => hk h2.1, h⟩)
theorem asK_int8 {t : Tr} {x : Vc} {w : World} (h : HV 4 t x w) (g : Good 3 t) (m : MakeT 3 t) (hG : GL w) (bf : Int) (hb0 : 0 ≤ bf) (hb1 : bf < 256) :
    Calls Tryz.prog 13 #[x.agg, .int .i64 1, .int .u8 bf] w (NowOut (t.k = 2 ∧ -128 ≤ iv t.neg t.mag ∧ iv t.neg t.mag ≤ 127) (iv t.neg t.mag) w) := by
  obtain ⟨k, n, A, l, c, b, s, A', l', c', rfl⟩ := h.shape
  have hl1 : Below w.heap.size w (w.alloc (.cells (VcB ⟨k, n, .slice A l c, b, s, .slice A' l' c'⟩) 26)) := below_al (Below.refl _ _) _
  have hl2 := below_al hl1 (.cells valZ 26)
  have HV := Lib.hid (value_any 3 (by decide) (h.up hl2) g m (hG.up hl2))
  have hz : (w.alloc (.cells (VcB ⟨k, n, .slice A l c, b, s, .slice A' l' c'⟩) 26)).heap.size = w.heap.size + 1 := by simp
  have hr := Blk.new (w.alloc (.cells (VcB ⟨k, n, .slice A l c, b, s, .slice A' l' c'⟩) 26)) 26 valZ
  rw [hz] at hr
  have HR := Lib.hid hr
  have HL := Lib.hid hl2
  obtain ⟨b2, hb2⟩ : ∃ b2 : Int, b2 = if bf < 128 then bf else bf - 256 := ⟨_, rfl⟩
  have HBF : Hid (-128 ≤ b2 ∧ b2 ≤ 127) := Lib.hid (by rw [hb2]; split <;> omega)
  have w1 : IntKind.i8.wrap bf = b2 := by rw [hb2]; simp [IntKind.wrap, IntKind.bits, IntKind.signed]; split <;> omega
  clear hb2
  clear h g m hG hl1 hl2 hz hr hb0 hb1
  go_enter Tryz.func13, Tryz.ntmps13
  go_wp2_with fail
  refine HV.out.mono ?_
  rintro e w2 ⟨v, rfl, hv, hb⟩
  obtain ⟨T, v, rfl⟩ := hv.ifc
  have HB := Lib.hid (below_up HL.out hb)
  have hr2 := HR.out.below hb HR.out.lt
  have hq1 : Below w2.heap.size w2 (w2.alloc (.cells valZ 26)) := below_al (Below.refl _ _) _
  have hq2 := below_al hq1 (.cells #[.int .i8 b2] 69)
  have hz2 : (w2.alloc (.cells valZ 26)).heap.size = w2.heap.size + 1 := by simp
  have hp2 := Blk.new (w2.alloc (.cells valZ 26)) 69 #[.int .i8 b2]
  rw [hz2] at hp2
  have HN := Lib.hid (now_int8 (fun h => h.2) HBF.out.1 HBF.out.2 (asV_int8 (hv.keep (still_below hq2 (fun k hk => hk.2))) hq2.size hp2))
  have HR2 := Lib.hid hr2
  clear hq1 hq2 hz2 hp2 hv hb hr2 HV HR HL HBF
  go_wp2_with fail
  refine HN.out.mono ?_
  rintro e w3 ⟨y, A3, c3, ok, rfl, hs, hok, hx, hy0, hy1, hb3⟩
  have hr3 := HR2.out.below hb3 HR2.out.lt
  have HR3 := Lib.hid hr3
  have HB3 := Lib.hid (below_up HB.out hb3)
  have HS := Lib.hid hs
  have HSZ : Hid (w.heap.size + 1 < w2.heap.size) := Lib.hid HR2.out.lt
  have HO := Lib.hid (And.intro hok (And.intro hx (And.intro hy0 hy1)))
  have c0 := hr3.cell 0
  have c1 := hr3.cell 1
  have c2 := hr3.cell 2
  have c3' := hr3.cell 3
  have c4 := hr3.cell 4
  have c5 := hr3.cell 5
  have f0 := hr3.frozen 0
  have f1 := hr3.frozen 1
  have f2 := hr3.frozen 2
  have f3 := hr3.frozen 3
  have f4 := hr3.frozen 4
  have f5 := hr3.frozen 5
  have gl := hr3.lt
  simp at c0 c1 c2 c3' c4 c5
  clear hr3 hb3 hs hok hx hy0 hy1 HN HR2 HB
  go_wp2
  clear c0 c1 c2 c3' c4 c5
  have hF := set6 HR3.out (.int .i64 2) (.bool (decide (y < 0))) (.slice A3 (strip (be8 (y.natAbs : Int))).length c3) (.int .u64 0) (.string { data := #[] }) (.slice none 0 0)
  have q0 := hF.cell 0
  have q1 := hF.cell 1
  have q2 := hF.cell 2
  have q3 := hF.cell 3
  have q4 := hF.cell 4
  have q5 := hF.cell 5
  simp at q0 q1 q2 q3 q4 q5
  refine bodyPost_ret (v := .tuple #[valI (decide (y < 0)) (.slice A3 (strip (be8 (y.natAbs : Int))).length c3), .bool ok, .bool true]) (by simp [results, Tryz.results13, go_sem, q0, q1, q2, q3, q4, q5]) rfl ⟨y, A3, c3, ok, rfl, ?_, HO.out.1, HO.out.2.1, HO.out.2.2.1, HO.out.2.2.2, low6 HB3.out (w.heap.size + 1) (Nat.le_succ _) _ _ _ _ _ _⟩
  exact now_sl2 HS.out (Nat.le_trans (Nat.le_succ _) (Nat.le_of_lt HSZ.out)) HSZ.out

theorem asV_int16 {fz : Bool} {d a b : Nat} {t : Tr} {W : World} {T : TypeId} {v : Value} {p : Nat} {y : Int} (h : FV fz d a b t W (.iface T v)) (hb : b ≤ W.heap.size) (hp : Blk W p 71 #[.int .i16 y]) :
    Calls Tryz.prog 59 #[.iface T v, .iface 120 (.pointer (some ⟨p, 0, none⟩))] W (AsOut (t.k = 2 ∧ -32768 ≤ iv t.neg t.mag ∧ iv t.neg t.mag ≤ 32767) p 71 .i16 (iv t.neg t.mag) W) := by
  by_cases hk : t.k = 2
  · obtain ⟨u, he, hs⟩ := h.int_of hk
    injection he with he1 he2
    subst he1 he2
    exact (asP_int16 (hs.sm.si hb) hp).mono (fun e w' h => h.imp ⟨fun h => ⟨hk, h⟩, fun h => h.2⟩)
  · exact (asNo_fv h hk).mono (fun e w' h => .inr ⟨fun h2 => hk h2.1, h⟩)
theorem asK_int16 {t : Tr} {x : Vc} {w : World} (h : HV 4 t x w) (g : Good 3 t) (m : MakeT 3 t) (hG : GL w) (bf : Int) (hb0 : 0 ≤ bf) (hb1 : bf < 256) :
    Calls Tryz.prog 13 #[x.agg, .int .i64 2, .int .u8 bf] w (NowOut (t.k = 2 ∧ -32768 ≤ iv t.neg t.mag ∧ iv t.neg t.mag ≤ 32767) (iv t.neg t.mag) w) := by
  obtain ⟨k, n, A, l, c, b, s, A', l', c', rfl⟩ := h.shape
  have hl1 : Below w.heap.size w (w.alloc (.cells (VcB ⟨k, n, .slice A l c, b, s, .slice A' l' c'⟩) 26)) := below_al (Below.refl _ _) _
  have hl2 := below_al hl1 (.cells valZ 26)
  have HV := Lib.hid (value_any 3 (by decide) (h.up hl2) g m (hG.up hl2))
  have hz : (w.alloc (.cells (VcB ⟨k, n, .slice A l c, b, s, .slice A' l' c'⟩) 26)).heap.size = w.heap.size + 1 := by simp
  have hr := Blk.new (w.alloc (.cells (VcB ⟨k, n, .slice A l c, b, s, .slice A' l' c'⟩) 26)) 26 valZ
  rw [hz] at hr
  have HR := Lib.hid hr
  have HL := Lib.hid hl2
  obtain ⟨b2, hb2⟩ : ∃ b2 : Int, b2 = bf := ⟨_, rfl⟩
  have HBF : Hid (-32768 ≤ b2 ∧ b2 ≤ 32767) := Lib.hid (by rw [hb2]; omega)
  have w1 : IntKind.i16.wrap bf = b2 := by rw [hb2]; simp [IntKind.wrap, IntKind.bits, IntKind.signed]; omega
  clear hb2
  clear h g m hG hl1 hl2 hz hr hb0 hb1
  go_enter Tryz.func13, Tryz.ntmps13
  go_wp2_with fail
  refine HV.out.mono ?_
  rintro e w2 ⟨v, rfl, hv, hb⟩
  obtain ⟨T, v, rfl⟩ := hv.ifc
  have HB := Lib.hid (below_up HL.out hb)
  have hr2 := HR.out.below hb HR.out.lt
  have hq1 : Below w2.heap.size w2 (w2.alloc (.cells valZ 26)) := below_al (Below.refl _ _) _
  have hq2 := below_al hq1 (.cells #[.int .i16 b2] 71)
  have hz2 : (w2.alloc (.cells valZ 26)).heap.size = w2.heap.size + 1 := by simp
  have hp2 := Blk.new (w2.alloc (.cells valZ 26)) 71 #[.int .i16 b2]
  rw [hz2] at hp2
  have HN := Lib.hid (now_int16 (fun h => h.2) HBF.out.1 HBF.out.2 (asV_int16 (hv.keep (still_below hq2 (fun k hk => hk.2))) hq2.size hp2))
  have HR2 := Lib.hid hr2
  clear hq1 hq2 hz2 hp2 hv hb hr2 HV HR HL HBF
  go_wp2_with fail
  refine HN.out.mono ?_
  rintro e w3 ⟨y, A3, c3, ok, rfl, hs, hok, hx, hy0, hy1, hb3⟩
  have hr3 := HR2.out.below hb3 HR2.out.lt
  have HR3 := Lib.hid hr3
  have HB3 := Lib.hid (below_up HB.out hb3)
  have HS := Lib.hid hs
  have HSZ : Hid (w.heap.size + 1 < w2.heap.size) := Lib.hid HR2.out.lt
  have HO := Lib.hid (And.intro hok (And.intro hx (And.intro hy0 hy1)))
  have c0 := hr3.cell 0
  have c1 := hr3.cell 1
  have c2 := hr3.cell 2
  have c3' := hr3.cell 3
  have c4 := hr3.cell 4
  have c5 := hr3.cell 5
  have f0 := hr3.frozen 0
  have f1 := hr3.frozen 1
  have f2 := hr3.frozen 2
  have f3 := hr3.frozen 3
  have f4 := hr3.frozen 4
  have f5 := hr3.frozen 5
  have gl := hr3.lt
  simp at c0 c1 c2 c3' c4 c5
  clear hr3 hb3 hs hok hx hy0 hy1 HN HR2 HB
  go_wp2
  clear c0 c1 c2 c3' c4 c5
  have hF := set6 HR3.out (.int .i64 2) (.bool (decide (y < 0))) (.slice A3 (strip (be8 (y.natAbs : Int))).length c3) (.int .u64 0) (.string { data := #[] }) (.slice none 0 0)
  have q0 := hF.cell 0
  have q1 := hF.cell 1
  have q2 := hF.cell 2
  have q3 := hF.cell 3
  have q4 := hF.cell 4
  have q5 := hF.cell 5
  simp at q0 q1 q2 q3 q4 q5
  refine bodyPost_ret (v := .tuple #[valI (decide (y < 0)) (.slice A3 (strip (be8 (y.natAbs : Int))).length c3), .bool ok, .bool true]) (by simp [results, Tryz.results13, go_sem, q0, q1, q2, q3, q4, q5]) rfl ⟨y, A3, c3, ok, rfl, ?_, HO.out.1, HO.out.2.1, HO.out.2.2.1, HO.out.2.2.2, low6 HB3.out (w.heap.size + 1) (Nat.le_succ _) _ _ _ _ _ _⟩
  exact now_sl2 HS.out (Nat.le_trans (Nat.le_succ _) (Nat.le_of_lt HSZ.out)) HSZ.out

theorem asV_int32 {fz : Bool} {d a b : Nat} {t : Tr} {W : World} {T : TypeId} {v : Value} {p : Nat} {y : Int} (h : FV fz d a b t W (.iface T v)) (hb : b ≤ W.heap.size) (hp : Blk W p 21 #[.int .i32 y]) :
    Calls Tryz.prog 59 #[.iface T v, .iface 121 (.pointer (some ⟨p, 0, none⟩))] W (AsOut (t.k = 2 ∧ -2147483648 ≤ iv t.neg t.mag ∧ iv t.neg t.mag ≤ 2147483647) p 21 .i32 (iv t.neg t.mag) W) := by
  by_cases hk : t.k = 2
  · obtain ⟨u, he, hs⟩ := h.int_of hk
    injection he with he1 he2
    subst he1 he2
    exact (asP_int32 (hs.sm.si hb) hp).mono (fun e w' h => h.imp ⟨fun h => ⟨hk, h⟩, fun h => h.2⟩)
  · exact (asNo_fv h hk).mono (fun e w' h => .inr ⟨fun h2 => hk h2.1, h⟩)
theorem asK_int32 {t : Tr} {x : Vc} {w : World} (h : HV 4 t x w) (g : Good 3 t) (m : MakeT 3 t) (hG : GL w) (bf : Int) (hb0 : 0 ≤ bf) (hb1 : bf < 256) :
    Calls Tryz.prog 13 #[x.agg, .int .i64 3, .int .u8 bf] w (NowOut (t.k = 2 ∧ -2147483648 ≤ iv t.neg t.mag ∧ iv t.neg t.mag ≤ 2147483647) (iv t.neg t.mag) w) := by
  obtain ⟨k, n, A, l, c, b, s, A', l', c', rfl⟩ := h.shape
  have hl1 : Below w.heap.size w (w.alloc (.cells (VcB ⟨k, n, .slice A l c, b, s, .slice A' l' c'⟩) 26)) := below_al (Below.refl _ _) _
  have hl2 := below_al hl1 (.cells valZ 26)
  have HV := Lib.hid (value_any 3 (by decide) (h.up hl2) g m (hG.up hl2))
  have hz : (w.alloc (.cells (VcB ⟨k, n, .slice A l c, b, s, .slice A' l' c'⟩) 26)).heap.size = w.heap.size + 1 := by simp
  have hr := Blk.new (w.alloc (.cells (VcB ⟨k, n, .slice A l c, b, s, .slice A' l' c'⟩) 26)) 26 valZ
  rw [hz] at hr
  have HR := Lib.hid hr
  have HL := Lib.hid hl2
  obtain ⟨b2, hb2⟩ : ∃ b2 : Int, b2 = bf := ⟨_, rfl⟩
  have HBF : Hid (-2147483648 ≤ b2 ∧ b2 ≤ 2147483647) := Lib.hid (by rw [hb2]; omega)
  have w1 : IntKind.i32.wrap bf = b2 := by rw [hb2]; simp [IntKind.wrap, IntKind.bits, IntKind.signed]; omega
  clear hb2
  clear h g m hG hl1 hl2 hz hr hb0 hb1
  go_enter Tryz.func13, Tryz.ntmps13
  go_wp2_with fail
  refine HV.out.mono ?_
  rintro e w2 ⟨v, rfl, hv, hb⟩
  obtain ⟨T, v, rfl⟩ := hv.ifc
  have HB := Lib.hid (below_up HL.out hb)
  have hr2 := HR.out.below hb HR.out.lt
  have hq1 : Below w2.heap.size w2 (w2.alloc (.cells valZ 26)) := below_al (Below.refl _ _) _
  have hq2 := below_al hq1 (.cells #[.int .i32 b2] 21)
  have hz2 : (w2.alloc (.cells valZ 26)).heap.size = w2.heap.size + 1 := by simp
  have hp2 := Blk.new (w2.alloc (.cells valZ 26)) 21 #[.int .i32 b2]
  rw [hz2] at hp2
  have HN := Lib.hid (now_int32 (fun h => h.2) HBF.out.1 HBF.out.2 (asV_int32 (hv.keep (still_below hq2 (fun k hk => hk.2))) hq2.size hp2))
  have HR2 := Lib.hid hr2
  clear hq1 hq2 hz2 hp2 hv hb hr2 HV HR HL HBF
  go_wp2_with fail
  refine HN.out.mono ?_
  rintro e w3 ⟨y, A3, c3, ok, rfl, hs, hok, hx, hy0, hy1, hb3⟩
  have hr3 := HR2.out.below hb3 HR2.out.lt
  have HR3 := Lib.hid hr3
  have HB3 := Lib.hid (below_up HB.out hb3)
  have HS := Lib.hid hs
  have HSZ : Hid (w.heap.size + 1 < w2.heap.size) := Lib.hid HR2.out.lt
  have HO := Lib.hid (And.intro hok (And.intro hx (And.intro hy0 hy1)))
  have c0 := hr3.cell 0
  have c1 := hr3.cell 1
  have c2 := hr3.cell 2
  have c3' := hr3.cell 3
  have c4 := hr3.cell 4
  have c5 := hr3.cell 5
  have f0 := hr3.frozen 0
  have f1 := hr3.frozen 1
  have f2 := hr3.frozen 2
  have f3 := hr3.frozen 3
  have f4 := hr3.frozen 4
  have f5 := hr3.frozen 5
  have gl := hr3.lt
  simp at c0 c1 c2 c3' c4 c5
  clear hr3 hb3 hs hok hx hy0 hy1 HN HR2 HB
  go_wp2
  clear c0 c1 c2 c3' c4 c5
  have hF := set6 HR3.out (.int .i64 2) (.bool (decide (y < 0))) (.slice A3 (strip (be8 (y.natAbs : Int))).length c3) (.int .u64 0) (.string { data := #[] }) (.slice none 0 0)
  have q0 := hF.cell 0
  have q1 := hF.cell 1
  have q2 := hF.cell 2
  have q3 := hF.cell 3
  have q4 := hF.cell 4
  have q5 := hF.cell 5
  simp at q0 q1 q2 q3 q4 q5
  refine bodyPost_ret (v := .tuple #[valI (decide (y < 0)) (.slice A3 (strip (be8 (y.natAbs : Int))).length c3), .bool ok, .bool true]) (by simp [results, Tryz.results13, go_sem, q0, q1, q2, q3, q4, q5]) rfl ⟨y, A3, c3, ok, rfl, ?_, HO.out.1, HO.out.2.1, HO.out.2.2.1, HO.out.2.2.2, low6 HB3.out (w.heap.size + 1) (Nat.le_succ _) _ _ _ _ _ _⟩
  exact now_sl2 HS.out (Nat.le_trans (Nat.le_succ _) (Nat.le_of_lt HSZ.out)) HSZ.out

theorem asV_int64 {fz : Bool} {d a b : Nat} {t : Tr} {W : World} {T : TypeId} {v : Value} {p : Nat} {y : Int} (h : FV fz d a b t W (.iface T v)) (hb : b ≤ W.heap.size) (hp : Blk W p 2 #[.int .i64 y]) :
    Calls Tryz.prog 59 #[.iface T v, .iface 122 (.pointer (some ⟨p, 0, none⟩))] W (AsOut (t.k = 2 ∧ -9223372036854775808 ≤ iv t.neg t.mag ∧ iv t.neg t.mag ≤ 9223372036854775807) p 2 .i64 (iv t.neg t.mag) W) := by
  by_cases hk : t.k = 2
  · obtain ⟨u, he, hs⟩ := h.int_of hk
    injection he with he1 he2
    subst he1 he2
    exact (asP_int64 (hs.sm.si hb) hp).mono (fun e w' h => h.imp ⟨fun h => ⟨hk, h⟩, fun h => h.2⟩)
  · exact (asNo_fv h hk).mono (fun e w' h => .inr ⟨fun h2 => hk h2.1, h⟩)
theorem asK_int64 {t : Tr} {x : Vc} {w : World} (h : HV 4 t x w) (g : Good 3 t) (m : MakeT 3 t) (hG : GL w) (bf : Int) (hb0 : 0 ≤ bf) (hb1 : bf < 256) :
    Calls Tryz.prog 13 #[x.agg, .int .i64 4, .int .u8 bf] w (NowOut (t.k = 2 ∧ -9223372036854775808 ≤ iv t.neg t.mag ∧ iv t.neg t.mag ≤ 9223372036854775807) (iv t.neg t.mag) w) := by
  obtain ⟨k, n, A, l, c, b, s, A', l', c', rfl⟩ := h.shape
  have hl1 : Below w.heap.size w (w.alloc (.cells (VcB ⟨k, n, .slice A l c, b, s, .slice A' l' c'⟩) 26)) := below_al (Below.refl _ _) _
  have hl2 := below_al hl1 (.cells valZ 26)
  have HV := Lib.hid (value_any 3 (by decide) (h.up hl2) g m (hG.up hl2))
  have hz : (w.alloc (.cells (VcB ⟨k, n, .slice A l c, b, s, .slice A' l' c'⟩) 26)).heap.size = w.heap.size + 1 := by simp
  have hr := Blk.new (w.alloc (.cells (VcB ⟨k, n, .slice A l c, b, s, .slice A' l' c'⟩) 26)) 26 valZ
  rw [hz] at hr
  have HR := Lib.hid hr
  have HL := Lib.hid hl2
  obtain ⟨b2, hb2⟩ : ∃ b2 : Int, b2 = bf := ⟨_, rfl⟩
  have HBF : Hid (-9223372036854775808 ≤ b2 ∧ b2 ≤ 9223372036854775807) := Lib.hid (by rw [hb2]; omega)
  have w1 : IntKind.i64.wrap bf = b2 := by rw [hb2]; simp [IntKind.wrap, IntKind.bits, IntKind.signed]; omega
  clear hb2
  clear h g m hG hl1 hl2 hz hr hb0 hb1
  go_enter Tryz.func13, Tryz.ntmps13
  go_wp2_with fail
  refine HV.out.mono ?_
  rintro e w2 ⟨v, rfl, hv, hb⟩
  obtain ⟨T, v, rfl⟩ := hv.ifc
  have HB := Lib.hid (below_up HL.out hb)
  have hr2 := HR.out.below hb HR.out.lt
  have hq1 : Below w2.heap.size w2 (w2.alloc (.cells valZ 26)) := below_al (Below.refl _ _) _
  have hq2 := below_al hq1 (.cells #[.int .i64 b2] 2)
  have hz2 : (w2.alloc (.cells valZ 26)).heap.size = w2.heap.size + 1 := by simp
  have hp2 := Blk.new (w2.alloc (.cells valZ 26)) 2 #[.int .i64 b2]
  rw [hz2] at hp2
  have HN := Lib.hid (now_int64 (fun h => h.2) HBF.out.1 HBF.out.2 (asV_int64 (hv.keep (still_below hq2 (fun k hk => hk.2))) hq2.size hp2))
  have HR2 := Lib.hid hr2
  clear hq1 hq2 hz2 hp2 hv hb hr2 HV HR HL HBF
  go_wp2_with fail
  refine HN.out.mono ?_
  rintro e w3 ⟨y, A3, c3, ok, rfl, hs, hok, hx, hy0, hy1, hb3⟩
  have hr3 := HR2.out.below hb3 HR2.out.lt
  have HR3 := Lib.hid hr3
  have HB3 := Lib.hid (below_up HB.out hb3)
  have HS := Lib.hid hs
  have HSZ : Hid (w.heap.size + 1 < w2.heap.size) := Lib.hid HR2.out.lt
  have HO := Lib.hid (And.intro hok (And.intro hx (And.intro hy0 hy1)))
  have c0 := hr3.cell 0
  have c1 := hr3.cell 1
  have c2 := hr3.cell 2
  have c3' := hr3.cell 3
  have c4 := hr3.cell 4
  have c5 := hr3.cell 5
  have f0 := hr3.frozen 0
  have f1 := hr3.frozen 1
  have f2 := hr3.frozen 2
  have f3 := hr3.frozen 3
  have f4 := hr3.frozen 4
  have f5 := hr3.frozen 5
  have gl := hr3.lt
  simp at c0 c1 c2 c3' c4 c5
  clear hr3 hb3 hs hok hx hy0 hy1 HN HR2 HB
  go_wp2
  clear c0 c1 c2 c3' c4 c5
  have hF := set6 HR3.out (.int .i64 2) (.bool (decide (y < 0))) (.slice A3 (strip (be8 (y.natAbs : Int))).length c3) (.int .u64 0) (.string { data := #[] }) (.slice none 0 0)
  have q0 := hF.cell 0
  have q1 := hF.cell 1
  have q2 := hF.cell 2
  have q3 := hF.cell 3
  have q4 := hF.cell 4
  have q5 := hF.cell 5
  simp at q0 q1 q2 q3 q4 q5
  refine bodyPost_ret (v := .tuple #[valI (decide (y < 0)) (.slice A3 (strip (be8 (y.natAbs : Int))).length c3), .bool ok, .bool true]) (by simp [results, Tryz.results13, go_sem, q0, q1, q2, q3, q4, q5]) rfl ⟨y, A3, c3, ok, rfl, ?_, HO.out.1, HO.out.2.1, HO.out.2.2.1, HO.out.2.2.2, low6 HB3.out (w.heap.size + 1) (Nat.le_succ _) _ _ _ _ _ _⟩
  exact now_sl2 HS.out (Nat.le_trans (Nat.le_succ _) (Nat.le_of_lt HSZ.out)) HSZ.out

theorem asV_uint {fz : Bool} {d a b : Nat} {t : Tr} {W : World} {T : TypeId} {v : Value} {p : Nat} {y : Int} (h : FV fz d a b t W (.iface T v)) (hb : b ≤ W.heap.size) (hp : Blk W p 60 #[.int .u64 y]) :
    Calls Tryz.prog 59 #[.iface T v, .iface 123 (.pointer (some ⟨p, 0, none⟩))] W (AsOut (t.k = 2 ∧ 0 ≤ iv t.neg t.mag ∧ iv t.neg t.mag ≤ 18446744073709551615) p 60 .u64 (iv t.neg t.mag) W) := by
  by_cases hk : t.k = 2
  · obtain ⟨u, he, hs⟩ := h.int_of hk
    injection he with he1 he2
    subst he1 he2
    exact (asP_uint (hs.sm.si hb) hp).mono (fun e w' h => h.imp ⟨fun h => ⟨hk, h⟩, fun h => h.2⟩)
  · exact (asNo_fv h hk).mono (fun e w' h => .inr ⟨fun h2 => hk h2.1, h⟩)
theorem asK_uint {t : Tr} {x : Vc} {w : World} (h : HV 4 t x w) (g : Good 3 t) (m : MakeT 3 t) (hG : GL w) (bf : Int) (hb0 : 0 ≤ bf) (hb1 : bf < 256) :
    Calls Tryz.prog 13 #[x.agg, .int .i64 5, .int .u8 bf] w (NowOut (t.k = 2 ∧ 0 ≤ iv t.neg t.mag ∧ iv t.neg t.mag ≤ 18446744073709551615) (iv t.neg t.mag) w) := by
  obtain ⟨k, n, A, l, c, b, s, A', l', c', rfl⟩ := h.shape
  have hl1 : Below w.heap.size w (w.alloc (.cells (VcB ⟨k, n, .slice A l c, b, s, .slice A' l' c'⟩) 26)) := below_al (Below.refl _ _) _
  have hl2 := below_al hl1 (.cells valZ 26)
  have HV := Lib.hid (value_any 3 (by decide) (h.up hl2) g m (hG.up hl2))
  have hz : (w.alloc (.cells (VcB ⟨k, n, .slice A l c, b, s, .slice A' l' c'⟩) 26)).heap.size = w.heap.size + 1 := by simp
  have hr := Blk.new (w.alloc (.cells (VcB ⟨k, n, .slice A l c, b, s, .slice A' l' c'⟩) 26)) 26 valZ
  rw [hz] at hr
  have HR := Lib.hid hr
  have HL := Lib.hid hl2
  obtain ⟨b2, hb2⟩ : ∃ b2 : Int, b2 = bf := ⟨_, rfl⟩
  have HBF : Hid (0 ≤ b2 ∧ b2 ≤ 18446744073709551615) := Lib.hid (by rw [hb2]; omega)
  have w1 : IntKind.u64.wrap bf = b2 := by rw [hb2]; simp [IntKind.wrap, IntKind.bits, IntKind.signed]; omega
  clear hb2
  clear h g m hG hl1 hl2 hz hr hb0 hb1
  go_enter Tryz.func13, Tryz.ntmps13
  go_wp2_with fail
  refine HV.out.mono ?_
  rintro e w2 ⟨v, rfl, hv, hb⟩
  obtain ⟨T, v, rfl⟩ := hv.ifc
  have HB := Lib.hid (below_up HL.out hb)
  have hr2 := HR.out.below hb HR.out.lt
  have hq1 : Below w2.heap.size w2 (w2.alloc (.cells valZ 26)) := below_al (Below.refl _ _) _
  have hq2 := below_al hq1 (.cells #[.int .u64 b2] 60)
  have hz2 : (w2.alloc (.cells valZ 26)).heap.size = w2.heap.size + 1 := by simp
  have hp2 := Blk.new (w2.alloc (.cells valZ 26)) 60 #[.int .u64 b2]
  rw [hz2] at hp2
  have HN := Lib.hid (now_uint (fun h => h.2) HBF.out.1 HBF.out.2 (asV_uint (hv.keep (still_below hq2 (fun k hk => hk.2))) hq2.size hp2))
  have HR2 := Lib.hid hr2
  clear hq1 hq2 hz2 hp2 hv hb hr2 HV HR HL HBF
  go_wp2_with fail
  refine HN.out.mono ?_
  rintro e w3 ⟨y, A3, c3, ok, rfl, hs, hok, hx, hy0, hy1, hb3⟩
  have hr3 := HR2.out.below hb3 HR2.out.lt
  have HR3 := Lib.hid hr3
  have HB3 := Lib.hid (below_up HB.out hb3)
  have HS := Lib.hid hs
  have HSZ : Hid (w.heap.size + 1 < w2.heap.size) := Lib.hid HR2.out.lt
  have HO := Lib.hid (And.intro hok (And.intro hx (And.intro hy0 hy1)))
  have c0 := hr3.cell 0
  have c1 := hr3.cell 1
  have c2 := hr3.cell 2
  have c3' := hr3.cell 3
  have c4 := hr3.cell 4
  have c5 := hr3.cell 5
  have f0 := hr3.frozen 0
  have f1 := hr3.frozen 1
  have f2 := hr3.frozen 2
  have f3 := hr3.frozen 3
  have f4 := hr3.frozen 4
  have f5 := hr3.frozen 5
  have gl := hr3.lt
  simp at c0 c1 c2 c3' c4 c5
  clear hr3 hb3 hs hok hx hy0 hy1 HN HR2 HB
  go_wp2
  clear c0 c1 c2 c3' c4 c5
  have hF := set6 HR3.out (.int .i64 2) (.bool (decide (y < 0))) (.slice A3 (strip (be8 (y.natAbs : Int))).length c3) (.int .u64 0) (.string { data := #[] }) (.slice none 0 0)
  have q0 := hF.cell 0
  have q1 := hF.cell 1
  have q2 := hF.cell 2
  have q3 := hF.cell 3
  have q4 := hF.cell 4
  have q5 := hF.cell 5
  simp at q0 q1 q2 q3 q4 q5
  refine bodyPost_ret (v := .tuple #[valI (decide (y < 0)) (.slice A3 (strip (be8 (y.natAbs : Int))).length c3), .bool ok, .bool true]) (by simp [results, Tryz.results13, go_sem, q0, q1, q2, q3, q4, q5]) rfl ⟨y, A3, c3, ok, rfl, ?_, HO.out.1, HO.out.2.1, HO.out.2.2.1, HO.out.2.2.2, low6 HB3.out (w.heap.size + 1) (Nat.le_succ _) _ _ _ _ _ _⟩
  exact now_sl2 HS.out (Nat.le_trans (Nat.le_succ _) (Nat.le_of_lt HSZ.out)) HSZ.out

theorem asV_uint8 {fz : Bool} {d a b : Nat} {t : Tr} {W : World} {T : TypeId} {v : Value} {p : Nat} {y : Int} (h : FV fz d a b t W (.iface T v)) (hb : b ≤ W.heap.size) (hp : Blk W p 5 #[.int .u8 y]) :
    Calls Tryz.prog 59 #[.iface T v, .iface 125 (.pointer (some ⟨p, 0, none⟩))] W (AsOut (t.k = 2 ∧ 0 ≤ iv t.neg t.mag ∧ iv t.neg t.mag ≤ 255) p 5 .u8 (iv t.neg t.mag) W) := by
  by_cases hk : t.k = 2
  · obtain ⟨u, he, hs⟩ := h.int_of hk
    injection he with he1 he2
    subst he1 he2
    exact (asP_uint8 (hs.sm.si hb) hp).mono (fun e w' h => h.imp ⟨fun h => ⟨hk, h⟩, fun h => h.2⟩)
  · exact (asNo_fv h hk).mono (fun e w' h => .inr ⟨fun h2 => hk h2.1, h⟩)
theorem asK_uint8 {t : Tr} {x : Vc} {w : World} (h : HV 4 t x w) (g : Good 3 t) (m : MakeT 3 t) (hG : GL w) (bf : Int) (hb0 : 0 ≤ bf) (hb1 : bf < 256) :
    Calls Tryz.prog 13 #[x.agg, .int .i64 6, .int .u8 bf] w (NowOut (t.k = 2 ∧ 0 ≤ iv t.neg t.mag ∧ iv t.neg t.mag ≤ 255) (iv t.neg t.mag) w) := by
  obtain ⟨k, n, A, l, c, b, s, A', l', c', rfl⟩ := h.shape
  have hl1 : Below w.heap.size w (w.alloc (.cells (VcB ⟨k, n, .slice A l c, b, s, .slice A' l' c'⟩) 26)) := below_al (Below.refl _ _) _
  have hl2 := below_al hl1 (.cells valZ 26)
  have HV := Lib.hid (value_any 3 (by decide) (h.up hl2) g m (hG.up hl2))
  have hz : (w.alloc (.cells (VcB ⟨k, n, .slice A l c, b, s, .slice A' l' c'⟩) 26)).heap.size = w.heap.size + 1 := by simp
  have hr := Blk.new (w.alloc (.cells (VcB ⟨k, n, .slice A l c, b, s, .slice A' l' c'⟩) 26)) 26 valZ
  rw [hz] at hr
  have HR := Lib.hid hr
  have HL := Lib.hid hl2
  obtain ⟨b2, hb2⟩ : ∃ b2 : Int, b2 = bf := ⟨_, rfl⟩
  have HBF : Hid (0 ≤ b2 ∧ b2 ≤ 255) := Lib.hid (by rw [hb2]; omega)
  have w1 : IntKind.u8.wrap bf = b2 := by rw [hb2]; simp [IntKind.wrap, IntKind.bits, IntKind.signed]; omega
  subst hb2
  clear h g m hG hl1 hl2 hz hr hb0 hb1
  go_enter Tryz.func13, Tryz.ntmps13
  go_wp2_with fail
  refine HV.out.mono ?_
  rintro e w2 ⟨v, rfl, hv, hb⟩
  obtain ⟨T, v, rfl⟩ := hv.ifc
  have HB := Lib.hid (below_up HL.out hb)
  have hr2 := HR.out.below hb HR.out.lt
  have hq1 : Below w2.heap.size w2 (w2.alloc (.cells valZ 26)) := below_al (Below.refl _ _) _
  have hq2 := below_al hq1 (.cells #[.int .u8 b2] 5)
  have hz2 : (w2.alloc (.cells valZ 26)).heap.size = w2.heap.size + 1 := by simp
  have hp2 := Blk.new (w2.alloc (.cells valZ 26)) 5 #[.int .u8 b2]
  rw [hz2] at hp2
  have HN := Lib.hid (now_uint8 (fun h => h.2) HBF.out.1 HBF.out.2 (asV_uint8 (hv.keep (still_below hq2 (fun k hk => hk.2))) hq2.size hp2))
  have HR2 := Lib.hid hr2
  clear hq1 hq2 hz2 hp2 hv hb hr2 HV HR HL HBF
  go_wp2_with fail
  refine HN.out.mono ?_
  rintro e w3 ⟨y, A3, c3, ok, rfl, hs, hok, hx, hy0, hy1, hb3⟩
  have hr3 := HR2.out.below hb3 HR2.out.lt
  have HR3 := Lib.hid hr3
  have HB3 := Lib.hid (below_up HB.out hb3)
  have HS := Lib.hid hs
  have HSZ : Hid (w.heap.size + 1 < w2.heap.size) := Lib.hid HR2.out.lt
  have HO := Lib.hid (And.intro hok (And.intro hx (And.intro hy0 hy1)))
  have c0 := hr3.cell 0
  have c1 := hr3.cell 1
  have c2 := hr3.cell 2
  have c3' := hr3.cell 3
  have c4 := hr3.cell 4
  have c5 := hr3.cell 5
  have f0 := hr3.frozen 0
  have f1 := hr3.frozen 1
  have f2 := hr3.frozen 2
  have f3 := hr3.frozen 3
  have f4 := hr3.frozen 4
  have f5 := hr3.frozen 5
  have gl := hr3.lt
  simp at c0 c1 c2 c3' c4 c5
  clear hr3 hb3 hs hok hx hy0 hy1 HN HR2 HB
  go_wp2
  clear c0 c1 c2 c3' c4 c5
  have hF := set6 HR3.out (.int .i64 2) (.bool (decide (y < 0))) (.slice A3 (strip (be8 (y.natAbs : Int))).length c3) (.int .u64 0) (.string { data := #[] }) (.slice none 0 0)
  have q0 := hF.cell 0
  have q1 := hF.cell 1
  have q2 := hF.cell 2
  have q3 := hF.cell 3
  have q4 := hF.cell 4
  have q5 := hF.cell 5
  simp at q0 q1 q2 q3 q4 q5
  refine bodyPost_ret (v := .tuple #[valI (decide (y < 0)) (.slice A3 (strip (be8 (y.natAbs : Int))).length c3), .bool ok, .bool true]) (by simp [results, Tryz.results13, go_sem, q0, q1, q2, q3, q4, q5]) rfl ⟨y, A3, c3, ok, rfl, ?_, HO.out.1, HO.out.2.1, HO.out.2.2.1, HO.out.2.2.2, low6 HB3.out (w.heap.size + 1) (Nat.le_succ _) _ _ _ _ _ _⟩
  exact now_sl2 HS.out (Nat.le_trans (Nat.le_succ _) (Nat.le_of_lt HSZ.out)) HSZ.out

theorem asV_uint16 {fz : Bool} {d a b : Nat} {t : Tr} {W : World} {T : TypeId} {v : Value} {p : Nat} {y : Int} (h : FV fz d a b t W (.iface T v)) (hb : b ≤ W.heap.size) (hp : Blk W p 77 #[.int .u16 y]) :
    Calls Tryz.prog 59 #[.iface T v, .iface 126 (.pointer (some ⟨p, 0, none⟩))] W (AsOut (t.k = 2 ∧ 0 ≤ iv t.neg t.mag ∧ iv t.neg t.mag ≤ 65535) p 77 .u16 (iv t.neg t.mag) W) := by
  by_cases hk : t.k = 2
  · obtain ⟨u, he, hs⟩ := h.int_of hk
    injection he with he1 he2
    subst he1 he2
    exact (asP_uint16 (hs.sm.si hb) hp).mono (fun e w' h => h.imp ⟨fun h => ⟨hk, h⟩, fun h => h.2⟩)
  · exact (asNo_fv h hk).mono (fun e w' h => .inr ⟨fun h2 => hk h2.1, h⟩)
theorem asK_uint16 {t : Tr} {x : Vc} {w : World} (h : HV 4 t x w) (g : Good 3 t) (m : MakeT 3 t) (hG : GL w) (bf : Int) (hb0 : 0 ≤ bf) (hb1 : bf < 256) :
    Calls Tryz.prog 13 #[x.agg, .int .i64 7, .int .u8 bf] w (NowOut (t.k = 2 ∧ 0 ≤ iv t.neg t.mag ∧ iv t.neg t.mag ≤ 65535) (iv t.neg t.mag) w) := by
  obtain ⟨k, n, A, l, c, b, s, A', l', c', rfl⟩ := h.shape
  have hl1 : Below w.heap.size w (w.alloc (.cells (VcB ⟨k, n, .slice A l c, b, s, .slice A' l' c'⟩) 26)) := below_al (Below.refl _ _) _
  have hl2 := below_al hl1 (.cells valZ 26)
  have HV := Lib.hid (value_any 3 (by decide) (h.up hl2) g m (hG.up hl2))
  have hz : (w.alloc (.cells (VcB ⟨k, n, .slice A l c, b, s, .slice A' l' c'⟩) 26)).heap.size = w.heap.size + 1 := by simp
  have hr := Blk.new (w.alloc (.cells (VcB ⟨k, n, .slice A l c, b, s, .slice A' l' c'⟩) 26)) 26 valZ
  rw [hz] at hr
  have HR := Lib.hid hr
  have HL := Lib.hid hl2
  obtain ⟨b2, hb2⟩ : ∃ b2 : Int, b2 = bf := ⟨_, rfl⟩
  have HBF : Hid (0 ≤ b2 ∧ b2 ≤ 65535) := Lib.hid (by rw [hb2]; omega)
  have w1 : IntKind.u16.wrap bf = b2 := by rw [hb2]; simp [IntKind.wrap, IntKind.bits, IntKind.signed]; omega
  clear hb2
  clear h g m hG hl1 hl2 hz hr hb0 hb1
  go_enter Tryz.func13, Tryz.ntmps13
  go_wp2_with fail
  refine HV.out.mono ?_
  rintro e w2 ⟨v, rfl, hv, hb⟩
  obtain ⟨T, v, rfl⟩ := hv.ifc
  have HB := Lib.hid (below_up HL.out hb)
  have hr2 := HR.out.below hb HR.out.lt
  have hq1 : Below w2.heap.size w2 (w2.alloc (.cells valZ 26)) := below_al (Below.refl _ _) _
  have hq2 := below_al hq1 (.cells #[.int .u16 b2] 77)
  have hz2 : (w2.alloc (.cells valZ 26)).heap.size = w2.heap.size + 1 := by simp
  have hp2 := Blk.new (w2.alloc (.cells valZ 26)) 77 #[.int .u16 b2]
  rw [hz2] at hp2
  have HN := Lib.hid (now_uint16 (fun h => h.2) HBF.out.1 HBF.out.2 (asV_uint16 (hv.keep (still_below hq2 (fun k hk => hk.2))) hq2.size hp2))
  have HR2 := Lib.hid hr2
  clear hq1 hq2 hz2 hp2 hv hb hr2 HV HR HL HBF
  go_wp2_with fail
  refine HN.out.mono ?_
  rintro e w3 ⟨y, A3, c3, ok, rfl, hs, hok, hx, hy0, hy1, hb3⟩
  have hr3 := HR2.out.below hb3 HR2.out.lt
  have HR3 := Lib.hid hr3
  have HB3 := Lib.hid (below_up HB.out hb3)
  have HS := Lib.hid hs
  have HSZ : Hid (w.heap.size + 1 < w2.heap.size) := Lib.hid HR2.out.lt
  have HO := Lib.hid (And.intro hok (And.intro hx (And.intro hy0 hy1)))
  have c0 := hr3.cell 0
  have c1 := hr3.cell 1
  have c2 := hr3.cell 2
  have c3' := hr3.cell 3
  have c4 := hr3.cell 4
  have c5 := hr3.cell 5
  have f0 := hr3.frozen 0
  have f1 := hr3.frozen 1
  have f2 := hr3.frozen 2
  have f3 := hr3.frozen 3
  have f4 := hr3.frozen 4
  have f5 := hr3.frozen 5
  have gl := hr3.lt
  simp at c0 c1 c2 c3' c4 c5
  clear hr3 hb3 hs hok hx hy0 hy1 HN HR2 HB
  go_wp2
  clear c0 c1 c2 c3' c4 c5
  have hF := set6 HR3.out (.int .i64 2) (.bool (decide (y < 0))) (.slice A3 (strip (be8 (y.natAbs : Int))).length c3) (.int .u64 0) (.string { data := #[] }) (.slice none 0 0)
  have q0 := hF.cell 0
  have q1 := hF.cell 1
  have q2 := hF.cell 2
  have q3 := hF.cell 3
  have q4 := hF.cell 4
  have q5 := hF.cell 5
  simp at q0 q1 q2 q3 q4 q5
  refine bodyPost_ret (v := .tuple #[valI (decide (y < 0)) (.slice A3 (strip (be8 (y.natAbs : Int))).length c3), .bool ok, .bool true]) (by simp [results, Tryz.results13, go_sem, q0, q1, q2, q3, q4, q5]) rfl ⟨y, A3, c3, ok, rfl, ?_, HO.out.1, HO.out.2.1, HO.out.2.2.1, HO.out.2.2.2, low6 HB3.out (w.heap.size + 1) (Nat.le_succ _) _ _ _ _ _ _⟩
  exact now_sl2 HS.out (Nat.le_trans (Nat.le_succ _) (Nat.le_of_lt HSZ.out)) HSZ.out

theorem asV_uint32 {fz : Bool} {d a b : Nat} {t : Tr} {W : World} {T : TypeId} {v : Value} {p : Nat} {y : Int} (h : FV fz d a b t W (.iface T v)) (hb : b ≤ W.heap.size) (hp : Blk W p 79 #[.int .u32 y]) :
    Calls Tryz.prog 59 #[.iface T v, .iface 127 (.pointer (some ⟨p, 0, none⟩))] W (AsOut (t.k = 2 ∧ 0 ≤ iv t.neg t.mag ∧ iv t.neg t.mag ≤ 4294967295) p 79 .u32 (iv t.neg t.mag) W) := by
  by_cases hk : t.k = 2
  · obtain ⟨u, he, hs⟩ := h.int_of hk
    injection he with he1 he2
    subst he1 he2
    exact (asP_uint32 (hs.sm.si hb) hp).mono (fun e w' h => h.imp ⟨fun h => ⟨hk, h⟩, fun h => h.2⟩)
  · exact (asNo_fv h hk).mono (fun e w' h => .inr ⟨fun h2 => hk h2.1, h⟩)
theorem asK_uint32 {t : Tr} {x : Vc} {w : World} (h : HV 4 t x w) (g : Good 3 t) (m : MakeT 3 t) (hG : GL w) (bf : Int) (hb0 : 0 ≤ bf) (hb1 : bf < 256) :
    Calls Tryz.prog 13 #[x.agg, .int .i64 8, .int .u8 bf] w (NowOut (t.k = 2 ∧ 0 ≤ iv t.neg t.mag ∧ iv t.neg t.mag ≤ 4294967295) (iv t.neg t.mag) w) := by
  obtain ⟨k, n, A, l, c, b, s, A', l', c', rfl⟩ := h.shape
  have hl1 : Below w.heap.size w (w.alloc (.cells (VcB ⟨k, n, .slice A l c, b, s, .slice A' l' c'⟩) 26)) := below_al (Below.refl _ _) _
  have hl2 := below_al hl1 (.cells valZ 26)
  have HV := Lib.hid (value_any 3 (by decide) (h.up hl2) g m (hG.up hl2))
  have hz : (w.alloc (.cells (VcB ⟨k, n, .slice A l c, b, s, .slice A' l' c'⟩) 26)).heap.size = w.heap.size + 1 := by simp
  have hr := Blk.new (w.alloc (.cells (VcB ⟨k, n, .slice A l c, b, s, .slice A' l' c'⟩) 26)) 26 valZ
  rw [hz] at hr
  have HR := Lib.hid hr
  have HL := Lib.hid hl2
  obtain ⟨b2, hb2⟩ : ∃ b2 : Int, b2 = bf := ⟨_, rfl⟩
  have HBF : Hid (0 ≤ b2 ∧ b2 ≤ 4294967295) := Lib.hid (by rw [hb2]; omega)
  have w1 : IntKind.u32.wrap bf = b2 := by rw [hb2]; simp [IntKind.wrap, IntKind.bits, IntKind.signed]; omega
  clear hb2
  clear h g m hG hl1 hl2 hz hr hb0 hb1
  go_enter Tryz.func13, Tryz.ntmps13
  go_wp2_with fail
  refine HV.out.mono ?_
  rintro e w2 ⟨v, rfl, hv, hb⟩
  obtain ⟨T, v, rfl⟩ := hv.ifc
  have HB := Lib.hid (below_up HL.out hb)
  have hr2 := HR.out.below hb HR.out.lt
  have hq1 : Below w2.heap.size w2 (w2.alloc (.cells valZ 26)) := below_al (Below.refl _ _) _
  have hq2 := below_al hq1 (.cells #[.int .u32 b2] 79)
  have hz2 : (w2.alloc (.cells valZ 26)).heap.size = w2.heap.size + 1 := by simp
  have hp2 := Blk.new (w2.alloc (.cells valZ 26)) 79 #[.int .u32 b2]
  rw [hz2] at hp2
  have HN := Lib.hid (now_uint32 (fun h => h.2) HBF.out.1 HBF.out.2 (asV_uint32 (hv.keep (still_below hq2 (fun k hk => hk.2))) hq2.size hp2))
  have HR2 := Lib.hid hr2
  clear hq1 hq2 hz2 hp2 hv hb hr2 HV HR HL HBF
  go_wp2_with fail
  refine HN.out.mono ?_
  rintro e w3 ⟨y, A3, c3, ok, rfl, hs, hok, hx, hy0, hy1, hb3⟩
  have hr3 := HR2.out.below hb3 HR2.out.lt
  have HR3 := Lib.hid hr3
  have HB3 := Lib.hid (below_up HB.out hb3)
  have HS := Lib.hid hs
  have HSZ : Hid (w.heap.size + 1 < w2.heap.size) := Lib.hid HR2.out.lt
  have HO := Lib.hid (And.intro hok (And.intro hx (And.intro hy0 hy1)))
  have c0 := hr3.cell 0
  have c1 := hr3.cell 1
  have c2 := hr3.cell 2
  have c3' := hr3.cell 3
  have c4 := hr3.cell 4
  have c5 := hr3.cell 5
  have f0 := hr3.frozen 0
  have f1 := hr3.frozen 1
  have f2 := hr3.frozen 2
  have f3 := hr3.frozen 3
  have f4 := hr3.frozen 4
  have f5 := hr3.frozen 5
  have gl := hr3.lt
  simp at c0 c1 c2 c3' c4 c5
  clear hr3 hb3 hs hok hx hy0 hy1 HN HR2 HB
  go_wp2
  clear c0 c1 c2 c3' c4 c5
  have hF := set6 HR3.out (.int .i64 2) (.bool (decide (y < 0))) (.slice A3 (strip (be8 (y.natAbs : Int))).length c3) (.int .u64 0) (.string { data := #[] }) (.slice none 0 0)
  have q0 := hF.cell 0
  have q1 := hF.cell 1
  have q2 := hF.cell 2
  have q3 := hF.cell 3
  have q4 := hF.cell 4
  have q5 := hF.cell 5
  simp at q0 q1 q2 q3 q4 q5
  refine bodyPost_ret (v := .tuple #[valI (decide (y < 0)) (.slice A3 (strip (be8 (y.natAbs : Int))).length c3), .bool ok, .bool true]) (by simp [results, Tryz.results13, go_sem, q0, q1, q2, q3, q4, q5]) rfl ⟨y, A3, c3, ok, rfl, ?_, HO.out.1, HO.out.2.1, HO.out.2.2.1, HO.out.2.2.2, low6 HB3.out (w.heap.size + 1) (Nat.le_succ _) _ _ _ _ _ _⟩
  exact now_sl2 HS.out (Nat.le_trans (Nat.le_succ _) (Nat.le_of_lt HSZ.out)) HSZ.out

theorem asV_uint64 {fz : Bool} {d a b : Nat} {t : Tr} {W : World} {T : TypeId} {v : Value} {p : Nat} {y : Int} (h : FV fz d a b t W (.iface T v)) (hb : b ≤ W.heap.size) (hp : Blk W p 23 #[.int .u64 y]) :
    Calls Tryz.prog 59 #[.iface T v, .iface 128 (.pointer (some ⟨p, 0, none⟩))] W (AsOut (t.k = 2 ∧ 0 ≤ iv t.neg t.mag ∧ iv t.neg t.mag ≤ 18446744073709551615) p 23 .u64 (iv t.neg t.mag) W) := by
  by_cases hk : t.k = 2
  · obtain ⟨u, he, hs⟩ := h.int_of hk
    injection he with he1 he2
    subst he1 he2
    exact (asP_uint64 (hs.sm.si hb) hp).mono (fun e w' h => h.imp ⟨fun h => ⟨hk, h⟩, fun h => h.2⟩)
  · exact (asNo_fv h hk).mono (fun e w' h => .inr ⟨fun h2 => hk h2.1, h⟩)
theorem asK_uint64 {t : Tr} {x : Vc} {w : World} (h : HV 4 t x w) (g : Good 3 t) (m : MakeT 3 t) (hG : GL w) (bf : Int) (hb0 : 0 ≤ bf) (hb1 : bf < 256) :
    Calls Tryz.prog 13 #[x.agg, .int .i64 9, .int .u8 bf] w (NowOut (t.k = 2 ∧ 0 ≤ iv t.neg t.mag ∧ iv t.neg t.mag ≤ 18446744073709551615) (iv t.neg t.mag) w) := by
  obtain ⟨k, n, A, l, c, b, s, A', l', c', rfl⟩ := h.shape
  have hl1 : Below w.heap.size w (w.alloc (.cells (VcB ⟨k, n, .slice A l c, b, s, .slice A' l' c'⟩) 26)) := below_al (Below.refl _ _) _
  have hl2 := below_al hl1 (.cells valZ 26)
  have HV := Lib.hid (value_any 3 (by decide) (h.up hl2) g m (hG.up hl2))
  have hz : (w.alloc (.cells (VcB ⟨k, n, .slice A l c, b, s, .slice A' l' c'⟩) 26)).heap.size = w.heap.size + 1 := by simp
  have hr := Blk.new (w.alloc (.cells (VcB ⟨k, n, .slice A l c, b, s, .slice A' l' c'⟩) 26)) 26 valZ
  rw [hz] at hr
  have HR := Lib.hid hr
  have HL := Lib.hid hl2
  obtain ⟨b2, hb2⟩ : ∃ b2 : Int, b2 = bf := ⟨_, rfl⟩
  have HBF : Hid (0 ≤ b2 ∧ b2 ≤ 18446744073709551615) := Lib.hid (by rw [hb2]; omega)
  have w1 : IntKind.u64.wrap bf = b2 := by rw [hb2]; simp [IntKind.wrap, IntKind.bits, IntKind.signed]; omega
  clear hb2
  clear h g m hG hl1 hl2 hz hr hb0 hb1
  go_enter Tryz.func13, Tryz.ntmps13
  go_wp2_with fail
  refine HV.out.mono ?_
  rintro e w2 ⟨v, rfl, hv, hb⟩
  obtain ⟨T, v, rfl⟩ := hv.ifc
  have HB := Lib.hid (below_up HL.out hb)
  have hr2 := HR.out.below hb HR.out.lt
  have hq1 : Below w2.heap.size w2 (w2.alloc (.cells valZ 26)) := below_al (Below.refl _ _) _
  have hq2 := below_al hq1 (.cells #[.int .u64 b2] 23)
  have hz2 : (w2.alloc (.cells valZ 26)).heap.size = w2.heap.size + 1 := by simp
  have hp2 := Blk.new (w2.alloc (.cells valZ 26)) 23 #[.int .u64 b2]
  rw [hz2] at hp2
  have HN := Lib.hid (now_uint64 (fun h => h.2) HBF.out.1 HBF.out.2 (asV_uint64 (hv.keep (still_below hq2 (fun k hk => hk.2))) hq2.size hp2))
  have HR2 := Lib.hid hr2
  clear hq1 hq2 hz2 hp2 hv hb hr2 HV HR HL HBF
  go_wp2_with fail
  refine HN.out.mono ?_
  rintro e w3 ⟨y, A3, c3, ok, rfl, hs, hok, hx, hy0, hy1, hb3⟩
  have hr3 := HR2.out.below hb3 HR2.out.lt
  have HR3 := Lib.hid hr3
  have HB3 := Lib.hid (below_up HB.out hb3)
  have HS := Lib.hid hs
  have HSZ : Hid (w.heap.size + 1 < w2.heap.size) := Lib.hid HR2.out.lt
  have HO := Lib.hid (And.intro hok (And.intro hx (And.intro hy0 hy1)))
  have c0 := hr3.cell 0
  have c1 := hr3.cell 1
  have c2 := hr3.cell 2
  have c3' := hr3.cell 3
  have c4 := hr3.cell 4
  have c5 := hr3.cell 5
  have f0 := hr3.frozen 0
  have f1 := hr3.frozen 1
  have f2 := hr3.frozen 2
  have f3 := hr3.frozen 3
  have f4 := hr3.frozen 4
  have f5 := hr3.frozen 5
  have gl := hr3.lt
  simp at c0 c1 c2 c3' c4 c5
  clear hr3 hb3 hs hok hx hy0 hy1 HN HR2 HB
  go_wp2
  clear c0 c1 c2 c3' c4 c5
  have hF := set6 HR3.out (.int .i64 2) (.bool (decide (y < 0))) (.slice A3 (strip (be8 (y.natAbs : Int))).length c3) (.int .u64 0) (.string { data := #[] }) (.slice none 0 0)
  have q0 := hF.cell 0
  have q1 := hF.cell 1
  have q2 := hF.cell 2
  have q3 := hF.cell 3
  have q4 := hF.cell 4
  have q5 := hF.cell 5
  simp at q0 q1 q2 q3 q4 q5
  refine bodyPost_ret (v := .tuple #[valI (decide (y < 0)) (.slice A3 (strip (be8 (y.natAbs : Int))).length c3), .bool ok, .bool true]) (by simp [results, Tryz.results13, go_sem, q0, q1, q2, q3, q4, q5]) rfl ⟨y, A3, c3, ok, rfl, ?_, HO.out.1, HO.out.2.1, HO.out.2.2.1, HO.out.2.2.2, low6 HB3.out (w.heap.size + 1) (Nat.le_succ _) _ _ _ _ _ _⟩
  exact now_sl2 HS.out (Nat.le_trans (Nat.le_succ _) (Nat.le_of_lt HSZ.out)) HSZ.out

theorem asV_uintptr {fz : Bool} {d a b : Nat} {t : Tr} {W : World} {T : TypeId} {v : Value} {p : Nat} {y : Int} (h : FV fz d a b t W (.iface T v)) (hb : b ≤ W.heap.size) (hp : Blk W p 12 #[.int .u64 y]) :
    Calls Tryz.prog 59 #[.iface T v, .iface 129 (.pointer (some ⟨p, 0, none⟩))] W (AsOut (t.k = 2 ∧ 0 ≤ iv t.neg t.mag ∧ iv t.neg t.mag ≤ 18446744073709551615) p 12 .u64 (iv t.neg t.mag) W) := by
  by_cases hk : t.k = 2
  · obtain ⟨u, he, hs⟩ := h.int_of hk
    injection he with he1 he2
    subst he1 he2
    exact (asP_uintptr (hs.sm.si hb) hp).mono (fun e w' h => h.imp ⟨fun h => ⟨hk, h⟩, fun h => h.2⟩)
  · exact (asNo_fv h hk).mono (fun e w' h => .inr ⟨fun h2 => hk h2.1, h⟩)
theorem asK_uintptr {t : Tr} {x : Vc} {w : World} (h : HV 4 t x w) (g : Good 3 t) (m : MakeT 3 t) (hG : GL w) (bf : Int) (hb0 : 0 ≤ bf) (hb1 : bf < 256) :
    Calls Tryz.prog 13 #[x.agg, .int .i64 10, .int .u8 bf] w (NowOut (t.k = 2 ∧ 0 ≤ iv t.neg t.mag ∧ iv t.neg t.mag ≤ 18446744073709551615) (iv t.neg t.mag) w) := by
  obtain ⟨k, n, A, l, c, b, s, A', l', c', rfl⟩ := h.shape
  have hl1 : Below w.heap.size w (w.alloc (.cells (VcB ⟨k, n, .slice A l c, b, s, .slice A' l' c'⟩) 26)) := below_al (Below.refl _ _) _
  have hl2 := below_al hl1 (.cells valZ 26)
  have HV := Lib.hid (value_any 3 (by decide) (h.up hl2) g m (hG.up hl2))
  have hz : (w.alloc (.cells (VcB ⟨k, n, .slice A l c, b, s, .slice A' l' c'⟩) 26)).heap.size = w.heap.size + 1 := by simp
  have hr := Blk.new (w.alloc (.cells (VcB ⟨k, n, .slice A l c, b, s, .slice A' l' c'⟩) 26)) 26 valZ
  rw [hz] at hr
  have HR := Lib.hid hr
  have HL := Lib.hid hl2
  obtain ⟨b2, hb2⟩ : ∃ b2 : Int, b2 = bf := ⟨_, rfl⟩
  have HBF : Hid (0 ≤ b2 ∧ b2 ≤ 18446744073709551615) := Lib.hid (by rw [hb2]; omega)
  have w1 : IntKind.u64.wrap bf = b2 := by rw [hb2]; simp [IntKind.wrap, IntKind.bits, IntKind.signed]; omega
  clear hb2
  clear h g m hG hl1 hl2 hz hr hb0 hb1
  go_enter Tryz.func13, Tryz.ntmps13
  go_wp2_with fail
  refine HV.out.mono ?_
  rintro e w2 ⟨v, rfl, hv, hb⟩
  obtain ⟨T, v, rfl⟩ := hv.ifc
  have HB := Lib.hid (below_up HL.out hb)
  have hr2 := HR.out.below hb HR.out.lt
  have hq1 : Below w2.heap.size w2 (w2.alloc (.cells valZ 26)) := below_al (Below.refl _ _) _
  have hq2 := below_al hq1 (.cells #[.int .u64 b2] 12)
  have hz2 : (w2.alloc (.cells valZ 26)).heap.size = w2.heap.size + 1 := by simp
  have hp2 := Blk.new (w2.alloc (.cells valZ 26)) 12 #[.int .u64 b2]
  rw [hz2] at hp2
  have HN := Lib.hid (now_uintptr (fun h => h.2) HBF.out.1 HBF.out.2 (asV_uintptr (hv.keep (still_below hq2 (fun k hk => hk.2))) hq2.size hp2))
  have HR2 := Lib.hid hr2
  clear hq1 hq2 hz2 hp2 hv hb hr2 HV HR HL HBF
  go_wp2_with fail
  refine HN.out.mono ?_
  rintro e w3 ⟨y, A3, c3, ok, rfl, hs, hok, hx, hy0, hy1, hb3⟩
  have hr3 := HR2.out.below hb3 HR2.out.lt
  have HR3 := Lib.hid hr3
  have HB3 := Lib.hid (below_up HB.out hb3)
  have HS := Lib.hid hs
  have HSZ : Hid (w.heap.size + 1 < w2.heap.size) := Lib.hid HR2.out.lt
  have HO := Lib.hid (And.intro hok (And.intro hx (And.intro hy0 hy1)))
  have c0 := hr3.cell 0
  have c1 := hr3.cell 1
  have c2 := hr3.cell 2
  have c3' := hr3.cell 3
  have c4 := hr3.cell 4
  have c5 := hr3.cell 5
  have f0 := hr3.frozen 0
  have f1 := hr3.frozen 1
  have f2 := hr3.frozen 2
  have f3 := hr3.frozen 3
  have f4 := hr3.frozen 4
  have f5 := hr3.frozen 5
  have gl := hr3.lt
  simp at c0 c1 c2 c3' c4 c5
  clear hr3 hb3 hs hok hx hy0 hy1 HN HR2 HB
  go_wp2
  clear c0 c1 c2 c3' c4 c5
  have hF := set6 HR3.out (.int .i64 2) (.bool (decide (y < 0))) (.slice A3 (strip (be8 (y.natAbs : Int))).length c3) (.int .u64 0) (.string { data := #[] }) (.slice none 0 0)
  have q0 := hF.cell 0
  have q1 := hF.cell 1
  have q2 := hF.cell 2
  have q3 := hF.cell 3
  have q4 := hF.cell 4
  have q5 := hF.cell 5
  simp at q0 q1 q2 q3 q4 q5
  refine bodyPost_ret (v := .tuple #[valI (decide (y < 0)) (.slice A3 (strip (be8 (y.natAbs : Int))).length c3), .bool ok, .bool true]) (by simp [results, Tryz.results13, go_sem, q0, q1, q2, q3, q4, q5]) rfl ⟨y, A3, c3, ok, rfl, ?_, HO.out.1, HO.out.2.1, HO.out.2.2.1, HO.out.2.2.2, low6 HB3.out (w.heap.size + 1) (Nat.le_succ _) _ _ _ _ _ _⟩
  exact now_sl2 HS.out (Nat.le_trans (Nat.le_succ _) (Nat.le_of_lt HSZ.out)) HSZ.out
end Go.Proofs.YtloloifngbmibaaGreatDoor
