/- The thin package's asSigned, asUnsigned. -/
import Derived.Test.YtloloifngbmibaaGreatDoorM43
import Derived.Test.YtloloifngbmibaaGreatDoorM44
import Derived.BigRegion
set_option linter.unusedVariables false
set_option linter.unusedSimpArgs false
set_option maxRecDepth 4000
namespace Go.Proofs.YtloloifngbmibaaGreatDoor
open Go.RowKit

/-- What asSigned and asUnsigned hand back: a number as a Val, whether it was done. -/
def NowOut (P : Prop) (x : Int) (w : World) (e : Ending) (w' : World) : Prop := ∃ (y : Int) (A : Option Addr) (c : Nat) (ok : Bool), e = .returned (.tuple #[valI (decide (y < 0)) (.slice A (strip (be8 (y.natAbs : Int))).length c), .bool ok, .bool true]) ∧
    SlV w' (Nw w w') .u8 (.slice A (strip (be8 (y.natAbs : Int))).length c) (strip (be8 (y.natAbs : Int))) ∧ (ok = true ↔ P) ∧ (P → y = x) ∧ -18446744073709551616 < y ∧ y < 18446744073709551616 ∧ Below w.heap.size w w'
/-- A second name for a load. -/
abbrev ldAs2 (t : TypeId) (x : Operand) : Op := .load t x
/-- A number that was made, on its way to be told. -/
def NumIn (w1 : World) (s : Int) (a : Option Addr) (y : Int) (W : World) : Prop := NewI w1 (.agg #[.int .i64 s, .pointer a]) (decide (y < 0)) (absW y) W ∧ Below w1.heap.size w1 W
/-- A number told as a Val; the cells of a block that was there before. -/
def NumOut (w1 : World) (y : Int) (g : Nat) (e : Ending) (w' : World) : Prop := ∃ A c, e = .returned (valI (decide (y < 0)) (.slice A (strip (be8 (y.natAbs : Int))).length c)) ∧
    SlV w' (Nw w1 w') .u8 (.slice A (strip (be8 (y.natAbs : Int))).length c) (strip (be8 (y.natAbs : Int))) ∧ Below w1.heap.size w1 w' ∧ Blk w' g 26 valZ ∧ g < w1.heap.size ∧
    w'.cell? ⟨g, 0, none⟩ = some (.int .i64 0) ∧ w'.cell? ⟨g, 1, none⟩ = some (.bool false) ∧ w'.cell? ⟨g, 2, none⟩ = some (.slice none 0 0) ∧ w'.cell? ⟨g, 3, none⟩ = some (.int .u64 0) ∧ w'.cell? ⟨g, 4, none⟩ = some (.string { data := #[] }) ∧ w'.cell? ⟨g, 5, none⟩ = some (.slice none 0 0) ∧
    w'.frozen? ⟨g, 0, none⟩ = false ∧ w'.frozen? ⟨g, 1, none⟩ = false ∧ w'.frozen? ⟨g, 2, none⟩ = false ∧ w'.frozen? ⟨g, 3, none⟩ = false ∧ w'.frozen? ⟨g, 4, none⟩ = false ∧ w'.frozen? ⟨g, 5, none⟩ = false ∧ g < w'.heap.size
theorem now_sl {w w1 w3 : World} {A : Option Addr} {c : Nat} {l : List Int} {n : Nat} {v0 v1 v2 v3 v4 v5 : Value} (h : SlV w3 (Nw w1 w3) .u8 (.slice A n c) l) (hs : w.heap.size ≤ w1.heap.size) (hg : w.heap.size < w1.heap.size) :
    SlV ((((((w3.setCell ⟨w.heap.size, 0, none⟩ v0).setCell ⟨w.heap.size, 1, none⟩ v1).setCell ⟨w.heap.size, 2, none⟩ v2).setCell ⟨w.heap.size, 3, none⟩ v3).setCell ⟨w.heap.size, 4, none⟩ v4).setCell ⟨w.heap.size, 5, none⟩ v5)
      (Nw w ((((((w3.setCell ⟨w.heap.size, 0, none⟩ v0).setCell ⟨w.heap.size, 1, none⟩ v1).setCell ⟨w.heap.size, 2, none⟩ v2).setCell ⟨w.heap.size, 3, none⟩ v3).setCell ⟨w.heap.size, 4, none⟩ v4).setCell ⟨w.heap.size, 5, none⟩ v5)) .u8 (.slice A n c) l := by
  refine (h.keep ?_).mono (fun k hk => ⟨Nat.le_trans hs hk.1, by simpa using hk.2⟩)
  have hne : ∀ (i : Nat) k, Nw w1 w3 k → k ≠ (⟨w.heap.size, i, none⟩ : Addr).block := fun i k hk => Nat.ne_of_gt (Nat.lt_of_lt_of_le hg hk.1)
  exact ((((((Still.refl _ w3).set (hne 0) _).set (hne 1) _).set (hne 2) _).set (hne 3) _).set (hne 4) _).set (hne 5) _
theorem num_out {w1 : World} {y : Int} {g : Nat} (hr : Blk w1 g 26 valZ) (h0 : -18446744073709551616 < y) (h1 : y < 18446744073709551616) :
    ∀ W' s a, NumIn w1.drew s a y W' → Calls Tryz.prog 60 #[.agg #[.int .i64 s, .pointer a]] W' (NumOut w1 y g) := by
  rintro W' s a ⟨hn, hb⟩
  refine (num_of W' _ (decide (y < 0)) (decide (y < 0)) y (sgB_abs y) h0 h1 w1.drew hn).mono ?_
  rintro e w' ⟨mv, rfl, hs, hb2⟩
  obtain ⟨A, c, rfl, hc, hr2⟩ := id hs
  have hb3 : Below w1.heap.size w1 w' := (Below.refl _ w1).drew.trans (below_up hb hb2)
  have k := hr.below hb3 hr.lt
  have hb0 : Below w1.heap.size w1 W' := (Below.refl _ w1).drew.trans hb
  refine ⟨A, c, rfl, hs.mono (fun k hk => nw_late hb0 hk), hb3, k, hr.lt, ?_, ?_, ?_, ?_, ?_, ?_, k.frozen 0, k.frozen 1, k.frozen 2, k.frozen 3, k.frozen 4, k.frozen 5, k.lt⟩
  all_goals
    rw [k.cell]
    rfl


theorem now_int {P : Prop} {T : TypeId} {v : Value} {x y : Int} {w : World} (hP : P → -9223372036854775808 ≤ x ∧ x ≤ 9223372036854775807) (hy0 : -9223372036854775808 ≤ y) (hy1 : y ≤ 9223372036854775807)
    (hC : Calls Tryz.prog 59 #[.iface T v, .iface 111 (.pointer (some ⟨w.heap.size + 1, 0, none⟩))] ((w.alloc (.cells valZ 26)).alloc (.cells #[.int .i64 y] 3)) (AsOut P (w.heap.size + 1) 3 .i64 x ((w.alloc (.cells valZ 26)).alloc (.cells #[.int .i64 y] 3)))) :
    Calls Tryz.prog 28 #[.iface T v, .int .i64 y] w (NowOut P x w) := by
  have hr := Blk.new w 26 valZ
  have hp := Blk.new (w.alloc (.cells valZ 26)) 3 #[.int .i64 y]
  have hl1 := below_al (Below.refl w.heap.size w) (.cells valZ 26)
  have hl2 := below_al hl1 (.cells #[.int .i64 y] 3)
  have hz : (w.alloc (.cells valZ 26)).heap.size = w.heap.size + 1 := by simp
  rw [hz] at hp
  have HR := Lib.hid (hr.alloc (.cells #[.int .i64 y] 3))
  have HL := Lib.hid hl2
  have HP := Lib.hid hp
  have HC := Lib.hid hC
  have HY := Lib.hid (And.intro hy0 hy1)
  have HPP := Lib.hid hP
  clear hr hp hl1 hl2 hz hy0 hy1 hC hP
  go_enter Tryz.func28, Tryz.ntmps28
  go_wp2_with fail
  refine HC.out.mono ?_
  rintro e w1 (⟨hp, rfl, hb, hbt⟩ | ⟨hp, ⟨T1, q1, rfl⟩, hb⟩)
  · have HP1 := Lib.hid hb
    have HR1 : Hid (Blk w1 w.heap.size 26 valZ) := Lib.hid (HR.out.keep (hbt.block _ HR.out.lt (by omega)))
    have HL1 : Hid (Below w.heap.size w w1) := Lib.hid (HL.out.trans (hbt.below (B := w.heap.size) HL.out.size (fun k hk => by subst hk; exact Nat.le_succ _)))
    have HY2 := Lib.hid (HPP.out hp)
    have HPT := Lib.hid hp
    clear hp hb hbt HR HL HP
    have HM : Hid (Calls Tryz.prog 61 #[.int .i64 x] w1.drew fun e w' => ∃ s a, e = .returned (.agg #[.int .i64 s, .pointer a]) ∧ NumIn w1.drew s a x w') := Lib.hid <| by
      refine (makeInt64_any x (by have := HY2.out; omega) (by have := HY2.out; omega) _).mono ?_
      rintro e w' ⟨v, rfl, s, a, rfl, h1, h2⟩
      exact ⟨s, a, rfl, ⟨s, a, rfl, h1, h2⟩, h1⟩
    have HNU : Hid (∀ W' s a, NumIn w1.drew s a x W' → Calls Tryz.prog 60 #[.agg #[.int .i64 s, .pointer a]] W' (NumOut w1 x w.heap.size)) := Lib.hid <| num_out HR1.out (by have := HY2.out; omega) (by have := HY2.out; omega)
    have cp : w1.drew.cell? ⟨w.heap.size + 1, 0, none⟩ = some (.int .i64 x) := HP1.out.drew.cell 0
    have wy : IntKind.i64.wrap x = x := by have := HY2.out; simp [IntKind.wrap, IntKind.bits, IntKind.signed]; omega
    clear HC
    go_wp2_with fail
    rw [show Op.load 3 (.tmp 7) = ldAs2 3 (.tmp 7) from rfl]
    go_region_held3 (fun _ => True) (exact True.intro)
      (first
        | ((with_reducible refine HM.out.mono ?_); rintro e w2 ⟨s, a, rfl, hni⟩)
        | ((with_reducible refine (HNU.out _ _ _ ‹NumIn _ _ _ _ _›).mono ?_); rintro e w3 ⟨A, c, rfl, hsl, hlo, hbk, hgl, c0, c1, c2, c3, c4, c5, f0, f1, f2, f3, f4, f5, gl⟩))
    have HSL := Lib.hid hsl
    have HLO := Lib.hid hlo
    have HBK := Lib.hid hbk
    have HGL := Lib.hid hgl
    clear hsl hlo hbk hgl hni HM HNU cp wy
    go_wp2
    clear c0 c1 c2 c3 c4 c5
    have hF := set6 HBK.out (.int .i64 2) (.bool (decide (x < 0))) (.slice A (strip (be8 (x.natAbs : Int))).length c) (.int .u64 0) (.string { data := #[] }) (.slice none 0 0)
    have q0 := hF.cell 0
    have q1 := hF.cell 1
    have q2 := hF.cell 2
    have q3 := hF.cell 3
    have q4 := hF.cell 4
    have q5 := hF.cell 5
    simp at q0 q1 q2 q3 q4 q5
    refine bodyPost_ret (v := .tuple #[valI (decide (x < 0)) (.slice A (strip (be8 (x.natAbs : Int))).length c), .bool true, .bool true]) (by simp [results, Tryz.results28, go_sem, q0, q1, q2, q3, q4, q5]) rfl ⟨x, A, c, true, rfl, ?_, ⟨fun _ => HPT.out, fun _ => rfl⟩, fun _ => rfl, by have := HY2.out; omega, by have := HY2.out; omega, low6 (below_up HL1.out HLO.out) w.heap.size (Nat.le_refl _) _ _ _ _ _ _⟩
    exact now_sl HSL.out HL1.out.size HGL.out
  · have HP1 := Lib.hid (HP.out.below hb HP.out.lt)
    have HR1 := Lib.hid (HR.out.below hb HR.out.lt)
    have HL1 := Lib.hid (below_up HL.out hb)
    have HY2 := Lib.hid HY.out
    have HPN := Lib.hid hp
    clear hp hb HR HL HP
    have HM : Hid (Calls Tryz.prog 61 #[.int .i64 y] w1.drew fun e w' => ∃ s a, e = .returned (.agg #[.int .i64 s, .pointer a]) ∧ NumIn w1.drew s a y w') := Lib.hid <| by
      refine (makeInt64_any y (by have := HY2.out; omega) (by have := HY2.out; omega) _).mono ?_
      rintro e w' ⟨v, rfl, s, a, rfl, h1, h2⟩
      exact ⟨s, a, rfl, ⟨s, a, rfl, h1, h2⟩, h1⟩
    have HNU : Hid (∀ W' s a, NumIn w1.drew s a y W' → Calls Tryz.prog 60 #[.agg #[.int .i64 s, .pointer a]] W' (NumOut w1 y w.heap.size)) := Lib.hid <| num_out HR1.out (by have := HY2.out; omega) (by have := HY2.out; omega)
    have cp : w1.drew.cell? ⟨w.heap.size + 1, 0, none⟩ = some (.int .i64 y) := HP1.out.drew.cell 0
    have wy : IntKind.i64.wrap y = y := by have := HY2.out; simp [IntKind.wrap, IntKind.bits, IntKind.signed]; omega
    clear HC
    go_wp2_with fail
    rw [show Op.load 3 (.tmp 7) = ldAs2 3 (.tmp 7) from rfl]
    go_region_held3 (fun _ => True) (exact True.intro)
      (first
        | ((with_reducible refine HM.out.mono ?_); rintro e w2 ⟨s, a, rfl, hni⟩)
        | ((with_reducible refine (HNU.out _ _ _ ‹NumIn _ _ _ _ _›).mono ?_); rintro e w3 ⟨A, c, rfl, hsl, hlo, hbk, hgl, c0, c1, c2, c3, c4, c5, f0, f1, f2, f3, f4, f5, gl⟩))
    have HSL := Lib.hid hsl
    have HLO := Lib.hid hlo
    have HBK := Lib.hid hbk
    have HGL := Lib.hid hgl
    clear hsl hlo hbk hgl hni HM HNU cp wy
    go_wp2
    clear c0 c1 c2 c3 c4 c5
    have hF := set6 HBK.out (.int .i64 2) (.bool (decide (y < 0))) (.slice A (strip (be8 (y.natAbs : Int))).length c) (.int .u64 0) (.string { data := #[] }) (.slice none 0 0)
    have q0 := hF.cell 0
    have q1 := hF.cell 1
    have q2 := hF.cell 2
    have q3 := hF.cell 3
    have q4 := hF.cell 4
    have q5 := hF.cell 5
    simp at q0 q1 q2 q3 q4 q5
    refine bodyPost_ret (v := .tuple #[valI (decide (y < 0)) (.slice A (strip (be8 (y.natAbs : Int))).length c), .bool false, .bool true]) (by simp [results, Tryz.results28, go_sem, q0, q1, q2, q3, q4, q5]) rfl ⟨y, A, c, false, rfl, ?_, ⟨(fun h => nomatch h), fun h => absurd h HPN.out⟩, fun h => absurd h HPN.out, by have := HY2.out; omega, by have := HY2.out; omega, low6 (below_up HL1.out HLO.out) w.heap.size (Nat.le_refl _) _ _ _ _ _ _⟩
    exact now_sl HSL.out HL1.out.size HGL.out


theorem now_int8 {P : Prop} {T : TypeId} {v : Value} {x y : Int} {w : World} (hP : P → -128 ≤ x ∧ x ≤ 127) (hy0 : -128 ≤ y) (hy1 : y ≤ 127)
    (hC : Calls Tryz.prog 59 #[.iface T v, .iface 119 (.pointer (some ⟨w.heap.size + 1, 0, none⟩))] ((w.alloc (.cells valZ 26)).alloc (.cells #[.int .i8 y] 69)) (AsOut P (w.heap.size + 1) 69 .i8 x ((w.alloc (.cells valZ 26)).alloc (.cells #[.int .i8 y] 69)))) :
    Calls Tryz.prog 29 #[.iface T v, .int .i8 y] w (NowOut P x w) := by
  have hr := Blk.new w 26 valZ
  have hp := Blk.new (w.alloc (.cells valZ 26)) 69 #[.int .i8 y]
  have hl1 := below_al (Below.refl w.heap.size w) (.cells valZ 26)
  have hl2 := below_al hl1 (.cells #[.int .i8 y] 69)
  have hz : (w.alloc (.cells valZ 26)).heap.size = w.heap.size + 1 := by simp
  rw [hz] at hp
  have HR := Lib.hid (hr.alloc (.cells #[.int .i8 y] 69))
  have HL := Lib.hid hl2
  have HP := Lib.hid hp
  have HC := Lib.hid hC
  have HY := Lib.hid (And.intro hy0 hy1)
  have HPP := Lib.hid hP
  clear hr hp hl1 hl2 hz hy0 hy1 hC hP
  go_enter Tryz.func29, Tryz.ntmps29
  go_wp2_with fail
  refine HC.out.mono ?_
  rintro e w1 (⟨hp, rfl, hb, hbt⟩ | ⟨hp, ⟨T1, q1, rfl⟩, hb⟩)
  · have HP1 := Lib.hid hb
    have HR1 : Hid (Blk w1 w.heap.size 26 valZ) := Lib.hid (HR.out.keep (hbt.block _ HR.out.lt (by omega)))
    have HL1 : Hid (Below w.heap.size w w1) := Lib.hid (HL.out.trans (hbt.below (B := w.heap.size) HL.out.size (fun k hk => by subst hk; exact Nat.le_succ _)))
    have HY2 := Lib.hid (HPP.out hp)
    have HPT := Lib.hid hp
    clear hp hb hbt HR HL HP
    have HM : Hid (Calls Tryz.prog 61 #[.int .i64 x] w1.drew fun e w' => ∃ s a, e = .returned (.agg #[.int .i64 s, .pointer a]) ∧ NumIn w1.drew s a x w') := Lib.hid <| by
      refine (makeInt64_any x (by have := HY2.out; omega) (by have := HY2.out; omega) _).mono ?_
      rintro e w' ⟨v, rfl, s, a, rfl, h1, h2⟩
      exact ⟨s, a, rfl, ⟨s, a, rfl, h1, h2⟩, h1⟩
    have HNU : Hid (∀ W' s a, NumIn w1.drew s a x W' → Calls Tryz.prog 60 #[.agg #[.int .i64 s, .pointer a]] W' (NumOut w1 x w.heap.size)) := Lib.hid <| num_out HR1.out (by have := HY2.out; omega) (by have := HY2.out; omega)
    have cp : w1.drew.cell? ⟨w.heap.size + 1, 0, none⟩ = some (.int .i8 x) := HP1.out.drew.cell 0
    have wy : IntKind.i64.wrap x = x := by have := HY2.out; simp [IntKind.wrap, IntKind.bits, IntKind.signed]; omega
    clear HC
    go_wp2_with fail
    rw [show Op.load 69 (.tmp 7) = ldAs2 69 (.tmp 7) from rfl]
    go_region_held3 (fun _ => True) (exact True.intro)
      (first
        | ((with_reducible refine HM.out.mono ?_); rintro e w2 ⟨s, a, rfl, hni⟩)
        | ((with_reducible refine (HNU.out _ _ _ ‹NumIn _ _ _ _ _›).mono ?_); rintro e w3 ⟨A, c, rfl, hsl, hlo, hbk, hgl, c0, c1, c2, c3, c4, c5, f0, f1, f2, f3, f4, f5, gl⟩))
    have HSL := Lib.hid hsl
    have HLO := Lib.hid hlo
    have HBK := Lib.hid hbk
    have HGL := Lib.hid hgl
    clear hsl hlo hbk hgl hni HM HNU cp wy
    go_wp2
    clear c0 c1 c2 c3 c4 c5
    have hF := set6 HBK.out (.int .i64 2) (.bool (decide (x < 0))) (.slice A (strip (be8 (x.natAbs : Int))).length c) (.int .u64 0) (.string { data := #[] }) (.slice none 0 0)
    have q0 := hF.cell 0
    have q1 := hF.cell 1
    have q2 := hF.cell 2
    have q3 := hF.cell 3
    have q4 := hF.cell 4
    have q5 := hF.cell 5
    simp at q0 q1 q2 q3 q4 q5
    refine bodyPost_ret (v := .tuple #[valI (decide (x < 0)) (.slice A (strip (be8 (x.natAbs : Int))).length c), .bool true, .bool true]) (by simp [results, Tryz.results29, go_sem, q0, q1, q2, q3, q4, q5]) rfl ⟨x, A, c, true, rfl, ?_, ⟨fun _ => HPT.out, fun _ => rfl⟩, fun _ => rfl, by have := HY2.out; omega, by have := HY2.out; omega, low6 (below_up HL1.out HLO.out) w.heap.size (Nat.le_refl _) _ _ _ _ _ _⟩
    exact now_sl HSL.out HL1.out.size HGL.out
  · have HP1 := Lib.hid (HP.out.below hb HP.out.lt)
    have HR1 := Lib.hid (HR.out.below hb HR.out.lt)
    have HL1 := Lib.hid (below_up HL.out hb)
    have HY2 := Lib.hid HY.out
    have HPN := Lib.hid hp
    clear hp hb HR HL HP
    have HM : Hid (Calls Tryz.prog 61 #[.int .i64 y] w1.drew fun e w' => ∃ s a, e = .returned (.agg #[.int .i64 s, .pointer a]) ∧ NumIn w1.drew s a y w') := Lib.hid <| by
      refine (makeInt64_any y (by have := HY2.out; omega) (by have := HY2.out; omega) _).mono ?_
      rintro e w' ⟨v, rfl, s, a, rfl, h1, h2⟩
      exact ⟨s, a, rfl, ⟨s, a, rfl, h1, h2⟩, h1⟩
    have HNU : Hid (∀ W' s a, NumIn w1.drew s a y W' → Calls Tryz.prog 60 #[.agg #[.int .i64 s, .pointer a]] W' (NumOut w1 y w.heap.size)) := Lib.hid <| num_out HR1.out (by have := HY2.out; omega) (by have := HY2.out; omega)
    have cp : w1.drew.cell? ⟨w.heap.size + 1, 0, none⟩ = some (.int .i8 y) := HP1.out.drew.cell 0
    have wy : IntKind.i64.wrap y = y := by have := HY2.out; simp [IntKind.wrap, IntKind.bits, IntKind.signed]; omega
    clear HC
    go_wp2_with fail
    rw [show Op.load 69 (.tmp 7) = ldAs2 69 (.tmp 7) from rfl]
    go_region_held3 (fun _ => True) (exact True.intro)
      (first
        | ((with_reducible refine HM.out.mono ?_); rintro e w2 ⟨s, a, rfl, hni⟩)
        | ((with_reducible refine (HNU.out _ _ _ ‹NumIn _ _ _ _ _›).mono ?_); rintro e w3 ⟨A, c, rfl, hsl, hlo, hbk, hgl, c0, c1, c2, c3, c4, c5, f0, f1, f2, f3, f4, f5, gl⟩))
    have HSL := Lib.hid hsl
    have HLO := Lib.hid hlo
    have HBK := Lib.hid hbk
    have HGL := Lib.hid hgl
    clear hsl hlo hbk hgl hni HM HNU cp wy
    go_wp2
    clear c0 c1 c2 c3 c4 c5
    have hF := set6 HBK.out (.int .i64 2) (.bool (decide (y < 0))) (.slice A (strip (be8 (y.natAbs : Int))).length c) (.int .u64 0) (.string { data := #[] }) (.slice none 0 0)
    have q0 := hF.cell 0
    have q1 := hF.cell 1
    have q2 := hF.cell 2
    have q3 := hF.cell 3
    have q4 := hF.cell 4
    have q5 := hF.cell 5
    simp at q0 q1 q2 q3 q4 q5
    refine bodyPost_ret (v := .tuple #[valI (decide (y < 0)) (.slice A (strip (be8 (y.natAbs : Int))).length c), .bool false, .bool true]) (by simp [results, Tryz.results29, go_sem, q0, q1, q2, q3, q4, q5]) rfl ⟨y, A, c, false, rfl, ?_, ⟨(fun h => nomatch h), fun h => absurd h HPN.out⟩, fun h => absurd h HPN.out, by have := HY2.out; omega, by have := HY2.out; omega, low6 (below_up HL1.out HLO.out) w.heap.size (Nat.le_refl _) _ _ _ _ _ _⟩
    exact now_sl HSL.out HL1.out.size HGL.out


theorem now_int16 {P : Prop} {T : TypeId} {v : Value} {x y : Int} {w : World} (hP : P → -32768 ≤ x ∧ x ≤ 32767) (hy0 : -32768 ≤ y) (hy1 : y ≤ 32767)
    (hC : Calls Tryz.prog 59 #[.iface T v, .iface 120 (.pointer (some ⟨w.heap.size + 1, 0, none⟩))] ((w.alloc (.cells valZ 26)).alloc (.cells #[.int .i16 y] 71)) (AsOut P (w.heap.size + 1) 71 .i16 x ((w.alloc (.cells valZ 26)).alloc (.cells #[.int .i16 y] 71)))) :
    Calls Tryz.prog 30 #[.iface T v, .int .i16 y] w (NowOut P x w) := by
  have hr := Blk.new w 26 valZ
  have hp := Blk.new (w.alloc (.cells valZ 26)) 71 #[.int .i16 y]
  have hl1 := below_al (Below.refl w.heap.size w) (.cells valZ 26)
  have hl2 := below_al hl1 (.cells #[.int .i16 y] 71)
  have hz : (w.alloc (.cells valZ 26)).heap.size = w.heap.size + 1 := by simp
  rw [hz] at hp
  have HR := Lib.hid (hr.alloc (.cells #[.int .i16 y] 71))
  have HL := Lib.hid hl2
  have HP := Lib.hid hp
  have HC := Lib.hid hC
  have HY := Lib.hid (And.intro hy0 hy1)
  have HPP := Lib.hid hP
  clear hr hp hl1 hl2 hz hy0 hy1 hC hP
  go_enter Tryz.func30, Tryz.ntmps30
  go_wp2_with fail
  refine HC.out.mono ?_
  rintro e w1 (⟨hp, rfl, hb, hbt⟩ | ⟨hp, ⟨T1, q1, rfl⟩, hb⟩)
  · have HP1 := Lib.hid hb
    have HR1 : Hid (Blk w1 w.heap.size 26 valZ) := Lib.hid (HR.out.keep (hbt.block _ HR.out.lt (by omega)))
    have HL1 : Hid (Below w.heap.size w w1) := Lib.hid (HL.out.trans (hbt.below (B := w.heap.size) HL.out.size (fun k hk => by subst hk; exact Nat.le_succ _)))
    have HY2 := Lib.hid (HPP.out hp)
    have HPT := Lib.hid hp
    clear hp hb hbt HR HL HP
    have HM : Hid (Calls Tryz.prog 61 #[.int .i64 x] w1.drew fun e w' => ∃ s a, e = .returned (.agg #[.int .i64 s, .pointer a]) ∧ NumIn w1.drew s a x w') := Lib.hid <| by
      refine (makeInt64_any x (by have := HY2.out; omega) (by have := HY2.out; omega) _).mono ?_
      rintro e w' ⟨v, rfl, s, a, rfl, h1, h2⟩
      exact ⟨s, a, rfl, ⟨s, a, rfl, h1, h2⟩, h1⟩
    have HNU : Hid (∀ W' s a, NumIn w1.drew s a x W' → Calls Tryz.prog 60 #[.agg #[.int .i64 s, .pointer a]] W' (NumOut w1 x w.heap.size)) := Lib.hid <| num_out HR1.out (by have := HY2.out; omega) (by have := HY2.out; omega)
    have cp : w1.drew.cell? ⟨w.heap.size + 1, 0, none⟩ = some (.int .i16 x) := HP1.out.drew.cell 0
    have wy : IntKind.i64.wrap x = x := by have := HY2.out; simp [IntKind.wrap, IntKind.bits, IntKind.signed]; omega
    clear HC
    go_wp2_with fail
    rw [show Op.load 71 (.tmp 7) = ldAs2 71 (.tmp 7) from rfl]
    go_region_held3 (fun _ => True) (exact True.intro)
      (first
        | ((with_reducible refine HM.out.mono ?_); rintro e w2 ⟨s, a, rfl, hni⟩)
        | ((with_reducible refine (HNU.out _ _ _ ‹NumIn _ _ _ _ _›).mono ?_); rintro e w3 ⟨A, c, rfl, hsl, hlo, hbk, hgl, c0, c1, c2, c3, c4, c5, f0, f1, f2, f3, f4, f5, gl⟩))
    have HSL := Lib.hid hsl
    have HLO := Lib.hid hlo
    have HBK := Lib.hid hbk
    have HGL := Lib.hid hgl
    clear hsl hlo hbk hgl hni HM HNU cp wy
    go_wp2
    clear c0 c1 c2 c3 c4 c5
    have hF := set6 HBK.out (.int .i64 2) (.bool (decide (x < 0))) (.slice A (strip (be8 (x.natAbs : Int))).length c) (.int .u64 0) (.string { data := #[] }) (.slice none 0 0)
    have q0 := hF.cell 0
    have q1 := hF.cell 1
    have q2 := hF.cell 2
    have q3 := hF.cell 3
    have q4 := hF.cell 4
    have q5 := hF.cell 5
    simp at q0 q1 q2 q3 q4 q5
    refine bodyPost_ret (v := .tuple #[valI (decide (x < 0)) (.slice A (strip (be8 (x.natAbs : Int))).length c), .bool true, .bool true]) (by simp [results, Tryz.results30, go_sem, q0, q1, q2, q3, q4, q5]) rfl ⟨x, A, c, true, rfl, ?_, ⟨fun _ => HPT.out, fun _ => rfl⟩, fun _ => rfl, by have := HY2.out; omega, by have := HY2.out; omega, low6 (below_up HL1.out HLO.out) w.heap.size (Nat.le_refl _) _ _ _ _ _ _⟩
    exact now_sl HSL.out HL1.out.size HGL.out
  · have HP1 := Lib.hid (HP.out.below hb HP.out.lt)
    have HR1 := Lib.hid (HR.out.below hb HR.out.lt)
    have HL1 := Lib.hid (below_up HL.out hb)
    have HY2 := Lib.hid HY.out
    have HPN := Lib.hid hp
    clear hp hb HR HL HP
    have HM : Hid (Calls Tryz.prog 61 #[.int .i64 y] w1.drew fun e w' => ∃ s a, e = .returned (.agg #[.int .i64 s, .pointer a]) ∧ NumIn w1.drew s a y w') := Lib.hid <| by
      refine (makeInt64_any y (by have := HY2.out; omega) (by have := HY2.out; omega) _).mono ?_
      rintro e w' ⟨v, rfl, s, a, rfl, h1, h2⟩
      exact ⟨s, a, rfl, ⟨s, a, rfl, h1, h2⟩, h1⟩
    have HNU : Hid (∀ W' s a, NumIn w1.drew s a y W' → Calls Tryz.prog 60 #[.agg #[.int .i64 s, .pointer a]] W' (NumOut w1 y w.heap.size)) := Lib.hid <| num_out HR1.out (by have := HY2.out; omega) (by have := HY2.out; omega)
    have cp : w1.drew.cell? ⟨w.heap.size + 1, 0, none⟩ = some (.int .i16 y) := HP1.out.drew.cell 0
    have wy : IntKind.i64.wrap y = y := by have := HY2.out; simp [IntKind.wrap, IntKind.bits, IntKind.signed]; omega
    clear HC
    go_wp2_with fail
    rw [show Op.load 71 (.tmp 7) = ldAs2 71 (.tmp 7) from rfl]
    go_region_held3 (fun _ => True) (exact True.intro)
      (first
        | ((with_reducible refine HM.out.mono ?_); rintro e w2 ⟨s, a, rfl, hni⟩)
        | ((with_reducible refine (HNU.out _ _ _ ‹NumIn _ _ _ _ _›).mono ?_); rintro e w3 ⟨A, c, rfl, hsl, hlo, hbk, hgl, c0, c1, c2, c3, c4, c5, f0, f1, f2, f3, f4, f5, gl⟩))
    have HSL := Lib.hid hsl
    have HLO := Lib.hid hlo
    have HBK := Lib.hid hbk
    have HGL := Lib.hid hgl
    clear hsl hlo hbk hgl hni HM HNU cp wy
    go_wp2
    clear c0 c1 c2 c3 c4 c5
    have hF := set6 HBK.out (.int .i64 2) (.bool (decide (y < 0))) (.slice A (strip (be8 (y.natAbs : Int))).length c) (.int .u64 0) (.string { data := #[] }) (.slice none 0 0)
    have q0 := hF.cell 0
    have q1 := hF.cell 1
    have q2 := hF.cell 2
    have q3 := hF.cell 3
    have q4 := hF.cell 4
    have q5 := hF.cell 5
    simp at q0 q1 q2 q3 q4 q5
    refine bodyPost_ret (v := .tuple #[valI (decide (y < 0)) (.slice A (strip (be8 (y.natAbs : Int))).length c), .bool false, .bool true]) (by simp [results, Tryz.results30, go_sem, q0, q1, q2, q3, q4, q5]) rfl ⟨y, A, c, false, rfl, ?_, ⟨(fun h => nomatch h), fun h => absurd h HPN.out⟩, fun h => absurd h HPN.out, by have := HY2.out; omega, by have := HY2.out; omega, low6 (below_up HL1.out HLO.out) w.heap.size (Nat.le_refl _) _ _ _ _ _ _⟩
    exact now_sl HSL.out HL1.out.size HGL.out


theorem now_int32 {P : Prop} {T : TypeId} {v : Value} {x y : Int} {w : World} (hP : P → -2147483648 ≤ x ∧ x ≤ 2147483647) (hy0 : -2147483648 ≤ y) (hy1 : y ≤ 2147483647)
    (hC : Calls Tryz.prog 59 #[.iface T v, .iface 121 (.pointer (some ⟨w.heap.size + 1, 0, none⟩))] ((w.alloc (.cells valZ 26)).alloc (.cells #[.int .i32 y] 21)) (AsOut P (w.heap.size + 1) 21 .i32 x ((w.alloc (.cells valZ 26)).alloc (.cells #[.int .i32 y] 21)))) :
    Calls Tryz.prog 31 #[.iface T v, .int .i32 y] w (NowOut P x w) := by
  have hr := Blk.new w 26 valZ
  have hp := Blk.new (w.alloc (.cells valZ 26)) 21 #[.int .i32 y]
  have hl1 := below_al (Below.refl w.heap.size w) (.cells valZ 26)
  have hl2 := below_al hl1 (.cells #[.int .i32 y] 21)
  have hz : (w.alloc (.cells valZ 26)).heap.size = w.heap.size + 1 := by simp
  rw [hz] at hp
  have HR := Lib.hid (hr.alloc (.cells #[.int .i32 y] 21))
  have HL := Lib.hid hl2
  have HP := Lib.hid hp
  have HC := Lib.hid hC
  have HY := Lib.hid (And.intro hy0 hy1)
  have HPP := Lib.hid hP
  clear hr hp hl1 hl2 hz hy0 hy1 hC hP
  go_enter Tryz.func31, Tryz.ntmps31
  go_wp2_with fail
  refine HC.out.mono ?_
  rintro e w1 (⟨hp, rfl, hb, hbt⟩ | ⟨hp, ⟨T1, q1, rfl⟩, hb⟩)
  · have HP1 := Lib.hid hb
    have HR1 : Hid (Blk w1 w.heap.size 26 valZ) := Lib.hid (HR.out.keep (hbt.block _ HR.out.lt (by omega)))
    have HL1 : Hid (Below w.heap.size w w1) := Lib.hid (HL.out.trans (hbt.below (B := w.heap.size) HL.out.size (fun k hk => by subst hk; exact Nat.le_succ _)))
    have HY2 := Lib.hid (HPP.out hp)
    have HPT := Lib.hid hp
    clear hp hb hbt HR HL HP
    have HM : Hid (Calls Tryz.prog 61 #[.int .i64 x] w1.drew fun e w' => ∃ s a, e = .returned (.agg #[.int .i64 s, .pointer a]) ∧ NumIn w1.drew s a x w') := Lib.hid <| by
      refine (makeInt64_any x (by have := HY2.out; omega) (by have := HY2.out; omega) _).mono ?_
      rintro e w' ⟨v, rfl, s, a, rfl, h1, h2⟩
      exact ⟨s, a, rfl, ⟨s, a, rfl, h1, h2⟩, h1⟩
    have HNU : Hid (∀ W' s a, NumIn w1.drew s a x W' → Calls Tryz.prog 60 #[.agg #[.int .i64 s, .pointer a]] W' (NumOut w1 x w.heap.size)) := Lib.hid <| num_out HR1.out (by have := HY2.out; omega) (by have := HY2.out; omega)
    have cp : w1.drew.cell? ⟨w.heap.size + 1, 0, none⟩ = some (.int .i32 x) := HP1.out.drew.cell 0
    have wy : IntKind.i64.wrap x = x := by have := HY2.out; simp [IntKind.wrap, IntKind.bits, IntKind.signed]; omega
    clear HC
    go_wp2_with fail
    rw [show Op.load 21 (.tmp 7) = ldAs2 21 (.tmp 7) from rfl]
    go_region_held3 (fun _ => True) (exact True.intro)
      (first
        | ((with_reducible refine HM.out.mono ?_); rintro e w2 ⟨s, a, rfl, hni⟩)
        | ((with_reducible refine (HNU.out _ _ _ ‹NumIn _ _ _ _ _›).mono ?_); rintro e w3 ⟨A, c, rfl, hsl, hlo, hbk, hgl, c0, c1, c2, c3, c4, c5, f0, f1, f2, f3, f4, f5, gl⟩))
    have HSL := Lib.hid hsl
    have HLO := Lib.hid hlo
    have HBK := Lib.hid hbk
    have HGL := Lib.hid hgl
    clear hsl hlo hbk hgl hni HM HNU cp wy
    go_wp2
    clear c0 c1 c2 c3 c4 c5
    have hF := set6 HBK.out (.int .i64 2) (.bool (decide (x < 0))) (.slice A (strip (be8 (x.natAbs : Int))).length c) (.int .u64 0) (.string { data := #[] }) (.slice none 0 0)
    have q0 := hF.cell 0
    have q1 := hF.cell 1
    have q2 := hF.cell 2
    have q3 := hF.cell 3
    have q4 := hF.cell 4
    have q5 := hF.cell 5
    simp at q0 q1 q2 q3 q4 q5
    refine bodyPost_ret (v := .tuple #[valI (decide (x < 0)) (.slice A (strip (be8 (x.natAbs : Int))).length c), .bool true, .bool true]) (by simp [results, Tryz.results31, go_sem, q0, q1, q2, q3, q4, q5]) rfl ⟨x, A, c, true, rfl, ?_, ⟨fun _ => HPT.out, fun _ => rfl⟩, fun _ => rfl, by have := HY2.out; omega, by have := HY2.out; omega, low6 (below_up HL1.out HLO.out) w.heap.size (Nat.le_refl _) _ _ _ _ _ _⟩
    exact now_sl HSL.out HL1.out.size HGL.out
  · have HP1 := Lib.hid (HP.out.below hb HP.out.lt)
    have HR1 := Lib.hid (HR.out.below hb HR.out.lt)
    have HL1 := Lib.hid (below_up HL.out hb)
    have HY2 := Lib.hid HY.out
    have HPN := Lib.hid hp
    clear hp hb HR HL HP
    have HM : Hid (Calls Tryz.prog 61 #[.int .i64 y] w1.drew fun e w' => ∃ s a, e = .returned (.agg #[.int .i64 s, .pointer a]) ∧ NumIn w1.drew s a y w') := Lib.hid <| by
      refine (makeInt64_any y (by have := HY2.out; omega) (by have := HY2.out; omega) _).mono ?_
      rintro e w' ⟨v, rfl, s, a, rfl, h1, h2⟩
      exact ⟨s, a, rfl, ⟨s, a, rfl, h1, h2⟩, h1⟩
    have HNU : Hid (∀ W' s a, NumIn w1.drew s a y W' → Calls Tryz.prog 60 #[.agg #[.int .i64 s, .pointer a]] W' (NumOut w1 y w.heap.size)) := Lib.hid <| num_out HR1.out (by have := HY2.out; omega) (by have := HY2.out; omega)
    have cp : w1.drew.cell? ⟨w.heap.size + 1, 0, none⟩ = some (.int .i32 y) := HP1.out.drew.cell 0
    have wy : IntKind.i64.wrap y = y := by have := HY2.out; simp [IntKind.wrap, IntKind.bits, IntKind.signed]; omega
    clear HC
    go_wp2_with fail
    rw [show Op.load 21 (.tmp 7) = ldAs2 21 (.tmp 7) from rfl]
    go_region_held3 (fun _ => True) (exact True.intro)
      (first
        | ((with_reducible refine HM.out.mono ?_); rintro e w2 ⟨s, a, rfl, hni⟩)
        | ((with_reducible refine (HNU.out _ _ _ ‹NumIn _ _ _ _ _›).mono ?_); rintro e w3 ⟨A, c, rfl, hsl, hlo, hbk, hgl, c0, c1, c2, c3, c4, c5, f0, f1, f2, f3, f4, f5, gl⟩))
    have HSL := Lib.hid hsl
    have HLO := Lib.hid hlo
    have HBK := Lib.hid hbk
    have HGL := Lib.hid hgl
    clear hsl hlo hbk hgl hni HM HNU cp wy
    go_wp2
    clear c0 c1 c2 c3 c4 c5
    have hF := set6 HBK.out (.int .i64 2) (.bool (decide (y < 0))) (.slice A (strip (be8 (y.natAbs : Int))).length c) (.int .u64 0) (.string { data := #[] }) (.slice none 0 0)
    have q0 := hF.cell 0
    have q1 := hF.cell 1
    have q2 := hF.cell 2
    have q3 := hF.cell 3
    have q4 := hF.cell 4
    have q5 := hF.cell 5
    simp at q0 q1 q2 q3 q4 q5
    refine bodyPost_ret (v := .tuple #[valI (decide (y < 0)) (.slice A (strip (be8 (y.natAbs : Int))).length c), .bool false, .bool true]) (by simp [results, Tryz.results31, go_sem, q0, q1, q2, q3, q4, q5]) rfl ⟨y, A, c, false, rfl, ?_, ⟨(fun h => nomatch h), fun h => absurd h HPN.out⟩, fun h => absurd h HPN.out, by have := HY2.out; omega, by have := HY2.out; omega, low6 (below_up HL1.out HLO.out) w.heap.size (Nat.le_refl _) _ _ _ _ _ _⟩
    exact now_sl HSL.out HL1.out.size HGL.out


theorem now_int64 {P : Prop} {T : TypeId} {v : Value} {x y : Int} {w : World} (hP : P → -9223372036854775808 ≤ x ∧ x ≤ 9223372036854775807) (hy0 : -9223372036854775808 ≤ y) (hy1 : y ≤ 9223372036854775807)
    (hC : Calls Tryz.prog 59 #[.iface T v, .iface 122 (.pointer (some ⟨w.heap.size + 1, 0, none⟩))] ((w.alloc (.cells valZ 26)).alloc (.cells #[.int .i64 y] 2)) (AsOut P (w.heap.size + 1) 2 .i64 x ((w.alloc (.cells valZ 26)).alloc (.cells #[.int .i64 y] 2)))) :
    Calls Tryz.prog 32 #[.iface T v, .int .i64 y] w (NowOut P x w) := by
  have hr := Blk.new w 26 valZ
  have hp := Blk.new (w.alloc (.cells valZ 26)) 2 #[.int .i64 y]
  have hl1 := below_al (Below.refl w.heap.size w) (.cells valZ 26)
  have hl2 := below_al hl1 (.cells #[.int .i64 y] 2)
  have hz : (w.alloc (.cells valZ 26)).heap.size = w.heap.size + 1 := by simp
  rw [hz] at hp
  have HR := Lib.hid (hr.alloc (.cells #[.int .i64 y] 2))
  have HL := Lib.hid hl2
  have HP := Lib.hid hp
  have HC := Lib.hid hC
  have HY := Lib.hid (And.intro hy0 hy1)
  have HPP := Lib.hid hP
  clear hr hp hl1 hl2 hz hy0 hy1 hC hP
  go_enter Tryz.func32, Tryz.ntmps32
  go_wp2_with fail
  refine HC.out.mono ?_
  rintro e w1 (⟨hp, rfl, hb, hbt⟩ | ⟨hp, ⟨T1, q1, rfl⟩, hb⟩)
  · have HP1 := Lib.hid hb
    have HR1 : Hid (Blk w1 w.heap.size 26 valZ) := Lib.hid (HR.out.keep (hbt.block _ HR.out.lt (by omega)))
    have HL1 : Hid (Below w.heap.size w w1) := Lib.hid (HL.out.trans (hbt.below (B := w.heap.size) HL.out.size (fun k hk => by subst hk; exact Nat.le_succ _)))
    have HY2 := Lib.hid (HPP.out hp)
    have HPT := Lib.hid hp
    clear hp hb hbt HR HL HP
    have HM : Hid (Calls Tryz.prog 61 #[.int .i64 x] w1.drew fun e w' => ∃ s a, e = .returned (.agg #[.int .i64 s, .pointer a]) ∧ NumIn w1.drew s a x w') := Lib.hid <| by
      refine (makeInt64_any x (by have := HY2.out; omega) (by have := HY2.out; omega) _).mono ?_
      rintro e w' ⟨v, rfl, s, a, rfl, h1, h2⟩
      exact ⟨s, a, rfl, ⟨s, a, rfl, h1, h2⟩, h1⟩
    have HNU : Hid (∀ W' s a, NumIn w1.drew s a x W' → Calls Tryz.prog 60 #[.agg #[.int .i64 s, .pointer a]] W' (NumOut w1 x w.heap.size)) := Lib.hid <| num_out HR1.out (by have := HY2.out; omega) (by have := HY2.out; omega)
    have cp : w1.drew.cell? ⟨w.heap.size + 1, 0, none⟩ = some (.int .i64 x) := HP1.out.drew.cell 0
    have wy : IntKind.i64.wrap x = x := by have := HY2.out; simp [IntKind.wrap, IntKind.bits, IntKind.signed]; omega
    clear HC
    go_wp2_with fail
    rw [show Op.load 2 (.tmp 7) = ldAs2 2 (.tmp 7) from rfl]
    go_region_held3 (fun _ => True) (exact True.intro)
      (first
        | ((with_reducible refine HM.out.mono ?_); rintro e w2 ⟨s, a, rfl, hni⟩)
        | ((with_reducible refine (HNU.out _ _ _ ‹NumIn _ _ _ _ _›).mono ?_); rintro e w3 ⟨A, c, rfl, hsl, hlo, hbk, hgl, c0, c1, c2, c3, c4, c5, f0, f1, f2, f3, f4, f5, gl⟩))
    have HSL := Lib.hid hsl
    have HLO := Lib.hid hlo
    have HBK := Lib.hid hbk
    have HGL := Lib.hid hgl
    clear hsl hlo hbk hgl hni HM HNU cp wy
    go_wp2
    clear c0 c1 c2 c3 c4 c5
    have hF := set6 HBK.out (.int .i64 2) (.bool (decide (x < 0))) (.slice A (strip (be8 (x.natAbs : Int))).length c) (.int .u64 0) (.string { data := #[] }) (.slice none 0 0)
    have q0 := hF.cell 0
    have q1 := hF.cell 1
    have q2 := hF.cell 2
    have q3 := hF.cell 3
    have q4 := hF.cell 4
    have q5 := hF.cell 5
    simp at q0 q1 q2 q3 q4 q5
    refine bodyPost_ret (v := .tuple #[valI (decide (x < 0)) (.slice A (strip (be8 (x.natAbs : Int))).length c), .bool true, .bool true]) (by simp [results, Tryz.results32, go_sem, q0, q1, q2, q3, q4, q5]) rfl ⟨x, A, c, true, rfl, ?_, ⟨fun _ => HPT.out, fun _ => rfl⟩, fun _ => rfl, by have := HY2.out; omega, by have := HY2.out; omega, low6 (below_up HL1.out HLO.out) w.heap.size (Nat.le_refl _) _ _ _ _ _ _⟩
    exact now_sl HSL.out HL1.out.size HGL.out
  · have HP1 := Lib.hid (HP.out.below hb HP.out.lt)
    have HR1 := Lib.hid (HR.out.below hb HR.out.lt)
    have HL1 := Lib.hid (below_up HL.out hb)
    have HY2 := Lib.hid HY.out
    have HPN := Lib.hid hp
    clear hp hb HR HL HP
    have HM : Hid (Calls Tryz.prog 61 #[.int .i64 y] w1.drew fun e w' => ∃ s a, e = .returned (.agg #[.int .i64 s, .pointer a]) ∧ NumIn w1.drew s a y w') := Lib.hid <| by
      refine (makeInt64_any y (by have := HY2.out; omega) (by have := HY2.out; omega) _).mono ?_
      rintro e w' ⟨v, rfl, s, a, rfl, h1, h2⟩
      exact ⟨s, a, rfl, ⟨s, a, rfl, h1, h2⟩, h1⟩
    have HNU : Hid (∀ W' s a, NumIn w1.drew s a y W' → Calls Tryz.prog 60 #[.agg #[.int .i64 s, .pointer a]] W' (NumOut w1 y w.heap.size)) := Lib.hid <| num_out HR1.out (by have := HY2.out; omega) (by have := HY2.out; omega)
    have cp : w1.drew.cell? ⟨w.heap.size + 1, 0, none⟩ = some (.int .i64 y) := HP1.out.drew.cell 0
    have wy : IntKind.i64.wrap y = y := by have := HY2.out; simp [IntKind.wrap, IntKind.bits, IntKind.signed]; omega
    clear HC
    go_wp2_with fail
    rw [show Op.load 2 (.tmp 7) = ldAs2 2 (.tmp 7) from rfl]
    go_region_held3 (fun _ => True) (exact True.intro)
      (first
        | ((with_reducible refine HM.out.mono ?_); rintro e w2 ⟨s, a, rfl, hni⟩)
        | ((with_reducible refine (HNU.out _ _ _ ‹NumIn _ _ _ _ _›).mono ?_); rintro e w3 ⟨A, c, rfl, hsl, hlo, hbk, hgl, c0, c1, c2, c3, c4, c5, f0, f1, f2, f3, f4, f5, gl⟩))
    have HSL := Lib.hid hsl
    have HLO := Lib.hid hlo
    have HBK := Lib.hid hbk
    have HGL := Lib.hid hgl
    clear hsl hlo hbk hgl hni HM HNU cp wy
    go_wp2
    clear c0 c1 c2 c3 c4 c5
    have hF := set6 HBK.out (.int .i64 2) (.bool (decide (y < 0))) (.slice A (strip (be8 (y.natAbs : Int))).length c) (.int .u64 0) (.string { data := #[] }) (.slice none 0 0)
    have q0 := hF.cell 0
    have q1 := hF.cell 1
    have q2 := hF.cell 2
    have q3 := hF.cell 3
    have q4 := hF.cell 4
    have q5 := hF.cell 5
    simp at q0 q1 q2 q3 q4 q5
    refine bodyPost_ret (v := .tuple #[valI (decide (y < 0)) (.slice A (strip (be8 (y.natAbs : Int))).length c), .bool false, .bool true]) (by simp [results, Tryz.results32, go_sem, q0, q1, q2, q3, q4, q5]) rfl ⟨y, A, c, false, rfl, ?_, ⟨(fun h => nomatch h), fun h => absurd h HPN.out⟩, fun h => absurd h HPN.out, by have := HY2.out; omega, by have := HY2.out; omega, low6 (below_up HL1.out HLO.out) w.heap.size (Nat.le_refl _) _ _ _ _ _ _⟩
    exact now_sl HSL.out HL1.out.size HGL.out


theorem now_uint {P : Prop} {T : TypeId} {v : Value} {x y : Int} {w : World} (hP : P → 0 ≤ x ∧ x ≤ 18446744073709551615) (hy0 : 0 ≤ y) (hy1 : y ≤ 18446744073709551615)
    (hC : Calls Tryz.prog 59 #[.iface T v, .iface 123 (.pointer (some ⟨w.heap.size + 1, 0, none⟩))] ((w.alloc (.cells valZ 26)).alloc (.cells #[.int .u64 y] 60)) (AsOut P (w.heap.size + 1) 60 .u64 x ((w.alloc (.cells valZ 26)).alloc (.cells #[.int .u64 y] 60)))) :
    Calls Tryz.prog 33 #[.iface T v, .int .u64 y] w (NowOut P x w) := by
  have hr := Blk.new w 26 valZ
  have hp := Blk.new (w.alloc (.cells valZ 26)) 60 #[.int .u64 y]
  have hl1 := below_al (Below.refl w.heap.size w) (.cells valZ 26)
  have hl2 := below_al hl1 (.cells #[.int .u64 y] 60)
  have hz : (w.alloc (.cells valZ 26)).heap.size = w.heap.size + 1 := by simp
  rw [hz] at hp
  have HR := Lib.hid (hr.alloc (.cells #[.int .u64 y] 60))
  have HL := Lib.hid hl2
  have HP := Lib.hid hp
  have HC := Lib.hid hC
  have HY := Lib.hid (And.intro hy0 hy1)
  have HPP := Lib.hid hP
  clear hr hp hl1 hl2 hz hy0 hy1 hC hP
  go_enter Tryz.func33, Tryz.ntmps33
  go_wp2_with fail
  refine HC.out.mono ?_
  rintro e w1 (⟨hp, rfl, hb, hbt⟩ | ⟨hp, ⟨T1, q1, rfl⟩, hb⟩)
  · have HP1 := Lib.hid hb
    have HR1 : Hid (Blk w1 w.heap.size 26 valZ) := Lib.hid (HR.out.keep (hbt.block _ HR.out.lt (by omega)))
    have HL1 : Hid (Below w.heap.size w w1) := Lib.hid (HL.out.trans (hbt.below (B := w.heap.size) HL.out.size (fun k hk => by subst hk; exact Nat.le_succ _)))
    have HY2 := Lib.hid (HPP.out hp)
    have HPT := Lib.hid hp
    clear hp hb hbt HR HL HP
    have HM : Hid (Calls Tryz.prog 62 #[.int .u64 x] w1.drew fun e w' => ∃ s a, e = .returned (.agg #[.int .i64 s, .pointer a]) ∧ NumIn w1.drew s a x w') := Lib.hid <| by
      refine (makeUint64_any x (by have := HY2.out; omega) (by have := HY2.out; omega) _).mono ?_
      rintro e w' ⟨v, rfl, s, a, rfl, h1, h2⟩
      rw [show (false : Bool) = decide ((x : Int) < 0) from (decide_eq_false (by have := HY2.out; omega)).symm] at h2
      exact ⟨s, a, rfl, ⟨s, a, rfl, h1, h2⟩, h1⟩
    have HNU : Hid (∀ W' s a, NumIn w1.drew s a x W' → Calls Tryz.prog 60 #[.agg #[.int .i64 s, .pointer a]] W' (NumOut w1 x w.heap.size)) := Lib.hid <| num_out HR1.out (by have := HY2.out; omega) (by have := HY2.out; omega)
    have cp : w1.drew.cell? ⟨w.heap.size + 1, 0, none⟩ = some (.int .u64 x) := HP1.out.drew.cell 0
    have wy : IntKind.u64.wrap x = x := by have := HY2.out; simp [IntKind.wrap, IntKind.bits, IntKind.signed]; omega
    clear HC
    go_wp2_with fail
    rw [show Op.load 60 (.tmp 7) = ldAs2 60 (.tmp 7) from rfl]
    go_region_held3 (fun _ => True) (exact True.intro)
      (first
        | ((with_reducible refine HM.out.mono ?_); rintro e w2 ⟨s, a, rfl, hni⟩)
        | ((with_reducible refine (HNU.out _ _ _ ‹NumIn _ _ _ _ _›).mono ?_); rintro e w3 ⟨A, c, rfl, hsl, hlo, hbk, hgl, c0, c1, c2, c3, c4, c5, f0, f1, f2, f3, f4, f5, gl⟩))
    have HSL := Lib.hid hsl
    have HLO := Lib.hid hlo
    have HBK := Lib.hid hbk
    have HGL := Lib.hid hgl
    clear hsl hlo hbk hgl hni HM HNU cp wy
    go_wp2
    clear c0 c1 c2 c3 c4 c5
    have hF := set6 HBK.out (.int .i64 2) (.bool (decide (x < 0))) (.slice A (strip (be8 (x.natAbs : Int))).length c) (.int .u64 0) (.string { data := #[] }) (.slice none 0 0)
    have q0 := hF.cell 0
    have q1 := hF.cell 1
    have q2 := hF.cell 2
    have q3 := hF.cell 3
    have q4 := hF.cell 4
    have q5 := hF.cell 5
    simp at q0 q1 q2 q3 q4 q5
    refine bodyPost_ret (v := .tuple #[valI (decide (x < 0)) (.slice A (strip (be8 (x.natAbs : Int))).length c), .bool true, .bool true]) (by simp [results, Tryz.results33, go_sem, q0, q1, q2, q3, q4, q5]) rfl ⟨x, A, c, true, rfl, ?_, ⟨fun _ => HPT.out, fun _ => rfl⟩, fun _ => rfl, by have := HY2.out; omega, by have := HY2.out; omega, low6 (below_up HL1.out HLO.out) w.heap.size (Nat.le_refl _) _ _ _ _ _ _⟩
    exact now_sl HSL.out HL1.out.size HGL.out
  · have HP1 := Lib.hid (HP.out.below hb HP.out.lt)
    have HR1 := Lib.hid (HR.out.below hb HR.out.lt)
    have HL1 := Lib.hid (below_up HL.out hb)
    have HY2 := Lib.hid HY.out
    have HPN := Lib.hid hp
    clear hp hb HR HL HP
    have HM : Hid (Calls Tryz.prog 62 #[.int .u64 y] w1.drew fun e w' => ∃ s a, e = .returned (.agg #[.int .i64 s, .pointer a]) ∧ NumIn w1.drew s a y w') := Lib.hid <| by
      refine (makeUint64_any y (by have := HY2.out; omega) (by have := HY2.out; omega) _).mono ?_
      rintro e w' ⟨v, rfl, s, a, rfl, h1, h2⟩
      rw [show (false : Bool) = decide ((y : Int) < 0) from (decide_eq_false (by have := HY2.out; omega)).symm] at h2
      exact ⟨s, a, rfl, ⟨s, a, rfl, h1, h2⟩, h1⟩
    have HNU : Hid (∀ W' s a, NumIn w1.drew s a y W' → Calls Tryz.prog 60 #[.agg #[.int .i64 s, .pointer a]] W' (NumOut w1 y w.heap.size)) := Lib.hid <| num_out HR1.out (by have := HY2.out; omega) (by have := HY2.out; omega)
    have cp : w1.drew.cell? ⟨w.heap.size + 1, 0, none⟩ = some (.int .u64 y) := HP1.out.drew.cell 0
    have wy : IntKind.u64.wrap y = y := by have := HY2.out; simp [IntKind.wrap, IntKind.bits, IntKind.signed]; omega
    clear HC
    go_wp2_with fail
    rw [show Op.load 60 (.tmp 7) = ldAs2 60 (.tmp 7) from rfl]
    go_region_held3 (fun _ => True) (exact True.intro)
      (first
        | ((with_reducible refine HM.out.mono ?_); rintro e w2 ⟨s, a, rfl, hni⟩)
        | ((with_reducible refine (HNU.out _ _ _ ‹NumIn _ _ _ _ _›).mono ?_); rintro e w3 ⟨A, c, rfl, hsl, hlo, hbk, hgl, c0, c1, c2, c3, c4, c5, f0, f1, f2, f3, f4, f5, gl⟩))
    have HSL := Lib.hid hsl
    have HLO := Lib.hid hlo
    have HBK := Lib.hid hbk
    have HGL := Lib.hid hgl
    clear hsl hlo hbk hgl hni HM HNU cp wy
    go_wp2
    clear c0 c1 c2 c3 c4 c5
    have hF := set6 HBK.out (.int .i64 2) (.bool (decide (y < 0))) (.slice A (strip (be8 (y.natAbs : Int))).length c) (.int .u64 0) (.string { data := #[] }) (.slice none 0 0)
    have q0 := hF.cell 0
    have q1 := hF.cell 1
    have q2 := hF.cell 2
    have q3 := hF.cell 3
    have q4 := hF.cell 4
    have q5 := hF.cell 5
    simp at q0 q1 q2 q3 q4 q5
    refine bodyPost_ret (v := .tuple #[valI (decide (y < 0)) (.slice A (strip (be8 (y.natAbs : Int))).length c), .bool false, .bool true]) (by simp [results, Tryz.results33, go_sem, q0, q1, q2, q3, q4, q5]) rfl ⟨y, A, c, false, rfl, ?_, ⟨(fun h => nomatch h), fun h => absurd h HPN.out⟩, fun h => absurd h HPN.out, by have := HY2.out; omega, by have := HY2.out; omega, low6 (below_up HL1.out HLO.out) w.heap.size (Nat.le_refl _) _ _ _ _ _ _⟩
    exact now_sl HSL.out HL1.out.size HGL.out


theorem now_uint8 {P : Prop} {T : TypeId} {v : Value} {x y : Int} {w : World} (hP : P → 0 ≤ x ∧ x ≤ 255) (hy0 : 0 ≤ y) (hy1 : y ≤ 255)
    (hC : Calls Tryz.prog 59 #[.iface T v, .iface 125 (.pointer (some ⟨w.heap.size + 1, 0, none⟩))] ((w.alloc (.cells valZ 26)).alloc (.cells #[.int .u8 y] 5)) (AsOut P (w.heap.size + 1) 5 .u8 x ((w.alloc (.cells valZ 26)).alloc (.cells #[.int .u8 y] 5)))) :
    Calls Tryz.prog 34 #[.iface T v, .int .u8 y] w (NowOut P x w) := by
  have hr := Blk.new w 26 valZ
  have hp := Blk.new (w.alloc (.cells valZ 26)) 5 #[.int .u8 y]
  have hl1 := below_al (Below.refl w.heap.size w) (.cells valZ 26)
  have hl2 := below_al hl1 (.cells #[.int .u8 y] 5)
  have hz : (w.alloc (.cells valZ 26)).heap.size = w.heap.size + 1 := by simp
  rw [hz] at hp
  have HR := Lib.hid (hr.alloc (.cells #[.int .u8 y] 5))
  have HL := Lib.hid hl2
  have HP := Lib.hid hp
  have HC := Lib.hid hC
  have HY := Lib.hid (And.intro hy0 hy1)
  have HPP := Lib.hid hP
  clear hr hp hl1 hl2 hz hy0 hy1 hC hP
  go_enter Tryz.func34, Tryz.ntmps34
  go_wp2_with fail
  refine HC.out.mono ?_
  rintro e w1 (⟨hp, rfl, hb, hbt⟩ | ⟨hp, ⟨T1, q1, rfl⟩, hb⟩)
  · have HP1 := Lib.hid hb
    have HR1 : Hid (Blk w1 w.heap.size 26 valZ) := Lib.hid (HR.out.keep (hbt.block _ HR.out.lt (by omega)))
    have HL1 : Hid (Below w.heap.size w w1) := Lib.hid (HL.out.trans (hbt.below (B := w.heap.size) HL.out.size (fun k hk => by subst hk; exact Nat.le_succ _)))
    have HY2 := Lib.hid (HPP.out hp)
    have HPT := Lib.hid hp
    clear hp hb hbt HR HL HP
    have HM : Hid (Calls Tryz.prog 62 #[.int .u64 x] w1.drew fun e w' => ∃ s a, e = .returned (.agg #[.int .i64 s, .pointer a]) ∧ NumIn w1.drew s a x w') := Lib.hid <| by
      refine (makeUint64_any x (by have := HY2.out; omega) (by have := HY2.out; omega) _).mono ?_
      rintro e w' ⟨v, rfl, s, a, rfl, h1, h2⟩
      rw [show (false : Bool) = decide ((x : Int) < 0) from (decide_eq_false (by have := HY2.out; omega)).symm] at h2
      exact ⟨s, a, rfl, ⟨s, a, rfl, h1, h2⟩, h1⟩
    have HNU : Hid (∀ W' s a, NumIn w1.drew s a x W' → Calls Tryz.prog 60 #[.agg #[.int .i64 s, .pointer a]] W' (NumOut w1 x w.heap.size)) := Lib.hid <| num_out HR1.out (by have := HY2.out; omega) (by have := HY2.out; omega)
    have cp : w1.drew.cell? ⟨w.heap.size + 1, 0, none⟩ = some (.int .u8 x) := HP1.out.drew.cell 0
    have wy : IntKind.u64.wrap x = x := by have := HY2.out; simp [IntKind.wrap, IntKind.bits, IntKind.signed]; omega
    clear HC
    go_wp2_with fail
    rw [show Op.load 5 (.tmp 7) = ldAs2 5 (.tmp 7) from rfl]
    go_region_held3 (fun _ => True) (exact True.intro)
      (first
        | ((with_reducible refine HM.out.mono ?_); rintro e w2 ⟨s, a, rfl, hni⟩)
        | ((with_reducible refine (HNU.out _ _ _ ‹NumIn _ _ _ _ _›).mono ?_); rintro e w3 ⟨A, c, rfl, hsl, hlo, hbk, hgl, c0, c1, c2, c3, c4, c5, f0, f1, f2, f3, f4, f5, gl⟩))
    have HSL := Lib.hid hsl
    have HLO := Lib.hid hlo
    have HBK := Lib.hid hbk
    have HGL := Lib.hid hgl
    clear hsl hlo hbk hgl hni HM HNU cp wy
    go_wp2
    clear c0 c1 c2 c3 c4 c5
    have hF := set6 HBK.out (.int .i64 2) (.bool (decide (x < 0))) (.slice A (strip (be8 (x.natAbs : Int))).length c) (.int .u64 0) (.string { data := #[] }) (.slice none 0 0)
    have q0 := hF.cell 0
    have q1 := hF.cell 1
    have q2 := hF.cell 2
    have q3 := hF.cell 3
    have q4 := hF.cell 4
    have q5 := hF.cell 5
    simp at q0 q1 q2 q3 q4 q5
    refine bodyPost_ret (v := .tuple #[valI (decide (x < 0)) (.slice A (strip (be8 (x.natAbs : Int))).length c), .bool true, .bool true]) (by simp [results, Tryz.results34, go_sem, q0, q1, q2, q3, q4, q5]) rfl ⟨x, A, c, true, rfl, ?_, ⟨fun _ => HPT.out, fun _ => rfl⟩, fun _ => rfl, by have := HY2.out; omega, by have := HY2.out; omega, low6 (below_up HL1.out HLO.out) w.heap.size (Nat.le_refl _) _ _ _ _ _ _⟩
    exact now_sl HSL.out HL1.out.size HGL.out
  · have HP1 := Lib.hid (HP.out.below hb HP.out.lt)
    have HR1 := Lib.hid (HR.out.below hb HR.out.lt)
    have HL1 := Lib.hid (below_up HL.out hb)
    have HY2 := Lib.hid HY.out
    have HPN := Lib.hid hp
    clear hp hb HR HL HP
    have HM : Hid (Calls Tryz.prog 62 #[.int .u64 y] w1.drew fun e w' => ∃ s a, e = .returned (.agg #[.int .i64 s, .pointer a]) ∧ NumIn w1.drew s a y w') := Lib.hid <| by
      refine (makeUint64_any y (by have := HY2.out; omega) (by have := HY2.out; omega) _).mono ?_
      rintro e w' ⟨v, rfl, s, a, rfl, h1, h2⟩
      rw [show (false : Bool) = decide ((y : Int) < 0) from (decide_eq_false (by have := HY2.out; omega)).symm] at h2
      exact ⟨s, a, rfl, ⟨s, a, rfl, h1, h2⟩, h1⟩
    have HNU : Hid (∀ W' s a, NumIn w1.drew s a y W' → Calls Tryz.prog 60 #[.agg #[.int .i64 s, .pointer a]] W' (NumOut w1 y w.heap.size)) := Lib.hid <| num_out HR1.out (by have := HY2.out; omega) (by have := HY2.out; omega)
    have cp : w1.drew.cell? ⟨w.heap.size + 1, 0, none⟩ = some (.int .u8 y) := HP1.out.drew.cell 0
    have wy : IntKind.u64.wrap y = y := by have := HY2.out; simp [IntKind.wrap, IntKind.bits, IntKind.signed]; omega
    clear HC
    go_wp2_with fail
    rw [show Op.load 5 (.tmp 7) = ldAs2 5 (.tmp 7) from rfl]
    go_region_held3 (fun _ => True) (exact True.intro)
      (first
        | ((with_reducible refine HM.out.mono ?_); rintro e w2 ⟨s, a, rfl, hni⟩)
        | ((with_reducible refine (HNU.out _ _ _ ‹NumIn _ _ _ _ _›).mono ?_); rintro e w3 ⟨A, c, rfl, hsl, hlo, hbk, hgl, c0, c1, c2, c3, c4, c5, f0, f1, f2, f3, f4, f5, gl⟩))
    have HSL := Lib.hid hsl
    have HLO := Lib.hid hlo
    have HBK := Lib.hid hbk
    have HGL := Lib.hid hgl
    clear hsl hlo hbk hgl hni HM HNU cp wy
    go_wp2
    clear c0 c1 c2 c3 c4 c5
    have hF := set6 HBK.out (.int .i64 2) (.bool (decide (y < 0))) (.slice A (strip (be8 (y.natAbs : Int))).length c) (.int .u64 0) (.string { data := #[] }) (.slice none 0 0)
    have q0 := hF.cell 0
    have q1 := hF.cell 1
    have q2 := hF.cell 2
    have q3 := hF.cell 3
    have q4 := hF.cell 4
    have q5 := hF.cell 5
    simp at q0 q1 q2 q3 q4 q5
    refine bodyPost_ret (v := .tuple #[valI (decide (y < 0)) (.slice A (strip (be8 (y.natAbs : Int))).length c), .bool false, .bool true]) (by simp [results, Tryz.results34, go_sem, q0, q1, q2, q3, q4, q5]) rfl ⟨y, A, c, false, rfl, ?_, ⟨(fun h => nomatch h), fun h => absurd h HPN.out⟩, fun h => absurd h HPN.out, by have := HY2.out; omega, by have := HY2.out; omega, low6 (below_up HL1.out HLO.out) w.heap.size (Nat.le_refl _) _ _ _ _ _ _⟩
    exact now_sl HSL.out HL1.out.size HGL.out


theorem now_uint16 {P : Prop} {T : TypeId} {v : Value} {x y : Int} {w : World} (hP : P → 0 ≤ x ∧ x ≤ 65535) (hy0 : 0 ≤ y) (hy1 : y ≤ 65535)
    (hC : Calls Tryz.prog 59 #[.iface T v, .iface 126 (.pointer (some ⟨w.heap.size + 1, 0, none⟩))] ((w.alloc (.cells valZ 26)).alloc (.cells #[.int .u16 y] 77)) (AsOut P (w.heap.size + 1) 77 .u16 x ((w.alloc (.cells valZ 26)).alloc (.cells #[.int .u16 y] 77)))) :
    Calls Tryz.prog 35 #[.iface T v, .int .u16 y] w (NowOut P x w) := by
  have hr := Blk.new w 26 valZ
  have hp := Blk.new (w.alloc (.cells valZ 26)) 77 #[.int .u16 y]
  have hl1 := below_al (Below.refl w.heap.size w) (.cells valZ 26)
  have hl2 := below_al hl1 (.cells #[.int .u16 y] 77)
  have hz : (w.alloc (.cells valZ 26)).heap.size = w.heap.size + 1 := by simp
  rw [hz] at hp
  have HR := Lib.hid (hr.alloc (.cells #[.int .u16 y] 77))
  have HL := Lib.hid hl2
  have HP := Lib.hid hp
  have HC := Lib.hid hC
  have HY := Lib.hid (And.intro hy0 hy1)
  have HPP := Lib.hid hP
  clear hr hp hl1 hl2 hz hy0 hy1 hC hP
  go_enter Tryz.func35, Tryz.ntmps35
  go_wp2_with fail
  refine HC.out.mono ?_
  rintro e w1 (⟨hp, rfl, hb, hbt⟩ | ⟨hp, ⟨T1, q1, rfl⟩, hb⟩)
  · have HP1 := Lib.hid hb
    have HR1 : Hid (Blk w1 w.heap.size 26 valZ) := Lib.hid (HR.out.keep (hbt.block _ HR.out.lt (by omega)))
    have HL1 : Hid (Below w.heap.size w w1) := Lib.hid (HL.out.trans (hbt.below (B := w.heap.size) HL.out.size (fun k hk => by subst hk; exact Nat.le_succ _)))
    have HY2 := Lib.hid (HPP.out hp)
    have HPT := Lib.hid hp
    clear hp hb hbt HR HL HP
    have HM : Hid (Calls Tryz.prog 62 #[.int .u64 x] w1.drew fun e w' => ∃ s a, e = .returned (.agg #[.int .i64 s, .pointer a]) ∧ NumIn w1.drew s a x w') := Lib.hid <| by
      refine (makeUint64_any x (by have := HY2.out; omega) (by have := HY2.out; omega) _).mono ?_
      rintro e w' ⟨v, rfl, s, a, rfl, h1, h2⟩
      rw [show (false : Bool) = decide ((x : Int) < 0) from (decide_eq_false (by have := HY2.out; omega)).symm] at h2
      exact ⟨s, a, rfl, ⟨s, a, rfl, h1, h2⟩, h1⟩
    have HNU : Hid (∀ W' s a, NumIn w1.drew s a x W' → Calls Tryz.prog 60 #[.agg #[.int .i64 s, .pointer a]] W' (NumOut w1 x w.heap.size)) := Lib.hid <| num_out HR1.out (by have := HY2.out; omega) (by have := HY2.out; omega)
    have cp : w1.drew.cell? ⟨w.heap.size + 1, 0, none⟩ = some (.int .u16 x) := HP1.out.drew.cell 0
    have wy : IntKind.u64.wrap x = x := by have := HY2.out; simp [IntKind.wrap, IntKind.bits, IntKind.signed]; omega
    clear HC
    go_wp2_with fail
    rw [show Op.load 77 (.tmp 7) = ldAs2 77 (.tmp 7) from rfl]
    go_region_held3 (fun _ => True) (exact True.intro)
      (first
        | ((with_reducible refine HM.out.mono ?_); rintro e w2 ⟨s, a, rfl, hni⟩)
        | ((with_reducible refine (HNU.out _ _ _ ‹NumIn _ _ _ _ _›).mono ?_); rintro e w3 ⟨A, c, rfl, hsl, hlo, hbk, hgl, c0, c1, c2, c3, c4, c5, f0, f1, f2, f3, f4, f5, gl⟩))
    have HSL := Lib.hid hsl
    have HLO := Lib.hid hlo
    have HBK := Lib.hid hbk
    have HGL := Lib.hid hgl
    clear hsl hlo hbk hgl hni HM HNU cp wy
    go_wp2
    clear c0 c1 c2 c3 c4 c5
    have hF := set6 HBK.out (.int .i64 2) (.bool (decide (x < 0))) (.slice A (strip (be8 (x.natAbs : Int))).length c) (.int .u64 0) (.string { data := #[] }) (.slice none 0 0)
    have q0 := hF.cell 0
    have q1 := hF.cell 1
    have q2 := hF.cell 2
    have q3 := hF.cell 3
    have q4 := hF.cell 4
    have q5 := hF.cell 5
    simp at q0 q1 q2 q3 q4 q5
    refine bodyPost_ret (v := .tuple #[valI (decide (x < 0)) (.slice A (strip (be8 (x.natAbs : Int))).length c), .bool true, .bool true]) (by simp [results, Tryz.results35, go_sem, q0, q1, q2, q3, q4, q5]) rfl ⟨x, A, c, true, rfl, ?_, ⟨fun _ => HPT.out, fun _ => rfl⟩, fun _ => rfl, by have := HY2.out; omega, by have := HY2.out; omega, low6 (below_up HL1.out HLO.out) w.heap.size (Nat.le_refl _) _ _ _ _ _ _⟩
    exact now_sl HSL.out HL1.out.size HGL.out
  · have HP1 := Lib.hid (HP.out.below hb HP.out.lt)
    have HR1 := Lib.hid (HR.out.below hb HR.out.lt)
    have HL1 := Lib.hid (below_up HL.out hb)
    have HY2 := Lib.hid HY.out
    have HPN := Lib.hid hp
    clear hp hb HR HL HP
    have HM : Hid (Calls Tryz.prog 62 #[.int .u64 y] w1.drew fun e w' => ∃ s a, e = .returned (.agg #[.int .i64 s, .pointer a]) ∧ NumIn w1.drew s a y w') := Lib.hid <| by
      refine (makeUint64_any y (by have := HY2.out; omega) (by have := HY2.out; omega) _).mono ?_
      rintro e w' ⟨v, rfl, s, a, rfl, h1, h2⟩
      rw [show (false : Bool) = decide ((y : Int) < 0) from (decide_eq_false (by have := HY2.out; omega)).symm] at h2
      exact ⟨s, a, rfl, ⟨s, a, rfl, h1, h2⟩, h1⟩
    have HNU : Hid (∀ W' s a, NumIn w1.drew s a y W' → Calls Tryz.prog 60 #[.agg #[.int .i64 s, .pointer a]] W' (NumOut w1 y w.heap.size)) := Lib.hid <| num_out HR1.out (by have := HY2.out; omega) (by have := HY2.out; omega)
    have cp : w1.drew.cell? ⟨w.heap.size + 1, 0, none⟩ = some (.int .u16 y) := HP1.out.drew.cell 0
    have wy : IntKind.u64.wrap y = y := by have := HY2.out; simp [IntKind.wrap, IntKind.bits, IntKind.signed]; omega
    clear HC
    go_wp2_with fail
    rw [show Op.load 77 (.tmp 7) = ldAs2 77 (.tmp 7) from rfl]
    go_region_held3 (fun _ => True) (exact True.intro)
      (first
        | ((with_reducible refine HM.out.mono ?_); rintro e w2 ⟨s, a, rfl, hni⟩)
        | ((with_reducible refine (HNU.out _ _ _ ‹NumIn _ _ _ _ _›).mono ?_); rintro e w3 ⟨A, c, rfl, hsl, hlo, hbk, hgl, c0, c1, c2, c3, c4, c5, f0, f1, f2, f3, f4, f5, gl⟩))
    have HSL := Lib.hid hsl
    have HLO := Lib.hid hlo
    have HBK := Lib.hid hbk
    have HGL := Lib.hid hgl
    clear hsl hlo hbk hgl hni HM HNU cp wy
    go_wp2
    clear c0 c1 c2 c3 c4 c5
    have hF := set6 HBK.out (.int .i64 2) (.bool (decide (y < 0))) (.slice A (strip (be8 (y.natAbs : Int))).length c) (.int .u64 0) (.string { data := #[] }) (.slice none 0 0)
    have q0 := hF.cell 0
    have q1 := hF.cell 1
    have q2 := hF.cell 2
    have q3 := hF.cell 3
    have q4 := hF.cell 4
    have q5 := hF.cell 5
    simp at q0 q1 q2 q3 q4 q5
    refine bodyPost_ret (v := .tuple #[valI (decide (y < 0)) (.slice A (strip (be8 (y.natAbs : Int))).length c), .bool false, .bool true]) (by simp [results, Tryz.results35, go_sem, q0, q1, q2, q3, q4, q5]) rfl ⟨y, A, c, false, rfl, ?_, ⟨(fun h => nomatch h), fun h => absurd h HPN.out⟩, fun h => absurd h HPN.out, by have := HY2.out; omega, by have := HY2.out; omega, low6 (below_up HL1.out HLO.out) w.heap.size (Nat.le_refl _) _ _ _ _ _ _⟩
    exact now_sl HSL.out HL1.out.size HGL.out


theorem now_uint32 {P : Prop} {T : TypeId} {v : Value} {x y : Int} {w : World} (hP : P → 0 ≤ x ∧ x ≤ 4294967295) (hy0 : 0 ≤ y) (hy1 : y ≤ 4294967295)
    (hC : Calls Tryz.prog 59 #[.iface T v, .iface 127 (.pointer (some ⟨w.heap.size + 1, 0, none⟩))] ((w.alloc (.cells valZ 26)).alloc (.cells #[.int .u32 y] 79)) (AsOut P (w.heap.size + 1) 79 .u32 x ((w.alloc (.cells valZ 26)).alloc (.cells #[.int .u32 y] 79)))) :
    Calls Tryz.prog 36 #[.iface T v, .int .u32 y] w (NowOut P x w) := by
  have hr := Blk.new w 26 valZ
  have hp := Blk.new (w.alloc (.cells valZ 26)) 79 #[.int .u32 y]
  have hl1 := below_al (Below.refl w.heap.size w) (.cells valZ 26)
  have hl2 := below_al hl1 (.cells #[.int .u32 y] 79)
  have hz : (w.alloc (.cells valZ 26)).heap.size = w.heap.size + 1 := by simp
  rw [hz] at hp
  have HR := Lib.hid (hr.alloc (.cells #[.int .u32 y] 79))
  have HL := Lib.hid hl2
  have HP := Lib.hid hp
  have HC := Lib.hid hC
  have HY := Lib.hid (And.intro hy0 hy1)
  have HPP := Lib.hid hP
  clear hr hp hl1 hl2 hz hy0 hy1 hC hP
  go_enter Tryz.func36, Tryz.ntmps36
  go_wp2_with fail
  refine HC.out.mono ?_
  rintro e w1 (⟨hp, rfl, hb, hbt⟩ | ⟨hp, ⟨T1, q1, rfl⟩, hb⟩)
  · have HP1 := Lib.hid hb
    have HR1 : Hid (Blk w1 w.heap.size 26 valZ) := Lib.hid (HR.out.keep (hbt.block _ HR.out.lt (by omega)))
    have HL1 : Hid (Below w.heap.size w w1) := Lib.hid (HL.out.trans (hbt.below (B := w.heap.size) HL.out.size (fun k hk => by subst hk; exact Nat.le_succ _)))
    have HY2 := Lib.hid (HPP.out hp)
    have HPT := Lib.hid hp
    clear hp hb hbt HR HL HP
    have HM : Hid (Calls Tryz.prog 62 #[.int .u64 x] w1.drew fun e w' => ∃ s a, e = .returned (.agg #[.int .i64 s, .pointer a]) ∧ NumIn w1.drew s a x w') := Lib.hid <| by
      refine (makeUint64_any x (by have := HY2.out; omega) (by have := HY2.out; omega) _).mono ?_
      rintro e w' ⟨v, rfl, s, a, rfl, h1, h2⟩
      rw [show (false : Bool) = decide ((x : Int) < 0) from (decide_eq_false (by have := HY2.out; omega)).symm] at h2
      exact ⟨s, a, rfl, ⟨s, a, rfl, h1, h2⟩, h1⟩
    have HNU : Hid (∀ W' s a, NumIn w1.drew s a x W' → Calls Tryz.prog 60 #[.agg #[.int .i64 s, .pointer a]] W' (NumOut w1 x w.heap.size)) := Lib.hid <| num_out HR1.out (by have := HY2.out; omega) (by have := HY2.out; omega)
    have cp : w1.drew.cell? ⟨w.heap.size + 1, 0, none⟩ = some (.int .u32 x) := HP1.out.drew.cell 0
    have wy : IntKind.u64.wrap x = x := by have := HY2.out; simp [IntKind.wrap, IntKind.bits, IntKind.signed]; omega
    clear HC
    go_wp2_with fail
    rw [show Op.load 79 (.tmp 7) = ldAs2 79 (.tmp 7) from rfl]
    go_region_held3 (fun _ => True) (exact True.intro)
      (first
        | ((with_reducible refine HM.out.mono ?_); rintro e w2 ⟨s, a, rfl, hni⟩)
        | ((with_reducible refine (HNU.out _ _ _ ‹NumIn _ _ _ _ _›).mono ?_); rintro e w3 ⟨A, c, rfl, hsl, hlo, hbk, hgl, c0, c1, c2, c3, c4, c5, f0, f1, f2, f3, f4, f5, gl⟩))
    have HSL := Lib.hid hsl
    have HLO := Lib.hid hlo
    have HBK := Lib.hid hbk
    have HGL := Lib.hid hgl
    clear hsl hlo hbk hgl hni HM HNU cp wy
    go_wp2
    clear c0 c1 c2 c3 c4 c5
    have hF := set6 HBK.out (.int .i64 2) (.bool (decide (x < 0))) (.slice A (strip (be8 (x.natAbs : Int))).length c) (.int .u64 0) (.string { data := #[] }) (.slice none 0 0)
    have q0 := hF.cell 0
    have q1 := hF.cell 1
    have q2 := hF.cell 2
    have q3 := hF.cell 3
    have q4 := hF.cell 4
    have q5 := hF.cell 5
    simp at q0 q1 q2 q3 q4 q5
    refine bodyPost_ret (v := .tuple #[valI (decide (x < 0)) (.slice A (strip (be8 (x.natAbs : Int))).length c), .bool true, .bool true]) (by simp [results, Tryz.results36, go_sem, q0, q1, q2, q3, q4, q5]) rfl ⟨x, A, c, true, rfl, ?_, ⟨fun _ => HPT.out, fun _ => rfl⟩, fun _ => rfl, by have := HY2.out; omega, by have := HY2.out; omega, low6 (below_up HL1.out HLO.out) w.heap.size (Nat.le_refl _) _ _ _ _ _ _⟩
    exact now_sl HSL.out HL1.out.size HGL.out
  · have HP1 := Lib.hid (HP.out.below hb HP.out.lt)
    have HR1 := Lib.hid (HR.out.below hb HR.out.lt)
    have HL1 := Lib.hid (below_up HL.out hb)
    have HY2 := Lib.hid HY.out
    have HPN := Lib.hid hp
    clear hp hb HR HL HP
    have HM : Hid (Calls Tryz.prog 62 #[.int .u64 y] w1.drew fun e w' => ∃ s a, e = .returned (.agg #[.int .i64 s, .pointer a]) ∧ NumIn w1.drew s a y w') := Lib.hid <| by
      refine (makeUint64_any y (by have := HY2.out; omega) (by have := HY2.out; omega) _).mono ?_
      rintro e w' ⟨v, rfl, s, a, rfl, h1, h2⟩
      rw [show (false : Bool) = decide ((y : Int) < 0) from (decide_eq_false (by have := HY2.out; omega)).symm] at h2
      exact ⟨s, a, rfl, ⟨s, a, rfl, h1, h2⟩, h1⟩
    have HNU : Hid (∀ W' s a, NumIn w1.drew s a y W' → Calls Tryz.prog 60 #[.agg #[.int .i64 s, .pointer a]] W' (NumOut w1 y w.heap.size)) := Lib.hid <| num_out HR1.out (by have := HY2.out; omega) (by have := HY2.out; omega)
    have cp : w1.drew.cell? ⟨w.heap.size + 1, 0, none⟩ = some (.int .u32 y) := HP1.out.drew.cell 0
    have wy : IntKind.u64.wrap y = y := by have := HY2.out; simp [IntKind.wrap, IntKind.bits, IntKind.signed]; omega
    clear HC
    go_wp2_with fail
    rw [show Op.load 79 (.tmp 7) = ldAs2 79 (.tmp 7) from rfl]
    go_region_held3 (fun _ => True) (exact True.intro)
      (first
        | ((with_reducible refine HM.out.mono ?_); rintro e w2 ⟨s, a, rfl, hni⟩)
        | ((with_reducible refine (HNU.out _ _ _ ‹NumIn _ _ _ _ _›).mono ?_); rintro e w3 ⟨A, c, rfl, hsl, hlo, hbk, hgl, c0, c1, c2, c3, c4, c5, f0, f1, f2, f3, f4, f5, gl⟩))
    have HSL := Lib.hid hsl
    have HLO := Lib.hid hlo
    have HBK := Lib.hid hbk
    have HGL := Lib.hid hgl
    clear hsl hlo hbk hgl hni HM HNU cp wy
    go_wp2
    clear c0 c1 c2 c3 c4 c5
    have hF := set6 HBK.out (.int .i64 2) (.bool (decide (y < 0))) (.slice A (strip (be8 (y.natAbs : Int))).length c) (.int .u64 0) (.string { data := #[] }) (.slice none 0 0)
    have q0 := hF.cell 0
    have q1 := hF.cell 1
    have q2 := hF.cell 2
    have q3 := hF.cell 3
    have q4 := hF.cell 4
    have q5 := hF.cell 5
    simp at q0 q1 q2 q3 q4 q5
    refine bodyPost_ret (v := .tuple #[valI (decide (y < 0)) (.slice A (strip (be8 (y.natAbs : Int))).length c), .bool false, .bool true]) (by simp [results, Tryz.results36, go_sem, q0, q1, q2, q3, q4, q5]) rfl ⟨y, A, c, false, rfl, ?_, ⟨(fun h => nomatch h), fun h => absurd h HPN.out⟩, fun h => absurd h HPN.out, by have := HY2.out; omega, by have := HY2.out; omega, low6 (below_up HL1.out HLO.out) w.heap.size (Nat.le_refl _) _ _ _ _ _ _⟩
    exact now_sl HSL.out HL1.out.size HGL.out


theorem now_uint64 {P : Prop} {T : TypeId} {v : Value} {x y : Int} {w : World} (hP : P → 0 ≤ x ∧ x ≤ 18446744073709551615) (hy0 : 0 ≤ y) (hy1 : y ≤ 18446744073709551615)
    (hC : Calls Tryz.prog 59 #[.iface T v, .iface 128 (.pointer (some ⟨w.heap.size + 1, 0, none⟩))] ((w.alloc (.cells valZ 26)).alloc (.cells #[.int .u64 y] 23)) (AsOut P (w.heap.size + 1) 23 .u64 x ((w.alloc (.cells valZ 26)).alloc (.cells #[.int .u64 y] 23)))) :
    Calls Tryz.prog 37 #[.iface T v, .int .u64 y] w (NowOut P x w) := by
  have hr := Blk.new w 26 valZ
  have hp := Blk.new (w.alloc (.cells valZ 26)) 23 #[.int .u64 y]
  have hl1 := below_al (Below.refl w.heap.size w) (.cells valZ 26)
  have hl2 := below_al hl1 (.cells #[.int .u64 y] 23)
  have hz : (w.alloc (.cells valZ 26)).heap.size = w.heap.size + 1 := by simp
  rw [hz] at hp
  have HR := Lib.hid (hr.alloc (.cells #[.int .u64 y] 23))
  have HL := Lib.hid hl2
  have HP := Lib.hid hp
  have HC := Lib.hid hC
  have HY := Lib.hid (And.intro hy0 hy1)
  have HPP := Lib.hid hP
  clear hr hp hl1 hl2 hz hy0 hy1 hC hP
  go_enter Tryz.func37, Tryz.ntmps37
  go_wp2_with fail
  refine HC.out.mono ?_
  rintro e w1 (⟨hp, rfl, hb, hbt⟩ | ⟨hp, ⟨T1, q1, rfl⟩, hb⟩)
  · have HP1 := Lib.hid hb
    have HR1 : Hid (Blk w1 w.heap.size 26 valZ) := Lib.hid (HR.out.keep (hbt.block _ HR.out.lt (by omega)))
    have HL1 : Hid (Below w.heap.size w w1) := Lib.hid (HL.out.trans (hbt.below (B := w.heap.size) HL.out.size (fun k hk => by subst hk; exact Nat.le_succ _)))
    have HY2 := Lib.hid (HPP.out hp)
    have HPT := Lib.hid hp
    clear hp hb hbt HR HL HP
    have HM : Hid (Calls Tryz.prog 62 #[.int .u64 x] w1.drew fun e w' => ∃ s a, e = .returned (.agg #[.int .i64 s, .pointer a]) ∧ NumIn w1.drew s a x w') := Lib.hid <| by
      refine (makeUint64_any x (by have := HY2.out; omega) (by have := HY2.out; omega) _).mono ?_
      rintro e w' ⟨v, rfl, s, a, rfl, h1, h2⟩
      rw [show (false : Bool) = decide ((x : Int) < 0) from (decide_eq_false (by have := HY2.out; omega)).symm] at h2
      exact ⟨s, a, rfl, ⟨s, a, rfl, h1, h2⟩, h1⟩
    have HNU : Hid (∀ W' s a, NumIn w1.drew s a x W' → Calls Tryz.prog 60 #[.agg #[.int .i64 s, .pointer a]] W' (NumOut w1 x w.heap.size)) := Lib.hid <| num_out HR1.out (by have := HY2.out; omega) (by have := HY2.out; omega)
    have cp : w1.drew.cell? ⟨w.heap.size + 1, 0, none⟩ = some (.int .u64 x) := HP1.out.drew.cell 0
    have wy : IntKind.u64.wrap x = x := by have := HY2.out; simp [IntKind.wrap, IntKind.bits, IntKind.signed]; omega
    clear HC
    go_wp2_with fail
    rw [show Op.load 23 (.tmp 7) = ldAs2 23 (.tmp 7) from rfl]
    go_region_held3 (fun _ => True) (exact True.intro)
      (first
        | ((with_reducible refine HM.out.mono ?_); rintro e w2 ⟨s, a, rfl, hni⟩)
        | ((with_reducible refine (HNU.out _ _ _ ‹NumIn _ _ _ _ _›).mono ?_); rintro e w3 ⟨A, c, rfl, hsl, hlo, hbk, hgl, c0, c1, c2, c3, c4, c5, f0, f1, f2, f3, f4, f5, gl⟩))
    have HSL := Lib.hid hsl
    have HLO := Lib.hid hlo
    have HBK := Lib.hid hbk
    have HGL := Lib.hid hgl
    clear hsl hlo hbk hgl hni HM HNU cp wy
    go_wp2
    clear c0 c1 c2 c3 c4 c5
    have hF := set6 HBK.out (.int .i64 2) (.bool (decide (x < 0))) (.slice A (strip (be8 (x.natAbs : Int))).length c) (.int .u64 0) (.string { data := #[] }) (.slice none 0 0)
    have q0 := hF.cell 0
    have q1 := hF.cell 1
    have q2 := hF.cell 2
    have q3 := hF.cell 3
    have q4 := hF.cell 4
    have q5 := hF.cell 5
    simp at q0 q1 q2 q3 q4 q5
    refine bodyPost_ret (v := .tuple #[valI (decide (x < 0)) (.slice A (strip (be8 (x.natAbs : Int))).length c), .bool true, .bool true]) (by simp [results, Tryz.results37, go_sem, q0, q1, q2, q3, q4, q5]) rfl ⟨x, A, c, true, rfl, ?_, ⟨fun _ => HPT.out, fun _ => rfl⟩, fun _ => rfl, by have := HY2.out; omega, by have := HY2.out; omega, low6 (below_up HL1.out HLO.out) w.heap.size (Nat.le_refl _) _ _ _ _ _ _⟩
    exact now_sl HSL.out HL1.out.size HGL.out
  · have HP1 := Lib.hid (HP.out.below hb HP.out.lt)
    have HR1 := Lib.hid (HR.out.below hb HR.out.lt)
    have HL1 := Lib.hid (below_up HL.out hb)
    have HY2 := Lib.hid HY.out
    have HPN := Lib.hid hp
    clear hp hb HR HL HP
    have HM : Hid (Calls Tryz.prog 62 #[.int .u64 y] w1.drew fun e w' => ∃ s a, e = .returned (.agg #[.int .i64 s, .pointer a]) ∧ NumIn w1.drew s a y w') := Lib.hid <| by
      refine (makeUint64_any y (by have := HY2.out; omega) (by have := HY2.out; omega) _).mono ?_
      rintro e w' ⟨v, rfl, s, a, rfl, h1, h2⟩
      rw [show (false : Bool) = decide ((y : Int) < 0) from (decide_eq_false (by have := HY2.out; omega)).symm] at h2
      exact ⟨s, a, rfl, ⟨s, a, rfl, h1, h2⟩, h1⟩
    have HNU : Hid (∀ W' s a, NumIn w1.drew s a y W' → Calls Tryz.prog 60 #[.agg #[.int .i64 s, .pointer a]] W' (NumOut w1 y w.heap.size)) := Lib.hid <| num_out HR1.out (by have := HY2.out; omega) (by have := HY2.out; omega)
    have cp : w1.drew.cell? ⟨w.heap.size + 1, 0, none⟩ = some (.int .u64 y) := HP1.out.drew.cell 0
    have wy : IntKind.u64.wrap y = y := by have := HY2.out; simp [IntKind.wrap, IntKind.bits, IntKind.signed]; omega
    clear HC
    go_wp2_with fail
    rw [show Op.load 23 (.tmp 7) = ldAs2 23 (.tmp 7) from rfl]
    go_region_held3 (fun _ => True) (exact True.intro)
      (first
        | ((with_reducible refine HM.out.mono ?_); rintro e w2 ⟨s, a, rfl, hni⟩)
        | ((with_reducible refine (HNU.out _ _ _ ‹NumIn _ _ _ _ _›).mono ?_); rintro e w3 ⟨A, c, rfl, hsl, hlo, hbk, hgl, c0, c1, c2, c3, c4, c5, f0, f1, f2, f3, f4, f5, gl⟩))
    have HSL := Lib.hid hsl
    have HLO := Lib.hid hlo
    have HBK := Lib.hid hbk
    have HGL := Lib.hid hgl
    clear hsl hlo hbk hgl hni HM HNU cp wy
    go_wp2
    clear c0 c1 c2 c3 c4 c5
    have hF := set6 HBK.out (.int .i64 2) (.bool (decide (y < 0))) (.slice A (strip (be8 (y.natAbs : Int))).length c) (.int .u64 0) (.string { data := #[] }) (.slice none 0 0)
    have q0 := hF.cell 0
    have q1 := hF.cell 1
    have q2 := hF.cell 2
    have q3 := hF.cell 3
    have q4 := hF.cell 4
    have q5 := hF.cell 5
    simp at q0 q1 q2 q3 q4 q5
    refine bodyPost_ret (v := .tuple #[valI (decide (y < 0)) (.slice A (strip (be8 (y.natAbs : Int))).length c), .bool false, .bool true]) (by simp [results, Tryz.results37, go_sem, q0, q1, q2, q3, q4, q5]) rfl ⟨y, A, c, false, rfl, ?_, ⟨(fun h => nomatch h), fun h => absurd h HPN.out⟩, fun h => absurd h HPN.out, by have := HY2.out; omega, by have := HY2.out; omega, low6 (below_up HL1.out HLO.out) w.heap.size (Nat.le_refl _) _ _ _ _ _ _⟩
    exact now_sl HSL.out HL1.out.size HGL.out


theorem now_uintptr {P : Prop} {T : TypeId} {v : Value} {x y : Int} {w : World} (hP : P → 0 ≤ x ∧ x ≤ 18446744073709551615) (hy0 : 0 ≤ y) (hy1 : y ≤ 18446744073709551615)
    (hC : Calls Tryz.prog 59 #[.iface T v, .iface 129 (.pointer (some ⟨w.heap.size + 1, 0, none⟩))] ((w.alloc (.cells valZ 26)).alloc (.cells #[.int .u64 y] 12)) (AsOut P (w.heap.size + 1) 12 .u64 x ((w.alloc (.cells valZ 26)).alloc (.cells #[.int .u64 y] 12)))) :
    Calls Tryz.prog 38 #[.iface T v, .int .u64 y] w (NowOut P x w) := by
  have hr := Blk.new w 26 valZ
  have hp := Blk.new (w.alloc (.cells valZ 26)) 12 #[.int .u64 y]
  have hl1 := below_al (Below.refl w.heap.size w) (.cells valZ 26)
  have hl2 := below_al hl1 (.cells #[.int .u64 y] 12)
  have hz : (w.alloc (.cells valZ 26)).heap.size = w.heap.size + 1 := by simp
  rw [hz] at hp
  have HR := Lib.hid (hr.alloc (.cells #[.int .u64 y] 12))
  have HL := Lib.hid hl2
  have HP := Lib.hid hp
  have HC := Lib.hid hC
  have HY := Lib.hid (And.intro hy0 hy1)
  have HPP := Lib.hid hP
  clear hr hp hl1 hl2 hz hy0 hy1 hC hP
  go_enter Tryz.func38, Tryz.ntmps38
  go_wp2_with fail
  refine HC.out.mono ?_
  rintro e w1 (⟨hp, rfl, hb, hbt⟩ | ⟨hp, ⟨T1, q1, rfl⟩, hb⟩)
  · have HP1 := Lib.hid hb
    have HR1 : Hid (Blk w1 w.heap.size 26 valZ) := Lib.hid (HR.out.keep (hbt.block _ HR.out.lt (by omega)))
    have HL1 : Hid (Below w.heap.size w w1) := Lib.hid (HL.out.trans (hbt.below (B := w.heap.size) HL.out.size (fun k hk => by subst hk; exact Nat.le_succ _)))
    have HY2 := Lib.hid (HPP.out hp)
    have HPT := Lib.hid hp
    clear hp hb hbt HR HL HP
    have HM : Hid (Calls Tryz.prog 62 #[.int .u64 x] w1.drew fun e w' => ∃ s a, e = .returned (.agg #[.int .i64 s, .pointer a]) ∧ NumIn w1.drew s a x w') := Lib.hid <| by
      refine (makeUint64_any x (by have := HY2.out; omega) (by have := HY2.out; omega) _).mono ?_
      rintro e w' ⟨v, rfl, s, a, rfl, h1, h2⟩
      rw [show (false : Bool) = decide ((x : Int) < 0) from (decide_eq_false (by have := HY2.out; omega)).symm] at h2
      exact ⟨s, a, rfl, ⟨s, a, rfl, h1, h2⟩, h1⟩
    have HNU : Hid (∀ W' s a, NumIn w1.drew s a x W' → Calls Tryz.prog 60 #[.agg #[.int .i64 s, .pointer a]] W' (NumOut w1 x w.heap.size)) := Lib.hid <| num_out HR1.out (by have := HY2.out; omega) (by have := HY2.out; omega)
    have cp : w1.drew.cell? ⟨w.heap.size + 1, 0, none⟩ = some (.int .u64 x) := HP1.out.drew.cell 0
    have wy : IntKind.u64.wrap x = x := by have := HY2.out; simp [IntKind.wrap, IntKind.bits, IntKind.signed]; omega
    clear HC
    go_wp2_with fail
    rw [show Op.load 12 (.tmp 7) = ldAs2 12 (.tmp 7) from rfl]
    go_region_held3 (fun _ => True) (exact True.intro)
      (first
        | ((with_reducible refine HM.out.mono ?_); rintro e w2 ⟨s, a, rfl, hni⟩)
        | ((with_reducible refine (HNU.out _ _ _ ‹NumIn _ _ _ _ _›).mono ?_); rintro e w3 ⟨A, c, rfl, hsl, hlo, hbk, hgl, c0, c1, c2, c3, c4, c5, f0, f1, f2, f3, f4, f5, gl⟩))
    have HSL := Lib.hid hsl
    have HLO := Lib.hid hlo
    have HBK := Lib.hid hbk
    have HGL := Lib.hid hgl
    clear hsl hlo hbk hgl hni HM HNU cp wy
    go_wp2
    clear c0 c1 c2 c3 c4 c5
    have hF := set6 HBK.out (.int .i64 2) (.bool (decide (x < 0))) (.slice A (strip (be8 (x.natAbs : Int))).length c) (.int .u64 0) (.string { data := #[] }) (.slice none 0 0)
    have q0 := hF.cell 0
    have q1 := hF.cell 1
    have q2 := hF.cell 2
    have q3 := hF.cell 3
    have q4 := hF.cell 4
    have q5 := hF.cell 5
    simp at q0 q1 q2 q3 q4 q5
    refine bodyPost_ret (v := .tuple #[valI (decide (x < 0)) (.slice A (strip (be8 (x.natAbs : Int))).length c), .bool true, .bool true]) (by simp [results, Tryz.results38, go_sem, q0, q1, q2, q3, q4, q5]) rfl ⟨x, A, c, true, rfl, ?_, ⟨fun _ => HPT.out, fun _ => rfl⟩, fun _ => rfl, by have := HY2.out; omega, by have := HY2.out; omega, low6 (below_up HL1.out HLO.out) w.heap.size (Nat.le_refl _) _ _ _ _ _ _⟩
    exact now_sl HSL.out HL1.out.size HGL.out
  · have HP1 := Lib.hid (HP.out.below hb HP.out.lt)
    have HR1 := Lib.hid (HR.out.below hb HR.out.lt)
    have HL1 := Lib.hid (below_up HL.out hb)
    have HY2 := Lib.hid HY.out
    have HPN := Lib.hid hp
    clear hp hb HR HL HP
    have HM : Hid (Calls Tryz.prog 62 #[.int .u64 y] w1.drew fun e w' => ∃ s a, e = .returned (.agg #[.int .i64 s, .pointer a]) ∧ NumIn w1.drew s a y w') := Lib.hid <| by
      refine (makeUint64_any y (by have := HY2.out; omega) (by have := HY2.out; omega) _).mono ?_
      rintro e w' ⟨v, rfl, s, a, rfl, h1, h2⟩
      rw [show (false : Bool) = decide ((y : Int) < 0) from (decide_eq_false (by have := HY2.out; omega)).symm] at h2
      exact ⟨s, a, rfl, ⟨s, a, rfl, h1, h2⟩, h1⟩
    have HNU : Hid (∀ W' s a, NumIn w1.drew s a y W' → Calls Tryz.prog 60 #[.agg #[.int .i64 s, .pointer a]] W' (NumOut w1 y w.heap.size)) := Lib.hid <| num_out HR1.out (by have := HY2.out; omega) (by have := HY2.out; omega)
    have cp : w1.drew.cell? ⟨w.heap.size + 1, 0, none⟩ = some (.int .u64 y) := HP1.out.drew.cell 0
    have wy : IntKind.u64.wrap y = y := by have := HY2.out; simp [IntKind.wrap, IntKind.bits, IntKind.signed]; omega
    clear HC
    go_wp2_with fail
    rw [show Op.load 12 (.tmp 7) = ldAs2 12 (.tmp 7) from rfl]
    go_region_held3 (fun _ => True) (exact True.intro)
      (first
        | ((with_reducible refine HM.out.mono ?_); rintro e w2 ⟨s, a, rfl, hni⟩)
        | ((with_reducible refine (HNU.out _ _ _ ‹NumIn _ _ _ _ _›).mono ?_); rintro e w3 ⟨A, c, rfl, hsl, hlo, hbk, hgl, c0, c1, c2, c3, c4, c5, f0, f1, f2, f3, f4, f5, gl⟩))
    have HSL := Lib.hid hsl
    have HLO := Lib.hid hlo
    have HBK := Lib.hid hbk
    have HGL := Lib.hid hgl
    clear hsl hlo hbk hgl hni HM HNU cp wy
    go_wp2
    clear c0 c1 c2 c3 c4 c5
    have hF := set6 HBK.out (.int .i64 2) (.bool (decide (y < 0))) (.slice A (strip (be8 (y.natAbs : Int))).length c) (.int .u64 0) (.string { data := #[] }) (.slice none 0 0)
    have q0 := hF.cell 0
    have q1 := hF.cell 1
    have q2 := hF.cell 2
    have q3 := hF.cell 3
    have q4 := hF.cell 4
    have q5 := hF.cell 5
    simp at q0 q1 q2 q3 q4 q5
    refine bodyPost_ret (v := .tuple #[valI (decide (y < 0)) (.slice A (strip (be8 (y.natAbs : Int))).length c), .bool false, .bool true]) (by simp [results, Tryz.results38, go_sem, q0, q1, q2, q3, q4, q5]) rfl ⟨y, A, c, false, rfl, ?_, ⟨(fun h => nomatch h), fun h => absurd h HPN.out⟩, fun h => absurd h HPN.out, by have := HY2.out; omega, by have := HY2.out; omega, low6 (below_up HL1.out HLO.out) w.heap.size (Nat.le_refl _) _ _ _ _ _ _⟩
    exact now_sl HSL.out HL1.out.size HGL.out

end Go.Proofs.YtloloifngbmibaaGreatDoor
