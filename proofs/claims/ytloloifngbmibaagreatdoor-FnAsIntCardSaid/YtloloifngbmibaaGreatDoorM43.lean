/- The language's AsInt. -/
import Derived.Test.YtloloifngbmibaaGreatDoorM42
set_option linter.unusedVariables false
set_option linter.unusedSimpArgs false
set_option maxRecDepth 4000
namespace Go.Proofs.YtloloifngbmibaaGreatDoor
open Go.RowKit

def ErrOut (w : World) (e : Ending) (w' : World) : Prop := (∃ T q, e = .returned (.iface T (.pointer q))) ∧ Below w.heap.size w w'
/-- What AsInt hands back: nothing, and the number stands where the pointer points to; or an error. -/
def AsOut (P : Prop) (p : Nat) (T : TypeId) (k : IntKind) (x : Int) (w : World) (e : Ending) (w' : World) : Prop :=
  (P ∧ e = .returned .nilIface ∧ Blk w' p T #[.int k x] ∧ But (fun k => k = p) w w') ∨ (¬ P ∧ ErrOut w e w')
theorem asNo {T : Nat} {v pv : Value} {w : World} (ha : ∀ W : World, (Instr.typeAssert (.iface T v) 64 117 true).run Tryz.prog W = .ok (.tuple #[.agg #[.int .i64 0, .pointer none], .bool false]) W) :
    Calls Tryz.prog 59 #[.iface T v, pv] w (ErrOut w) := by
  go_enter Tryz.func59, Tryz.ntmps59
  go_wp2_with fail
  refine (errNew_any _ _).mono ?_
  rintro e w1 ⟨⟨T1, q1, rfl⟩, hb⟩
  have HB := Lib.hid hb
  clear hb
  go_wp2
  go_ret
  exact ⟨⟨T1, q1, rfl⟩, below_up (below_al (Below.refl _ _) _) HB.out⟩


theorem asP_int {B : Nat} {v : Value} {x y : Int} {p : Nat} {w : World} (h : SI B v x w) (hp : Blk w p 3 #[.int .i64 y]) :
    Calls Tryz.prog 59 #[.iface 117 v, .iface 111 (.pointer (some ⟨p, 0, none⟩))] w (AsOut (-9223372036854775808 ≤ x ∧ x ≤ 9223372036854775807) p 3 .i64 x w) := by
  obtain ⟨s1, a1, rfl⟩ := h.shape
  have t0 : ∀ W : World, (Instr.typeAssert (.iface 111 (.pointer (some ⟨p, 0, none⟩))) 20 111 true).run Tryz.prog W = .ok (.tuple #[.pointer (some ⟨p, 0, none⟩), .bool true]) W := fun W => by kernel_rfl
  have t1 : ∀ W : World, (Instr.typeAssert (.iface 111 (.pointer (some ⟨p, 0, none⟩))) 20 119 true).run Tryz.prog W = .ok (.tuple #[.pointer none, .bool false]) W := fun W => by kernel_rfl
  have t2 : ∀ W : World, (Instr.typeAssert (.iface 111 (.pointer (some ⟨p, 0, none⟩))) 20 120 true).run Tryz.prog W = .ok (.tuple #[.pointer none, .bool false]) W := fun W => by kernel_rfl
  have t3 : ∀ W : World, (Instr.typeAssert (.iface 111 (.pointer (some ⟨p, 0, none⟩))) 20 121 true).run Tryz.prog W = .ok (.tuple #[.pointer none, .bool false]) W := fun W => by kernel_rfl
  have t4 : ∀ W : World, (Instr.typeAssert (.iface 111 (.pointer (some ⟨p, 0, none⟩))) 20 122 true).run Tryz.prog W = .ok (.tuple #[.pointer none, .bool false]) W := fun W => by kernel_rfl
  have t5 : ∀ W : World, (Instr.typeAssert (.iface 111 (.pointer (some ⟨p, 0, none⟩))) 20 123 true).run Tryz.prog W = .ok (.tuple #[.pointer none, .bool false]) W := fun W => by kernel_rfl
  have t6 : ∀ W : World, (Instr.typeAssert (.iface 111 (.pointer (some ⟨p, 0, none⟩))) 20 125 true).run Tryz.prog W = .ok (.tuple #[.pointer none, .bool false]) W := fun W => by kernel_rfl
  have t7 : ∀ W : World, (Instr.typeAssert (.iface 111 (.pointer (some ⟨p, 0, none⟩))) 20 126 true).run Tryz.prog W = .ok (.tuple #[.pointer none, .bool false]) W := fun W => by kernel_rfl
  have t8 : ∀ W : World, (Instr.typeAssert (.iface 111 (.pointer (some ⟨p, 0, none⟩))) 20 127 true).run Tryz.prog W = .ok (.tuple #[.pointer none, .bool false]) W := fun W => by kernel_rfl
  have t9 : ∀ W : World, (Instr.typeAssert (.iface 111 (.pointer (some ⟨p, 0, none⟩))) 20 128 true).run Tryz.prog W = .ok (.tuple #[.pointer none, .bool false]) W := fun W => by kernel_rfl
  have t10 : ∀ W : World, (Instr.typeAssert (.iface 111 (.pointer (some ⟨p, 0, none⟩))) 20 129 true).run Tryz.prog W = .ok (.tuple #[.pointer none, .bool false]) W := fun W => by kernel_rfl
  have ha : ∀ W : World, ∀ v, (Instr.typeAssert (.iface 117 v) 64 117 true).run Tryz.prog W = .ok (.tuple #[v, .bool true]) W := fun W _ => by kernel_rfl
  have hal := below_al (Below.refl w.heap.size w) (.cells #[.int .i64 s1, .pointer a1] 117)
  have HC := Lib.hid (int64S (h.up hal))
  have HAL := Lib.hid hal
  have HP := Lib.hid (hp.below hal hp.lt)
  clear h hp hal
  go_enter Tryz.func59, Tryz.ntmps59
  go_wp2_with fail
  refine HC.out.mono ?_
  rintro e w1 ⟨r, ok, rfl, hok, hr, hb⟩
  have HB := Lib.hid (below_up HAL.out hb)
  have hp1 := HP.out.below hb HP.out.lt
  have HP1 := Lib.hid hp1
  have HOK := Lib.hid (And.intro hok hr)
  have c0 := hp1.cell 0
  have f0 := hp1.frozen 0
  have gl := hp1.lt
  simp at c0
  clear hp1 hok hr hb HC HAL HP
  cases ok
  · have HN : Hid (¬ (-9223372036854775808 ≤ x ∧ x ≤ 9223372036854775807)) := Lib.hid (fun h => by
      have := HOK.out.1.2 (by unfold inI; omega)
      cases this)
    go_wp2_with fail
    refine (errNew_any _ _).mono ?_
    rintro e w2 ⟨⟨T1, q1, rfl⟩, hb⟩
    have HB2 := Lib.hid (below_up HB.out hb)
    clear hb
    go_wp2
    go_ret
    exact .inr ⟨HN.out, ⟨T1, q1, rfl⟩, HB2.out⟩
  · obtain rfl := HOK.out.2 rfl
    have HIN := Lib.hid (HOK.out.1.1 rfl)
    have hfit : -9223372036854775808 ≤ r ∧ r ≤ 9223372036854775807 := HIN.out
    · skip
      have HF := Lib.hid hfit
      obtain ⟨hf0, hf1⟩ := hfit
      have hf2 : r < 9223372036854775808 := by omega
      have w1 : IntKind.i64.wrap r = r := by simp [IntKind.wrap, IntKind.bits, IntKind.signed]; omega
      clear HOK
      go_wp2
      go_ret
      refine .inl ⟨HF.out, rfl, ?_, ?_⟩
      · have h9 := HP1.out.set 0 (.int .i64 r)
        simpa using h9
      · exact (But.of_below (T := fun k => k = p) HB.out).set (p := ⟨p, 0, none⟩) rfl _


theorem asP_int8 {B : Nat} {v : Value} {x y : Int} {p : Nat} {w : World} (h : SI B v x w) (hp : Blk w p 69 #[.int .i8 y]) :
    Calls Tryz.prog 59 #[.iface 117 v, .iface 119 (.pointer (some ⟨p, 0, none⟩))] w (AsOut (-128 ≤ x ∧ x ≤ 127) p 69 .i8 x w) := by
  obtain ⟨s1, a1, rfl⟩ := h.shape
  have t0 : ∀ W : World, (Instr.typeAssert (.iface 119 (.pointer (some ⟨p, 0, none⟩))) 20 111 true).run Tryz.prog W = .ok (.tuple #[.pointer none, .bool false]) W := fun W => by kernel_rfl
  have t1 : ∀ W : World, (Instr.typeAssert (.iface 119 (.pointer (some ⟨p, 0, none⟩))) 20 119 true).run Tryz.prog W = .ok (.tuple #[.pointer (some ⟨p, 0, none⟩), .bool true]) W := fun W => by kernel_rfl
  have t2 : ∀ W : World, (Instr.typeAssert (.iface 119 (.pointer (some ⟨p, 0, none⟩))) 20 120 true).run Tryz.prog W = .ok (.tuple #[.pointer none, .bool false]) W := fun W => by kernel_rfl
  have t3 : ∀ W : World, (Instr.typeAssert (.iface 119 (.pointer (some ⟨p, 0, none⟩))) 20 121 true).run Tryz.prog W = .ok (.tuple #[.pointer none, .bool false]) W := fun W => by kernel_rfl
  have t4 : ∀ W : World, (Instr.typeAssert (.iface 119 (.pointer (some ⟨p, 0, none⟩))) 20 122 true).run Tryz.prog W = .ok (.tuple #[.pointer none, .bool false]) W := fun W => by kernel_rfl
  have t5 : ∀ W : World, (Instr.typeAssert (.iface 119 (.pointer (some ⟨p, 0, none⟩))) 20 123 true).run Tryz.prog W = .ok (.tuple #[.pointer none, .bool false]) W := fun W => by kernel_rfl
  have t6 : ∀ W : World, (Instr.typeAssert (.iface 119 (.pointer (some ⟨p, 0, none⟩))) 20 125 true).run Tryz.prog W = .ok (.tuple #[.pointer none, .bool false]) W := fun W => by kernel_rfl
  have t7 : ∀ W : World, (Instr.typeAssert (.iface 119 (.pointer (some ⟨p, 0, none⟩))) 20 126 true).run Tryz.prog W = .ok (.tuple #[.pointer none, .bool false]) W := fun W => by kernel_rfl
  have t8 : ∀ W : World, (Instr.typeAssert (.iface 119 (.pointer (some ⟨p, 0, none⟩))) 20 127 true).run Tryz.prog W = .ok (.tuple #[.pointer none, .bool false]) W := fun W => by kernel_rfl
  have t9 : ∀ W : World, (Instr.typeAssert (.iface 119 (.pointer (some ⟨p, 0, none⟩))) 20 128 true).run Tryz.prog W = .ok (.tuple #[.pointer none, .bool false]) W := fun W => by kernel_rfl
  have t10 : ∀ W : World, (Instr.typeAssert (.iface 119 (.pointer (some ⟨p, 0, none⟩))) 20 129 true).run Tryz.prog W = .ok (.tuple #[.pointer none, .bool false]) W := fun W => by kernel_rfl
  have ha : ∀ W : World, ∀ v, (Instr.typeAssert (.iface 117 v) 64 117 true).run Tryz.prog W = .ok (.tuple #[v, .bool true]) W := fun W _ => by kernel_rfl
  have hal := below_al (Below.refl w.heap.size w) (.cells #[.int .i64 s1, .pointer a1] 117)
  have HC := Lib.hid (int64S (h.up hal))
  have HAL := Lib.hid hal
  have HP := Lib.hid (hp.below hal hp.lt)
  clear h hp hal
  go_enter Tryz.func59, Tryz.ntmps59
  go_wp2_with fail
  refine HC.out.mono ?_
  rintro e w1 ⟨r, ok, rfl, hok, hr, hb⟩
  have HB := Lib.hid (below_up HAL.out hb)
  have hp1 := HP.out.below hb HP.out.lt
  have HP1 := Lib.hid hp1
  have HOK := Lib.hid (And.intro hok hr)
  have c0 := hp1.cell 0
  have f0 := hp1.frozen 0
  have gl := hp1.lt
  simp at c0
  clear hp1 hok hr hb HC HAL HP
  cases ok
  · have HN : Hid (¬ (-128 ≤ x ∧ x ≤ 127)) := Lib.hid (fun h => by
      have := HOK.out.1.2 (by unfold inI; omega)
      cases this)
    go_wp2_with fail
    refine (errNew_any _ _).mono ?_
    rintro e w2 ⟨⟨T1, q1, rfl⟩, hb⟩
    have HB2 := Lib.hid (below_up HB.out hb)
    clear hb
    go_wp2
    go_ret
    exact .inr ⟨HN.out, ⟨T1, q1, rfl⟩, HB2.out⟩
  · obtain rfl := HOK.out.2 rfl
    have HIN := Lib.hid (HOK.out.1.1 rfl)
    by_cases hfit : -128 ≤ r ∧ r ≤ 127
    · skip
      have HF := Lib.hid hfit
      obtain ⟨hf0, hf1⟩ := hfit
      have hf2 : r < 128 := by omega
      have w1 : IntKind.i8.wrap r = r := by simp [IntKind.wrap, IntKind.bits, IntKind.signed]; omega
      clear HOK
      go_wp2
      go_ret
      refine .inl ⟨HF.out, rfl, ?_, ?_⟩
      · have h9 := HP1.out.set 0 (.int .i8 r)
        simpa using h9
      · exact (But.of_below (T := fun k => k = p) HB.out).set (p := ⟨p, 0, none⟩) rfl _
    · have HN := Lib.hid hfit
      by_cases hl : -128 ≤ r
      · have hh : ¬ r < 128 := by omega
        have dd := dec_no hh
        clear hfit
        go_wp2_with fail
        refine (errNew_any _ _).mono ?_
        rintro e w2 ⟨⟨T1, q1, rfl⟩, hb⟩
        have HB2 := Lib.hid (below_up HB.out hb)
        clear hb
        go_wp2
        go_ret
        exact .inr ⟨HN.out, ⟨T1, q1, rfl⟩, HB2.out⟩
      · have dd := dec_no hl
        clear hfit
        go_wp2_with fail
        refine (errNew_any _ _).mono ?_
        rintro e w2 ⟨⟨T1, q1, rfl⟩, hb⟩
        have HB2 := Lib.hid (below_up HB.out hb)
        clear hb
        go_wp2
        go_ret
        exact .inr ⟨HN.out, ⟨T1, q1, rfl⟩, HB2.out⟩


theorem asP_int16 {B : Nat} {v : Value} {x y : Int} {p : Nat} {w : World} (h : SI B v x w) (hp : Blk w p 71 #[.int .i16 y]) :
    Calls Tryz.prog 59 #[.iface 117 v, .iface 120 (.pointer (some ⟨p, 0, none⟩))] w (AsOut (-32768 ≤ x ∧ x ≤ 32767) p 71 .i16 x w) := by
  obtain ⟨s1, a1, rfl⟩ := h.shape
  have t0 : ∀ W : World, (Instr.typeAssert (.iface 120 (.pointer (some ⟨p, 0, none⟩))) 20 111 true).run Tryz.prog W = .ok (.tuple #[.pointer none, .bool false]) W := fun W => by kernel_rfl
  have t1 : ∀ W : World, (Instr.typeAssert (.iface 120 (.pointer (some ⟨p, 0, none⟩))) 20 119 true).run Tryz.prog W = .ok (.tuple #[.pointer none, .bool false]) W := fun W => by kernel_rfl
  have t2 : ∀ W : World, (Instr.typeAssert (.iface 120 (.pointer (some ⟨p, 0, none⟩))) 20 120 true).run Tryz.prog W = .ok (.tuple #[.pointer (some ⟨p, 0, none⟩), .bool true]) W := fun W => by kernel_rfl
  have t3 : ∀ W : World, (Instr.typeAssert (.iface 120 (.pointer (some ⟨p, 0, none⟩))) 20 121 true).run Tryz.prog W = .ok (.tuple #[.pointer none, .bool false]) W := fun W => by kernel_rfl
  have t4 : ∀ W : World, (Instr.typeAssert (.iface 120 (.pointer (some ⟨p, 0, none⟩))) 20 122 true).run Tryz.prog W = .ok (.tuple #[.pointer none, .bool false]) W := fun W => by kernel_rfl
  have t5 : ∀ W : World, (Instr.typeAssert (.iface 120 (.pointer (some ⟨p, 0, none⟩))) 20 123 true).run Tryz.prog W = .ok (.tuple #[.pointer none, .bool false]) W := fun W => by kernel_rfl
  have t6 : ∀ W : World, (Instr.typeAssert (.iface 120 (.pointer (some ⟨p, 0, none⟩))) 20 125 true).run Tryz.prog W = .ok (.tuple #[.pointer none, .bool false]) W := fun W => by kernel_rfl
  have t7 : ∀ W : World, (Instr.typeAssert (.iface 120 (.pointer (some ⟨p, 0, none⟩))) 20 126 true).run Tryz.prog W = .ok (.tuple #[.pointer none, .bool false]) W := fun W => by kernel_rfl
  have t8 : ∀ W : World, (Instr.typeAssert (.iface 120 (.pointer (some ⟨p, 0, none⟩))) 20 127 true).run Tryz.prog W = .ok (.tuple #[.pointer none, .bool false]) W := fun W => by kernel_rfl
  have t9 : ∀ W : World, (Instr.typeAssert (.iface 120 (.pointer (some ⟨p, 0, none⟩))) 20 128 true).run Tryz.prog W = .ok (.tuple #[.pointer none, .bool false]) W := fun W => by kernel_rfl
  have t10 : ∀ W : World, (Instr.typeAssert (.iface 120 (.pointer (some ⟨p, 0, none⟩))) 20 129 true).run Tryz.prog W = .ok (.tuple #[.pointer none, .bool false]) W := fun W => by kernel_rfl
  have ha : ∀ W : World, ∀ v, (Instr.typeAssert (.iface 117 v) 64 117 true).run Tryz.prog W = .ok (.tuple #[v, .bool true]) W := fun W _ => by kernel_rfl
  have hal := below_al (Below.refl w.heap.size w) (.cells #[.int .i64 s1, .pointer a1] 117)
  have HC := Lib.hid (int64S (h.up hal))
  have HAL := Lib.hid hal
  have HP := Lib.hid (hp.below hal hp.lt)
  clear h hp hal
  go_enter Tryz.func59, Tryz.ntmps59
  go_wp2_with fail
  refine HC.out.mono ?_
  rintro e w1 ⟨r, ok, rfl, hok, hr, hb⟩
  have HB := Lib.hid (below_up HAL.out hb)
  have hp1 := HP.out.below hb HP.out.lt
  have HP1 := Lib.hid hp1
  have HOK := Lib.hid (And.intro hok hr)
  have c0 := hp1.cell 0
  have f0 := hp1.frozen 0
  have gl := hp1.lt
  simp at c0
  clear hp1 hok hr hb HC HAL HP
  cases ok
  · have HN : Hid (¬ (-32768 ≤ x ∧ x ≤ 32767)) := Lib.hid (fun h => by
      have := HOK.out.1.2 (by unfold inI; omega)
      cases this)
    go_wp2_with fail
    refine (errNew_any _ _).mono ?_
    rintro e w2 ⟨⟨T1, q1, rfl⟩, hb⟩
    have HB2 := Lib.hid (below_up HB.out hb)
    clear hb
    go_wp2
    go_ret
    exact .inr ⟨HN.out, ⟨T1, q1, rfl⟩, HB2.out⟩
  · obtain rfl := HOK.out.2 rfl
    have HIN := Lib.hid (HOK.out.1.1 rfl)
    by_cases hfit : -32768 ≤ r ∧ r ≤ 32767
    · skip
      have HF := Lib.hid hfit
      obtain ⟨hf0, hf1⟩ := hfit
      have hf2 : r < 32768 := by omega
      have w1 : IntKind.i16.wrap r = r := by simp [IntKind.wrap, IntKind.bits, IntKind.signed]; omega
      clear HOK
      go_wp2
      go_ret
      refine .inl ⟨HF.out, rfl, ?_, ?_⟩
      · have h9 := HP1.out.set 0 (.int .i16 r)
        simpa using h9
      · exact (But.of_below (T := fun k => k = p) HB.out).set (p := ⟨p, 0, none⟩) rfl _
    · have HN := Lib.hid hfit
      by_cases hl : -32768 ≤ r
      · have hh : ¬ r < 32768 := by omega
        have dd := dec_no hh
        clear hfit
        go_wp2_with fail
        refine (errNew_any _ _).mono ?_
        rintro e w2 ⟨⟨T1, q1, rfl⟩, hb⟩
        have HB2 := Lib.hid (below_up HB.out hb)
        clear hb
        go_wp2
        go_ret
        exact .inr ⟨HN.out, ⟨T1, q1, rfl⟩, HB2.out⟩
      · have dd := dec_no hl
        clear hfit
        go_wp2_with fail
        refine (errNew_any _ _).mono ?_
        rintro e w2 ⟨⟨T1, q1, rfl⟩, hb⟩
        have HB2 := Lib.hid (below_up HB.out hb)
        clear hb
        go_wp2
        go_ret
        exact .inr ⟨HN.out, ⟨T1, q1, rfl⟩, HB2.out⟩


theorem asP_int32 {B : Nat} {v : Value} {x y : Int} {p : Nat} {w : World} (h : SI B v x w) (hp : Blk w p 21 #[.int .i32 y]) :
    Calls Tryz.prog 59 #[.iface 117 v, .iface 121 (.pointer (some ⟨p, 0, none⟩))] w (AsOut (-2147483648 ≤ x ∧ x ≤ 2147483647) p 21 .i32 x w) := by
  obtain ⟨s1, a1, rfl⟩ := h.shape
  have t0 : ∀ W : World, (Instr.typeAssert (.iface 121 (.pointer (some ⟨p, 0, none⟩))) 20 111 true).run Tryz.prog W = .ok (.tuple #[.pointer none, .bool false]) W := fun W => by kernel_rfl
  have t1 : ∀ W : World, (Instr.typeAssert (.iface 121 (.pointer (some ⟨p, 0, none⟩))) 20 119 true).run Tryz.prog W = .ok (.tuple #[.pointer none, .bool false]) W := fun W => by kernel_rfl
  have t2 : ∀ W : World, (Instr.typeAssert (.iface 121 (.pointer (some ⟨p, 0, none⟩))) 20 120 true).run Tryz.prog W = .ok (.tuple #[.pointer none, .bool false]) W := fun W => by kernel_rfl
  have t3 : ∀ W : World, (Instr.typeAssert (.iface 121 (.pointer (some ⟨p, 0, none⟩))) 20 121 true).run Tryz.prog W = .ok (.tuple #[.pointer (some ⟨p, 0, none⟩), .bool true]) W := fun W => by kernel_rfl
  have t4 : ∀ W : World, (Instr.typeAssert (.iface 121 (.pointer (some ⟨p, 0, none⟩))) 20 122 true).run Tryz.prog W = .ok (.tuple #[.pointer none, .bool false]) W := fun W => by kernel_rfl
  have t5 : ∀ W : World, (Instr.typeAssert (.iface 121 (.pointer (some ⟨p, 0, none⟩))) 20 123 true).run Tryz.prog W = .ok (.tuple #[.pointer none, .bool false]) W := fun W => by kernel_rfl
  have t6 : ∀ W : World, (Instr.typeAssert (.iface 121 (.pointer (some ⟨p, 0, none⟩))) 20 125 true).run Tryz.prog W = .ok (.tuple #[.pointer none, .bool false]) W := fun W => by kernel_rfl
  have t7 : ∀ W : World, (Instr.typeAssert (.iface 121 (.pointer (some ⟨p, 0, none⟩))) 20 126 true).run Tryz.prog W = .ok (.tuple #[.pointer none, .bool false]) W := fun W => by kernel_rfl
  have t8 : ∀ W : World, (Instr.typeAssert (.iface 121 (.pointer (some ⟨p, 0, none⟩))) 20 127 true).run Tryz.prog W = .ok (.tuple #[.pointer none, .bool false]) W := fun W => by kernel_rfl
  have t9 : ∀ W : World, (Instr.typeAssert (.iface 121 (.pointer (some ⟨p, 0, none⟩))) 20 128 true).run Tryz.prog W = .ok (.tuple #[.pointer none, .bool false]) W := fun W => by kernel_rfl
  have t10 : ∀ W : World, (Instr.typeAssert (.iface 121 (.pointer (some ⟨p, 0, none⟩))) 20 129 true).run Tryz.prog W = .ok (.tuple #[.pointer none, .bool false]) W := fun W => by kernel_rfl
  have ha : ∀ W : World, ∀ v, (Instr.typeAssert (.iface 117 v) 64 117 true).run Tryz.prog W = .ok (.tuple #[v, .bool true]) W := fun W _ => by kernel_rfl
  have hal := below_al (Below.refl w.heap.size w) (.cells #[.int .i64 s1, .pointer a1] 117)
  have HC := Lib.hid (int64S (h.up hal))
  have HAL := Lib.hid hal
  have HP := Lib.hid (hp.below hal hp.lt)
  clear h hp hal
  go_enter Tryz.func59, Tryz.ntmps59
  go_wp2_with fail
  refine HC.out.mono ?_
  rintro e w1 ⟨r, ok, rfl, hok, hr, hb⟩
  have HB := Lib.hid (below_up HAL.out hb)
  have hp1 := HP.out.below hb HP.out.lt
  have HP1 := Lib.hid hp1
  have HOK := Lib.hid (And.intro hok hr)
  have c0 := hp1.cell 0
  have f0 := hp1.frozen 0
  have gl := hp1.lt
  simp at c0
  clear hp1 hok hr hb HC HAL HP
  cases ok
  · have HN : Hid (¬ (-2147483648 ≤ x ∧ x ≤ 2147483647)) := Lib.hid (fun h => by
      have := HOK.out.1.2 (by unfold inI; omega)
      cases this)
    go_wp2_with fail
    refine (errNew_any _ _).mono ?_
    rintro e w2 ⟨⟨T1, q1, rfl⟩, hb⟩
    have HB2 := Lib.hid (below_up HB.out hb)
    clear hb
    go_wp2
    go_ret
    exact .inr ⟨HN.out, ⟨T1, q1, rfl⟩, HB2.out⟩
  · obtain rfl := HOK.out.2 rfl
    have HIN := Lib.hid (HOK.out.1.1 rfl)
    by_cases hfit : -2147483648 ≤ r ∧ r ≤ 2147483647
    · skip
      have HF := Lib.hid hfit
      obtain ⟨hf0, hf1⟩ := hfit
      have hf2 : r < 2147483648 := by omega
      have w1 : IntKind.i32.wrap r = r := by simp [IntKind.wrap, IntKind.bits, IntKind.signed]; omega
      clear HOK
      go_wp2
      go_ret
      refine .inl ⟨HF.out, rfl, ?_, ?_⟩
      · have h9 := HP1.out.set 0 (.int .i32 r)
        simpa using h9
      · exact (But.of_below (T := fun k => k = p) HB.out).set (p := ⟨p, 0, none⟩) rfl _
    · have HN := Lib.hid hfit
      by_cases hl : -2147483648 ≤ r
      · have hh : ¬ r < 2147483648 := by omega
        have dd := dec_no hh
        clear hfit
        go_wp2_with fail
        refine (errNew_any _ _).mono ?_
        rintro e w2 ⟨⟨T1, q1, rfl⟩, hb⟩
        have HB2 := Lib.hid (below_up HB.out hb)
        clear hb
        go_wp2
        go_ret
        exact .inr ⟨HN.out, ⟨T1, q1, rfl⟩, HB2.out⟩
      · have dd := dec_no hl
        clear hfit
        go_wp2_with fail
        refine (errNew_any _ _).mono ?_
        rintro e w2 ⟨⟨T1, q1, rfl⟩, hb⟩
        have HB2 := Lib.hid (below_up HB.out hb)
        clear hb
        go_wp2
        go_ret
        exact .inr ⟨HN.out, ⟨T1, q1, rfl⟩, HB2.out⟩


theorem asP_int64 {B : Nat} {v : Value} {x y : Int} {p : Nat} {w : World} (h : SI B v x w) (hp : Blk w p 2 #[.int .i64 y]) :
    Calls Tryz.prog 59 #[.iface 117 v, .iface 122 (.pointer (some ⟨p, 0, none⟩))] w (AsOut (-9223372036854775808 ≤ x ∧ x ≤ 9223372036854775807) p 2 .i64 x w) := by
  obtain ⟨s1, a1, rfl⟩ := h.shape
  have t0 : ∀ W : World, (Instr.typeAssert (.iface 122 (.pointer (some ⟨p, 0, none⟩))) 20 111 true).run Tryz.prog W = .ok (.tuple #[.pointer none, .bool false]) W := fun W => by kernel_rfl
  have t1 : ∀ W : World, (Instr.typeAssert (.iface 122 (.pointer (some ⟨p, 0, none⟩))) 20 119 true).run Tryz.prog W = .ok (.tuple #[.pointer none, .bool false]) W := fun W => by kernel_rfl
  have t2 : ∀ W : World, (Instr.typeAssert (.iface 122 (.pointer (some ⟨p, 0, none⟩))) 20 120 true).run Tryz.prog W = .ok (.tuple #[.pointer none, .bool false]) W := fun W => by kernel_rfl
  have t3 : ∀ W : World, (Instr.typeAssert (.iface 122 (.pointer (some ⟨p, 0, none⟩))) 20 121 true).run Tryz.prog W = .ok (.tuple #[.pointer none, .bool false]) W := fun W => by kernel_rfl
  have t4 : ∀ W : World, (Instr.typeAssert (.iface 122 (.pointer (some ⟨p, 0, none⟩))) 20 122 true).run Tryz.prog W = .ok (.tuple #[.pointer (some ⟨p, 0, none⟩), .bool true]) W := fun W => by kernel_rfl
  have t5 : ∀ W : World, (Instr.typeAssert (.iface 122 (.pointer (some ⟨p, 0, none⟩))) 20 123 true).run Tryz.prog W = .ok (.tuple #[.pointer none, .bool false]) W := fun W => by kernel_rfl
  have t6 : ∀ W : World, (Instr.typeAssert (.iface 122 (.pointer (some ⟨p, 0, none⟩))) 20 125 true).run Tryz.prog W = .ok (.tuple #[.pointer none, .bool false]) W := fun W => by kernel_rfl
  have t7 : ∀ W : World, (Instr.typeAssert (.iface 122 (.pointer (some ⟨p, 0, none⟩))) 20 126 true).run Tryz.prog W = .ok (.tuple #[.pointer none, .bool false]) W := fun W => by kernel_rfl
  have t8 : ∀ W : World, (Instr.typeAssert (.iface 122 (.pointer (some ⟨p, 0, none⟩))) 20 127 true).run Tryz.prog W = .ok (.tuple #[.pointer none, .bool false]) W := fun W => by kernel_rfl
  have t9 : ∀ W : World, (Instr.typeAssert (.iface 122 (.pointer (some ⟨p, 0, none⟩))) 20 128 true).run Tryz.prog W = .ok (.tuple #[.pointer none, .bool false]) W := fun W => by kernel_rfl
  have t10 : ∀ W : World, (Instr.typeAssert (.iface 122 (.pointer (some ⟨p, 0, none⟩))) 20 129 true).run Tryz.prog W = .ok (.tuple #[.pointer none, .bool false]) W := fun W => by kernel_rfl
  have ha : ∀ W : World, ∀ v, (Instr.typeAssert (.iface 117 v) 64 117 true).run Tryz.prog W = .ok (.tuple #[v, .bool true]) W := fun W _ => by kernel_rfl
  have hal := below_al (Below.refl w.heap.size w) (.cells #[.int .i64 s1, .pointer a1] 117)
  have HC := Lib.hid (int64S (h.up hal))
  have HAL := Lib.hid hal
  have HP := Lib.hid (hp.below hal hp.lt)
  clear h hp hal
  go_enter Tryz.func59, Tryz.ntmps59
  go_wp2_with fail
  refine HC.out.mono ?_
  rintro e w1 ⟨r, ok, rfl, hok, hr, hb⟩
  have HB := Lib.hid (below_up HAL.out hb)
  have hp1 := HP.out.below hb HP.out.lt
  have HP1 := Lib.hid hp1
  have HOK := Lib.hid (And.intro hok hr)
  have c0 := hp1.cell 0
  have f0 := hp1.frozen 0
  have gl := hp1.lt
  simp at c0
  clear hp1 hok hr hb HC HAL HP
  cases ok
  · have HN : Hid (¬ (-9223372036854775808 ≤ x ∧ x ≤ 9223372036854775807)) := Lib.hid (fun h => by
      have := HOK.out.1.2 (by unfold inI; omega)
      cases this)
    go_wp2_with fail
    refine (errNew_any _ _).mono ?_
    rintro e w2 ⟨⟨T1, q1, rfl⟩, hb⟩
    have HB2 := Lib.hid (below_up HB.out hb)
    clear hb
    go_wp2
    go_ret
    exact .inr ⟨HN.out, ⟨T1, q1, rfl⟩, HB2.out⟩
  · obtain rfl := HOK.out.2 rfl
    have HIN := Lib.hid (HOK.out.1.1 rfl)
    have hfit : -9223372036854775808 ≤ r ∧ r ≤ 9223372036854775807 := HIN.out
    · skip
      have HF := Lib.hid hfit
      obtain ⟨hf0, hf1⟩ := hfit
      have hf2 : r < 9223372036854775808 := by omega
      have w1 : IntKind.i64.wrap r = r := by simp [IntKind.wrap, IntKind.bits, IntKind.signed]; omega
      clear HOK
      go_wp2
      go_ret
      refine .inl ⟨HF.out, rfl, ?_, ?_⟩
      · have h9 := HP1.out.set 0 (.int .i64 r)
        simpa using h9
      · exact (But.of_below (T := fun k => k = p) HB.out).set (p := ⟨p, 0, none⟩) rfl _


theorem asP_uint {B : Nat} {v : Value} {x y : Int} {p : Nat} {w : World} (h : SI B v x w) (hp : Blk w p 60 #[.int .u64 y]) :
    Calls Tryz.prog 59 #[.iface 117 v, .iface 123 (.pointer (some ⟨p, 0, none⟩))] w (AsOut (0 ≤ x ∧ x ≤ 18446744073709551615) p 60 .u64 x w) := by
  obtain ⟨s1, a1, rfl⟩ := h.shape
  have t0 : ∀ W : World, (Instr.typeAssert (.iface 123 (.pointer (some ⟨p, 0, none⟩))) 20 111 true).run Tryz.prog W = .ok (.tuple #[.pointer none, .bool false]) W := fun W => by kernel_rfl
  have t1 : ∀ W : World, (Instr.typeAssert (.iface 123 (.pointer (some ⟨p, 0, none⟩))) 20 119 true).run Tryz.prog W = .ok (.tuple #[.pointer none, .bool false]) W := fun W => by kernel_rfl
  have t2 : ∀ W : World, (Instr.typeAssert (.iface 123 (.pointer (some ⟨p, 0, none⟩))) 20 120 true).run Tryz.prog W = .ok (.tuple #[.pointer none, .bool false]) W := fun W => by kernel_rfl
  have t3 : ∀ W : World, (Instr.typeAssert (.iface 123 (.pointer (some ⟨p, 0, none⟩))) 20 121 true).run Tryz.prog W = .ok (.tuple #[.pointer none, .bool false]) W := fun W => by kernel_rfl
  have t4 : ∀ W : World, (Instr.typeAssert (.iface 123 (.pointer (some ⟨p, 0, none⟩))) 20 122 true).run Tryz.prog W = .ok (.tuple #[.pointer none, .bool false]) W := fun W => by kernel_rfl
  have t5 : ∀ W : World, (Instr.typeAssert (.iface 123 (.pointer (some ⟨p, 0, none⟩))) 20 123 true).run Tryz.prog W = .ok (.tuple #[.pointer (some ⟨p, 0, none⟩), .bool true]) W := fun W => by kernel_rfl
  have t6 : ∀ W : World, (Instr.typeAssert (.iface 123 (.pointer (some ⟨p, 0, none⟩))) 20 125 true).run Tryz.prog W = .ok (.tuple #[.pointer none, .bool false]) W := fun W => by kernel_rfl
  have t7 : ∀ W : World, (Instr.typeAssert (.iface 123 (.pointer (some ⟨p, 0, none⟩))) 20 126 true).run Tryz.prog W = .ok (.tuple #[.pointer none, .bool false]) W := fun W => by kernel_rfl
  have t8 : ∀ W : World, (Instr.typeAssert (.iface 123 (.pointer (some ⟨p, 0, none⟩))) 20 127 true).run Tryz.prog W = .ok (.tuple #[.pointer none, .bool false]) W := fun W => by kernel_rfl
  have t9 : ∀ W : World, (Instr.typeAssert (.iface 123 (.pointer (some ⟨p, 0, none⟩))) 20 128 true).run Tryz.prog W = .ok (.tuple #[.pointer none, .bool false]) W := fun W => by kernel_rfl
  have t10 : ∀ W : World, (Instr.typeAssert (.iface 123 (.pointer (some ⟨p, 0, none⟩))) 20 129 true).run Tryz.prog W = .ok (.tuple #[.pointer none, .bool false]) W := fun W => by kernel_rfl
  have ha : ∀ W : World, ∀ v, (Instr.typeAssert (.iface 117 v) 64 117 true).run Tryz.prog W = .ok (.tuple #[v, .bool true]) W := fun W _ => by kernel_rfl
  have hal := below_al (Below.refl w.heap.size w) (.cells #[.int .i64 s1, .pointer a1] 117)
  have HC := Lib.hid (uint64S (h.up hal))
  have HAL := Lib.hid hal
  have HP := Lib.hid (hp.below hal hp.lt)
  clear h hp hal
  go_enter Tryz.func59, Tryz.ntmps59
  go_wp2_with fail
  refine HC.out.mono ?_
  rintro e w1 ⟨r, ok, rfl, hok, hr, hb⟩
  have HB := Lib.hid (below_up HAL.out hb)
  have hp1 := HP.out.below hb HP.out.lt
  have HP1 := Lib.hid hp1
  have HOK := Lib.hid (And.intro hok hr)
  have c0 := hp1.cell 0
  have f0 := hp1.frozen 0
  have gl := hp1.lt
  simp at c0
  clear hp1 hok hr hb HC HAL HP
  cases ok
  · have HN : Hid (¬ (0 ≤ x ∧ x ≤ 18446744073709551615)) := Lib.hid (fun h => by
      have := HOK.out.1.2 (by unfold inU; omega)
      cases this)
    go_wp2_with fail
    refine (errNew_any _ _).mono ?_
    rintro e w2 ⟨⟨T1, q1, rfl⟩, hb⟩
    have HB2 := Lib.hid (below_up HB.out hb)
    clear hb
    go_wp2
    go_ret
    exact .inr ⟨HN.out, ⟨T1, q1, rfl⟩, HB2.out⟩
  · obtain rfl := HOK.out.2 rfl
    have HIN := Lib.hid (HOK.out.1.1 rfl)
    have hfit : 0 ≤ r ∧ r ≤ 18446744073709551615 := HIN.out
    · skip
      have HF := Lib.hid hfit
      obtain ⟨hf0, hf1⟩ := hfit
      have hf2 : r < 18446744073709551616 := by omega
      have w1 : IntKind.u64.wrap r = r := by simp [IntKind.wrap, IntKind.bits, IntKind.signed]; omega
      clear HOK
      go_wp2
      go_ret
      refine .inl ⟨HF.out, rfl, ?_, ?_⟩
      · have h9 := HP1.out.set 0 (.int .u64 r)
        simpa using h9
      · exact (But.of_below (T := fun k => k = p) HB.out).set (p := ⟨p, 0, none⟩) rfl _


theorem asP_uint8 {B : Nat} {v : Value} {x y : Int} {p : Nat} {w : World} (h : SI B v x w) (hp : Blk w p 5 #[.int .u8 y]) :
    Calls Tryz.prog 59 #[.iface 117 v, .iface 125 (.pointer (some ⟨p, 0, none⟩))] w (AsOut (0 ≤ x ∧ x ≤ 255) p 5 .u8 x w) := by
  obtain ⟨s1, a1, rfl⟩ := h.shape
  have t0 : ∀ W : World, (Instr.typeAssert (.iface 125 (.pointer (some ⟨p, 0, none⟩))) 20 111 true).run Tryz.prog W = .ok (.tuple #[.pointer none, .bool false]) W := fun W => by kernel_rfl
  have t1 : ∀ W : World, (Instr.typeAssert (.iface 125 (.pointer (some ⟨p, 0, none⟩))) 20 119 true).run Tryz.prog W = .ok (.tuple #[.pointer none, .bool false]) W := fun W => by kernel_rfl
  have t2 : ∀ W : World, (Instr.typeAssert (.iface 125 (.pointer (some ⟨p, 0, none⟩))) 20 120 true).run Tryz.prog W = .ok (.tuple #[.pointer none, .bool false]) W := fun W => by kernel_rfl
  have t3 : ∀ W : World, (Instr.typeAssert (.iface 125 (.pointer (some ⟨p, 0, none⟩))) 20 121 true).run Tryz.prog W = .ok (.tuple #[.pointer none, .bool false]) W := fun W => by kernel_rfl
  have t4 : ∀ W : World, (Instr.typeAssert (.iface 125 (.pointer (some ⟨p, 0, none⟩))) 20 122 true).run Tryz.prog W = .ok (.tuple #[.pointer none, .bool false]) W := fun W => by kernel_rfl
  have t5 : ∀ W : World, (Instr.typeAssert (.iface 125 (.pointer (some ⟨p, 0, none⟩))) 20 123 true).run Tryz.prog W = .ok (.tuple #[.pointer none, .bool false]) W := fun W => by kernel_rfl
  have t6 : ∀ W : World, (Instr.typeAssert (.iface 125 (.pointer (some ⟨p, 0, none⟩))) 20 125 true).run Tryz.prog W = .ok (.tuple #[.pointer (some ⟨p, 0, none⟩), .bool true]) W := fun W => by kernel_rfl
  have t7 : ∀ W : World, (Instr.typeAssert (.iface 125 (.pointer (some ⟨p, 0, none⟩))) 20 126 true).run Tryz.prog W = .ok (.tuple #[.pointer none, .bool false]) W := fun W => by kernel_rfl
  have t8 : ∀ W : World, (Instr.typeAssert (.iface 125 (.pointer (some ⟨p, 0, none⟩))) 20 127 true).run Tryz.prog W = .ok (.tuple #[.pointer none, .bool false]) W := fun W => by kernel_rfl
  have t9 : ∀ W : World, (Instr.typeAssert (.iface 125 (.pointer (some ⟨p, 0, none⟩))) 20 128 true).run Tryz.prog W = .ok (.tuple #[.pointer none, .bool false]) W := fun W => by kernel_rfl
  have t10 : ∀ W : World, (Instr.typeAssert (.iface 125 (.pointer (some ⟨p, 0, none⟩))) 20 129 true).run Tryz.prog W = .ok (.tuple #[.pointer none, .bool false]) W := fun W => by kernel_rfl
  have ha : ∀ W : World, ∀ v, (Instr.typeAssert (.iface 117 v) 64 117 true).run Tryz.prog W = .ok (.tuple #[v, .bool true]) W := fun W _ => by kernel_rfl
  have hal := below_al (Below.refl w.heap.size w) (.cells #[.int .i64 s1, .pointer a1] 117)
  have HC := Lib.hid (uint64S (h.up hal))
  have HAL := Lib.hid hal
  have HP := Lib.hid (hp.below hal hp.lt)
  clear h hp hal
  go_enter Tryz.func59, Tryz.ntmps59
  go_wp2_with fail
  refine HC.out.mono ?_
  rintro e w1 ⟨r, ok, rfl, hok, hr, hb⟩
  have HB := Lib.hid (below_up HAL.out hb)
  have hp1 := HP.out.below hb HP.out.lt
  have HP1 := Lib.hid hp1
  have HOK := Lib.hid (And.intro hok hr)
  have c0 := hp1.cell 0
  have f0 := hp1.frozen 0
  have gl := hp1.lt
  simp at c0
  clear hp1 hok hr hb HC HAL HP
  cases ok
  · have HN : Hid (¬ (0 ≤ x ∧ x ≤ 255)) := Lib.hid (fun h => by
      have := HOK.out.1.2 (by unfold inU; omega)
      cases this)
    go_wp2_with fail
    refine (errNew_any _ _).mono ?_
    rintro e w2 ⟨⟨T1, q1, rfl⟩, hb⟩
    have HB2 := Lib.hid (below_up HB.out hb)
    clear hb
    go_wp2
    go_ret
    exact .inr ⟨HN.out, ⟨T1, q1, rfl⟩, HB2.out⟩
  · obtain rfl := HOK.out.2 rfl
    have HIN := Lib.hid (HOK.out.1.1 rfl)
    by_cases hfit : 0 ≤ r ∧ r ≤ 255
    · skip
      have HF := Lib.hid hfit
      obtain ⟨hf0, hf1⟩ := hfit
      have hf2 : r < 256 := by omega
      have w1 : IntKind.u8.wrap r = r := by simp [IntKind.wrap, IntKind.bits, IntKind.signed]; omega
      clear HOK
      go_wp2
      go_ret
      refine .inl ⟨HF.out, rfl, ?_, ?_⟩
      · have h9 := HP1.out.set 0 (.int .u8 r)
        simpa using h9
      · exact (But.of_below (T := fun k => k = p) HB.out).set (p := ⟨p, 0, none⟩) rfl _
    · have HN := Lib.hid hfit
      have hh : 256 ≤ r := by have := HIN.out; unfold inU at this; omega
      clear hfit
      go_wp2_with fail
      refine (errNew_any _ _).mono ?_
      rintro e w2 ⟨⟨T1, q1, rfl⟩, hb⟩
      have HB2 := Lib.hid (below_up HB.out hb)
      clear hb
      go_wp2
      go_ret
      exact .inr ⟨HN.out, ⟨T1, q1, rfl⟩, HB2.out⟩


theorem asP_uint16 {B : Nat} {v : Value} {x y : Int} {p : Nat} {w : World} (h : SI B v x w) (hp : Blk w p 77 #[.int .u16 y]) :
    Calls Tryz.prog 59 #[.iface 117 v, .iface 126 (.pointer (some ⟨p, 0, none⟩))] w (AsOut (0 ≤ x ∧ x ≤ 65535) p 77 .u16 x w) := by
  obtain ⟨s1, a1, rfl⟩ := h.shape
  have t0 : ∀ W : World, (Instr.typeAssert (.iface 126 (.pointer (some ⟨p, 0, none⟩))) 20 111 true).run Tryz.prog W = .ok (.tuple #[.pointer none, .bool false]) W := fun W => by kernel_rfl
  have t1 : ∀ W : World, (Instr.typeAssert (.iface 126 (.pointer (some ⟨p, 0, none⟩))) 20 119 true).run Tryz.prog W = .ok (.tuple #[.pointer none, .bool false]) W := fun W => by kernel_rfl
  have t2 : ∀ W : World, (Instr.typeAssert (.iface 126 (.pointer (some ⟨p, 0, none⟩))) 20 120 true).run Tryz.prog W = .ok (.tuple #[.pointer none, .bool false]) W := fun W => by kernel_rfl
  have t3 : ∀ W : World, (Instr.typeAssert (.iface 126 (.pointer (some ⟨p, 0, none⟩))) 20 121 true).run Tryz.prog W = .ok (.tuple #[.pointer none, .bool false]) W := fun W => by kernel_rfl
  have t4 : ∀ W : World, (Instr.typeAssert (.iface 126 (.pointer (some ⟨p, 0, none⟩))) 20 122 true).run Tryz.prog W = .ok (.tuple #[.pointer none, .bool false]) W := fun W => by kernel_rfl
  have t5 : ∀ W : World, (Instr.typeAssert (.iface 126 (.pointer (some ⟨p, 0, none⟩))) 20 123 true).run Tryz.prog W = .ok (.tuple #[.pointer none, .bool false]) W := fun W => by kernel_rfl
  have t6 : ∀ W : World, (Instr.typeAssert (.iface 126 (.pointer (some ⟨p, 0, none⟩))) 20 125 true).run Tryz.prog W = .ok (.tuple #[.pointer none, .bool false]) W := fun W => by kernel_rfl
  have t7 : ∀ W : World, (Instr.typeAssert (.iface 126 (.pointer (some ⟨p, 0, none⟩))) 20 126 true).run Tryz.prog W = .ok (.tuple #[.pointer (some ⟨p, 0, none⟩), .bool true]) W := fun W => by kernel_rfl
  have t8 : ∀ W : World, (Instr.typeAssert (.iface 126 (.pointer (some ⟨p, 0, none⟩))) 20 127 true).run Tryz.prog W = .ok (.tuple #[.pointer none, .bool false]) W := fun W => by kernel_rfl
  have t9 : ∀ W : World, (Instr.typeAssert (.iface 126 (.pointer (some ⟨p, 0, none⟩))) 20 128 true).run Tryz.prog W = .ok (.tuple #[.pointer none, .bool false]) W := fun W => by kernel_rfl
  have t10 : ∀ W : World, (Instr.typeAssert (.iface 126 (.pointer (some ⟨p, 0, none⟩))) 20 129 true).run Tryz.prog W = .ok (.tuple #[.pointer none, .bool false]) W := fun W => by kernel_rfl
  have ha : ∀ W : World, ∀ v, (Instr.typeAssert (.iface 117 v) 64 117 true).run Tryz.prog W = .ok (.tuple #[v, .bool true]) W := fun W _ => by kernel_rfl
  have hal := below_al (Below.refl w.heap.size w) (.cells #[.int .i64 s1, .pointer a1] 117)
  have HC := Lib.hid (uint64S (h.up hal))
  have HAL := Lib.hid hal
  have HP := Lib.hid (hp.below hal hp.lt)
  clear h hp hal
  go_enter Tryz.func59, Tryz.ntmps59
  go_wp2_with fail
  refine HC.out.mono ?_
  rintro e w1 ⟨r, ok, rfl, hok, hr, hb⟩
  have HB := Lib.hid (below_up HAL.out hb)
  have hp1 := HP.out.below hb HP.out.lt
  have HP1 := Lib.hid hp1
  have HOK := Lib.hid (And.intro hok hr)
  have c0 := hp1.cell 0
  have f0 := hp1.frozen 0
  have gl := hp1.lt
  simp at c0
  clear hp1 hok hr hb HC HAL HP
  cases ok
  · have HN : Hid (¬ (0 ≤ x ∧ x ≤ 65535)) := Lib.hid (fun h => by
      have := HOK.out.1.2 (by unfold inU; omega)
      cases this)
    go_wp2_with fail
    refine (errNew_any _ _).mono ?_
    rintro e w2 ⟨⟨T1, q1, rfl⟩, hb⟩
    have HB2 := Lib.hid (below_up HB.out hb)
    clear hb
    go_wp2
    go_ret
    exact .inr ⟨HN.out, ⟨T1, q1, rfl⟩, HB2.out⟩
  · obtain rfl := HOK.out.2 rfl
    have HIN := Lib.hid (HOK.out.1.1 rfl)
    by_cases hfit : 0 ≤ r ∧ r ≤ 65535
    · skip
      have HF := Lib.hid hfit
      obtain ⟨hf0, hf1⟩ := hfit
      have hf2 : r < 65536 := by omega
      have w1 : IntKind.u16.wrap r = r := by simp [IntKind.wrap, IntKind.bits, IntKind.signed]; omega
      clear HOK
      go_wp2
      go_ret
      refine .inl ⟨HF.out, rfl, ?_, ?_⟩
      · have h9 := HP1.out.set 0 (.int .u16 r)
        simpa using h9
      · exact (But.of_below (T := fun k => k = p) HB.out).set (p := ⟨p, 0, none⟩) rfl _
    · have HN := Lib.hid hfit
      have hh : 65536 ≤ r := by have := HIN.out; unfold inU at this; omega
      clear hfit
      go_wp2_with fail
      refine (errNew_any _ _).mono ?_
      rintro e w2 ⟨⟨T1, q1, rfl⟩, hb⟩
      have HB2 := Lib.hid (below_up HB.out hb)
      clear hb
      go_wp2
      go_ret
      exact .inr ⟨HN.out, ⟨T1, q1, rfl⟩, HB2.out⟩


theorem asP_uint32 {B : Nat} {v : Value} {x y : Int} {p : Nat} {w : World} (h : SI B v x w) (hp : Blk w p 79 #[.int .u32 y]) :
    Calls Tryz.prog 59 #[.iface 117 v, .iface 127 (.pointer (some ⟨p, 0, none⟩))] w (AsOut (0 ≤ x ∧ x ≤ 4294967295) p 79 .u32 x w) := by
  obtain ⟨s1, a1, rfl⟩ := h.shape
  have t0 : ∀ W : World, (Instr.typeAssert (.iface 127 (.pointer (some ⟨p, 0, none⟩))) 20 111 true).run Tryz.prog W = .ok (.tuple #[.pointer none, .bool false]) W := fun W => by kernel_rfl
  have t1 : ∀ W : World, (Instr.typeAssert (.iface 127 (.pointer (some ⟨p, 0, none⟩))) 20 119 true).run Tryz.prog W = .ok (.tuple #[.pointer none, .bool false]) W := fun W => by kernel_rfl
  have t2 : ∀ W : World, (Instr.typeAssert (.iface 127 (.pointer (some ⟨p, 0, none⟩))) 20 120 true).run Tryz.prog W = .ok (.tuple #[.pointer none, .bool false]) W := fun W => by kernel_rfl
  have t3 : ∀ W : World, (Instr.typeAssert (.iface 127 (.pointer (some ⟨p, 0, none⟩))) 20 121 true).run Tryz.prog W = .ok (.tuple #[.pointer none, .bool false]) W := fun W => by kernel_rfl
  have t4 : ∀ W : World, (Instr.typeAssert (.iface 127 (.pointer (some ⟨p, 0, none⟩))) 20 122 true).run Tryz.prog W = .ok (.tuple #[.pointer none, .bool false]) W := fun W => by kernel_rfl
  have t5 : ∀ W : World, (Instr.typeAssert (.iface 127 (.pointer (some ⟨p, 0, none⟩))) 20 123 true).run Tryz.prog W = .ok (.tuple #[.pointer none, .bool false]) W := fun W => by kernel_rfl
  have t6 : ∀ W : World, (Instr.typeAssert (.iface 127 (.pointer (some ⟨p, 0, none⟩))) 20 125 true).run Tryz.prog W = .ok (.tuple #[.pointer none, .bool false]) W := fun W => by kernel_rfl
  have t7 : ∀ W : World, (Instr.typeAssert (.iface 127 (.pointer (some ⟨p, 0, none⟩))) 20 126 true).run Tryz.prog W = .ok (.tuple #[.pointer none, .bool false]) W := fun W => by kernel_rfl
  have t8 : ∀ W : World, (Instr.typeAssert (.iface 127 (.pointer (some ⟨p, 0, none⟩))) 20 127 true).run Tryz.prog W = .ok (.tuple #[.pointer (some ⟨p, 0, none⟩), .bool true]) W := fun W => by kernel_rfl
  have t9 : ∀ W : World, (Instr.typeAssert (.iface 127 (.pointer (some ⟨p, 0, none⟩))) 20 128 true).run Tryz.prog W = .ok (.tuple #[.pointer none, .bool false]) W := fun W => by kernel_rfl
  have t10 : ∀ W : World, (Instr.typeAssert (.iface 127 (.pointer (some ⟨p, 0, none⟩))) 20 129 true).run Tryz.prog W = .ok (.tuple #[.pointer none, .bool false]) W := fun W => by kernel_rfl
  have ha : ∀ W : World, ∀ v, (Instr.typeAssert (.iface 117 v) 64 117 true).run Tryz.prog W = .ok (.tuple #[v, .bool true]) W := fun W _ => by kernel_rfl
  have hal := below_al (Below.refl w.heap.size w) (.cells #[.int .i64 s1, .pointer a1] 117)
  have HC := Lib.hid (uint64S (h.up hal))
  have HAL := Lib.hid hal
  have HP := Lib.hid (hp.below hal hp.lt)
  clear h hp hal
  go_enter Tryz.func59, Tryz.ntmps59
  go_wp2_with fail
  refine HC.out.mono ?_
  rintro e w1 ⟨r, ok, rfl, hok, hr, hb⟩
  have HB := Lib.hid (below_up HAL.out hb)
  have hp1 := HP.out.below hb HP.out.lt
  have HP1 := Lib.hid hp1
  have HOK := Lib.hid (And.intro hok hr)
  have c0 := hp1.cell 0
  have f0 := hp1.frozen 0
  have gl := hp1.lt
  simp at c0
  clear hp1 hok hr hb HC HAL HP
  cases ok
  · have HN : Hid (¬ (0 ≤ x ∧ x ≤ 4294967295)) := Lib.hid (fun h => by
      have := HOK.out.1.2 (by unfold inU; omega)
      cases this)
    go_wp2_with fail
    refine (errNew_any _ _).mono ?_
    rintro e w2 ⟨⟨T1, q1, rfl⟩, hb⟩
    have HB2 := Lib.hid (below_up HB.out hb)
    clear hb
    go_wp2
    go_ret
    exact .inr ⟨HN.out, ⟨T1, q1, rfl⟩, HB2.out⟩
  · obtain rfl := HOK.out.2 rfl
    have HIN := Lib.hid (HOK.out.1.1 rfl)
    by_cases hfit : 0 ≤ r ∧ r ≤ 4294967295
    · skip
      have HF := Lib.hid hfit
      obtain ⟨hf0, hf1⟩ := hfit
      have hf2 : r < 4294967296 := by omega
      have w1 : IntKind.u32.wrap r = r := by simp [IntKind.wrap, IntKind.bits, IntKind.signed]; omega
      clear HOK
      go_wp2
      go_ret
      refine .inl ⟨HF.out, rfl, ?_, ?_⟩
      · have h9 := HP1.out.set 0 (.int .u32 r)
        simpa using h9
      · exact (But.of_below (T := fun k => k = p) HB.out).set (p := ⟨p, 0, none⟩) rfl _
    · have HN := Lib.hid hfit
      have hh : 4294967296 ≤ r := by have := HIN.out; unfold inU at this; omega
      clear hfit
      go_wp2_with fail
      refine (errNew_any _ _).mono ?_
      rintro e w2 ⟨⟨T1, q1, rfl⟩, hb⟩
      have HB2 := Lib.hid (below_up HB.out hb)
      clear hb
      go_wp2
      go_ret
      exact .inr ⟨HN.out, ⟨T1, q1, rfl⟩, HB2.out⟩


theorem asP_uint64 {B : Nat} {v : Value} {x y : Int} {p : Nat} {w : World} (h : SI B v x w) (hp : Blk w p 23 #[.int .u64 y]) :
    Calls Tryz.prog 59 #[.iface 117 v, .iface 128 (.pointer (some ⟨p, 0, none⟩))] w (AsOut (0 ≤ x ∧ x ≤ 18446744073709551615) p 23 .u64 x w) := by
  obtain ⟨s1, a1, rfl⟩ := h.shape
  have t0 : ∀ W : World, (Instr.typeAssert (.iface 128 (.pointer (some ⟨p, 0, none⟩))) 20 111 true).run Tryz.prog W = .ok (.tuple #[.pointer none, .bool false]) W := fun W => by kernel_rfl
  have t1 : ∀ W : World, (Instr.typeAssert (.iface 128 (.pointer (some ⟨p, 0, none⟩))) 20 119 true).run Tryz.prog W = .ok (.tuple #[.pointer none, .bool false]) W := fun W => by kernel_rfl
  have t2 : ∀ W : World, (Instr.typeAssert (.iface 128 (.pointer (some ⟨p, 0, none⟩))) 20 120 true).run Tryz.prog W = .ok (.tuple #[.pointer none, .bool false]) W := fun W => by kernel_rfl
  have t3 : ∀ W : World, (Instr.typeAssert (.iface 128 (.pointer (some ⟨p, 0, none⟩))) 20 121 true).run Tryz.prog W = .ok (.tuple #[.pointer none, .bool false]) W := fun W => by kernel_rfl
  have t4 : ∀ W : World, (Instr.typeAssert (.iface 128 (.pointer (some ⟨p, 0, none⟩))) 20 122 true).run Tryz.prog W = .ok (.tuple #[.pointer none, .bool false]) W := fun W => by kernel_rfl
  have t5 : ∀ W : World, (Instr.typeAssert (.iface 128 (.pointer (some ⟨p, 0, none⟩))) 20 123 true).run Tryz.prog W = .ok (.tuple #[.pointer none, .bool false]) W := fun W => by kernel_rfl
  have t6 : ∀ W : World, (Instr.typeAssert (.iface 128 (.pointer (some ⟨p, 0, none⟩))) 20 125 true).run Tryz.prog W = .ok (.tuple #[.pointer none, .bool false]) W := fun W => by kernel_rfl
  have t7 : ∀ W : World, (Instr.typeAssert (.iface 128 (.pointer (some ⟨p, 0, none⟩))) 20 126 true).run Tryz.prog W = .ok (.tuple #[.pointer none, .bool false]) W := fun W => by kernel_rfl
  have t8 : ∀ W : World, (Instr.typeAssert (.iface 128 (.pointer (some ⟨p, 0, none⟩))) 20 127 true).run Tryz.prog W = .ok (.tuple #[.pointer none, .bool false]) W := fun W => by kernel_rfl
  have t9 : ∀ W : World, (Instr.typeAssert (.iface 128 (.pointer (some ⟨p, 0, none⟩))) 20 128 true).run Tryz.prog W = .ok (.tuple #[.pointer (some ⟨p, 0, none⟩), .bool true]) W := fun W => by kernel_rfl
  have t10 : ∀ W : World, (Instr.typeAssert (.iface 128 (.pointer (some ⟨p, 0, none⟩))) 20 129 true).run Tryz.prog W = .ok (.tuple #[.pointer none, .bool false]) W := fun W => by kernel_rfl
  have ha : ∀ W : World, ∀ v, (Instr.typeAssert (.iface 117 v) 64 117 true).run Tryz.prog W = .ok (.tuple #[v, .bool true]) W := fun W _ => by kernel_rfl
  have hal := below_al (Below.refl w.heap.size w) (.cells #[.int .i64 s1, .pointer a1] 117)
  have HC := Lib.hid (uint64S (h.up hal))
  have HAL := Lib.hid hal
  have HP := Lib.hid (hp.below hal hp.lt)
  clear h hp hal
  go_enter Tryz.func59, Tryz.ntmps59
  go_wp2_with fail
  refine HC.out.mono ?_
  rintro e w1 ⟨r, ok, rfl, hok, hr, hb⟩
  have HB := Lib.hid (below_up HAL.out hb)
  have hp1 := HP.out.below hb HP.out.lt
  have HP1 := Lib.hid hp1
  have HOK := Lib.hid (And.intro hok hr)
  have c0 := hp1.cell 0
  have f0 := hp1.frozen 0
  have gl := hp1.lt
  simp at c0
  clear hp1 hok hr hb HC HAL HP
  cases ok
  · have HN : Hid (¬ (0 ≤ x ∧ x ≤ 18446744073709551615)) := Lib.hid (fun h => by
      have := HOK.out.1.2 (by unfold inU; omega)
      cases this)
    go_wp2_with fail
    refine (errNew_any _ _).mono ?_
    rintro e w2 ⟨⟨T1, q1, rfl⟩, hb⟩
    have HB2 := Lib.hid (below_up HB.out hb)
    clear hb
    go_wp2
    go_ret
    exact .inr ⟨HN.out, ⟨T1, q1, rfl⟩, HB2.out⟩
  · obtain rfl := HOK.out.2 rfl
    have HIN := Lib.hid (HOK.out.1.1 rfl)
    have hfit : 0 ≤ r ∧ r ≤ 18446744073709551615 := HIN.out
    · skip
      have HF := Lib.hid hfit
      obtain ⟨hf0, hf1⟩ := hfit
      have hf2 : r < 18446744073709551616 := by omega
      have w1 : IntKind.u64.wrap r = r := by simp [IntKind.wrap, IntKind.bits, IntKind.signed]; omega
      clear HOK
      go_wp2
      go_ret
      refine .inl ⟨HF.out, rfl, ?_, ?_⟩
      · have h9 := HP1.out.set 0 (.int .u64 r)
        simpa using h9
      · exact (But.of_below (T := fun k => k = p) HB.out).set (p := ⟨p, 0, none⟩) rfl _


theorem asP_uintptr {B : Nat} {v : Value} {x y : Int} {p : Nat} {w : World} (h : SI B v x w) (hp : Blk w p 12 #[.int .u64 y]) :
    Calls Tryz.prog 59 #[.iface 117 v, .iface 129 (.pointer (some ⟨p, 0, none⟩))] w (AsOut (0 ≤ x ∧ x ≤ 18446744073709551615) p 12 .u64 x w) := by
  obtain ⟨s1, a1, rfl⟩ := h.shape
  have t0 : ∀ W : World, (Instr.typeAssert (.iface 129 (.pointer (some ⟨p, 0, none⟩))) 20 111 true).run Tryz.prog W = .ok (.tuple #[.pointer none, .bool false]) W := fun W => by kernel_rfl
  have t1 : ∀ W : World, (Instr.typeAssert (.iface 129 (.pointer (some ⟨p, 0, none⟩))) 20 119 true).run Tryz.prog W = .ok (.tuple #[.pointer none, .bool false]) W := fun W => by kernel_rfl
  have t2 : ∀ W : World, (Instr.typeAssert (.iface 129 (.pointer (some ⟨p, 0, none⟩))) 20 120 true).run Tryz.prog W = .ok (.tuple #[.pointer none, .bool false]) W := fun W => by kernel_rfl
  have t3 : ∀ W : World, (Instr.typeAssert (.iface 129 (.pointer (some ⟨p, 0, none⟩))) 20 121 true).run Tryz.prog W = .ok (.tuple #[.pointer none, .bool false]) W := fun W => by kernel_rfl
  have t4 : ∀ W : World, (Instr.typeAssert (.iface 129 (.pointer (some ⟨p, 0, none⟩))) 20 122 true).run Tryz.prog W = .ok (.tuple #[.pointer none, .bool false]) W := fun W => by kernel_rfl
  have t5 : ∀ W : World, (Instr.typeAssert (.iface 129 (.pointer (some ⟨p, 0, none⟩))) 20 123 true).run Tryz.prog W = .ok (.tuple #[.pointer none, .bool false]) W := fun W => by kernel_rfl
  have t6 : ∀ W : World, (Instr.typeAssert (.iface 129 (.pointer (some ⟨p, 0, none⟩))) 20 125 true).run Tryz.prog W = .ok (.tuple #[.pointer none, .bool false]) W := fun W => by kernel_rfl
  have t7 : ∀ W : World, (Instr.typeAssert (.iface 129 (.pointer (some ⟨p, 0, none⟩))) 20 126 true).run Tryz.prog W = .ok (.tuple #[.pointer none, .bool false]) W := fun W => by kernel_rfl
  have t8 : ∀ W : World, (Instr.typeAssert (.iface 129 (.pointer (some ⟨p, 0, none⟩))) 20 127 true).run Tryz.prog W = .ok (.tuple #[.pointer none, .bool false]) W := fun W => by kernel_rfl
  have t9 : ∀ W : World, (Instr.typeAssert (.iface 129 (.pointer (some ⟨p, 0, none⟩))) 20 128 true).run Tryz.prog W = .ok (.tuple #[.pointer none, .bool false]) W := fun W => by kernel_rfl
  have t10 : ∀ W : World, (Instr.typeAssert (.iface 129 (.pointer (some ⟨p, 0, none⟩))) 20 129 true).run Tryz.prog W = .ok (.tuple #[.pointer (some ⟨p, 0, none⟩), .bool true]) W := fun W => by kernel_rfl
  have ha : ∀ W : World, ∀ v, (Instr.typeAssert (.iface 117 v) 64 117 true).run Tryz.prog W = .ok (.tuple #[v, .bool true]) W := fun W _ => by kernel_rfl
  have hal := below_al (Below.refl w.heap.size w) (.cells #[.int .i64 s1, .pointer a1] 117)
  have HC := Lib.hid (uint64S (h.up hal))
  have HAL := Lib.hid hal
  have HP := Lib.hid (hp.below hal hp.lt)
  clear h hp hal
  go_enter Tryz.func59, Tryz.ntmps59
  go_wp2_with fail
  refine HC.out.mono ?_
  rintro e w1 ⟨r, ok, rfl, hok, hr, hb⟩
  have HB := Lib.hid (below_up HAL.out hb)
  have hp1 := HP.out.below hb HP.out.lt
  have HP1 := Lib.hid hp1
  have HOK := Lib.hid (And.intro hok hr)
  have c0 := hp1.cell 0
  have f0 := hp1.frozen 0
  have gl := hp1.lt
  simp at c0
  clear hp1 hok hr hb HC HAL HP
  cases ok
  · have HN : Hid (¬ (0 ≤ x ∧ x ≤ 18446744073709551615)) := Lib.hid (fun h => by
      have := HOK.out.1.2 (by unfold inU; omega)
      cases this)
    go_wp2_with fail
    refine (errNew_any _ _).mono ?_
    rintro e w2 ⟨⟨T1, q1, rfl⟩, hb⟩
    have HB2 := Lib.hid (below_up HB.out hb)
    clear hb
    go_wp2
    go_ret
    exact .inr ⟨HN.out, ⟨T1, q1, rfl⟩, HB2.out⟩
  · obtain rfl := HOK.out.2 rfl
    have HIN := Lib.hid (HOK.out.1.1 rfl)
    have hfit : 0 ≤ r ∧ r ≤ 18446744073709551615 := HIN.out
    · skip
      have HF := Lib.hid hfit
      obtain ⟨hf0, hf1⟩ := hfit
      have hf2 : r < 18446744073709551616 := by omega
      have w1 : IntKind.u64.wrap r = r := by simp [IntKind.wrap, IntKind.bits, IntKind.signed]; omega
      clear HOK
      go_wp2
      go_ret
      refine .inl ⟨HF.out, rfl, ?_, ?_⟩
      · have h9 := HP1.out.set 0 (.int .u64 r)
        simpa using h9
      · exact (But.of_below (T := fun k => k = p) HB.out).set (p := ⟨p, 0, none⟩) rfl _

end Go.Proofs.YtloloifngbmibaaGreatDoor
