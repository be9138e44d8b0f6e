/- Telling: a value of each type. -/
import Derived.Test.YtloloifngbmibaaGreatDoorM34
set_option linter.unusedVariables false
set_option linter.unusedSimpArgs false
set_option maxRecDepth 4000
namespace Go.Proofs.YtloloifngbmibaaGreatDoor
open Go.RowKit

theorem HVB.plain {B d : Nat} {t : Tr} {x : Vc} {W : World} (hk : t.kids = []) (h1 : x.k = t.k) (h2 : x.n = t.neg) (h3 : x.b = t.bits) (h4 : x.s = t.text) (hm : x.m = .slice none 0 0) (hmg : t.mag = []) (hq : x.q = .slice none 0 0) : HVB B (d + 1) t x W :=
  HVB.leaf (S := fun _ => False) hk ⟨h1, h2, h3, h4, by rw [hm, hmg]; exact SlV.nil _ _ _⟩ hq (fun k hk => hk.elim)
theorem below6 {w W : World} {T : TypeId} {cs : Array Value} (h : Below w.heap.size (w.alloc (.cells cs T)) W) : Below w.heap.size w W := (below_al (Below.refl _ _) _).trans h

theorem tl_none {d : Nat} {t : Tr} (g : GoodH t) (hk : t.k = 0) (hkids : t.kids = []) (w : World) : Calls Tryz.prog 48 #[.iface 145 (.int .u8 0)] w (TellOut d t w) := by
  have t0 : ∀ W : World, (Instr.typeAssert (.iface 145 (.int .u8 0)) 64 145 true).run Tryz.prog W = .ok (.tuple #[.int .u8 0, .bool true]) W := fun W => by kernel_rfl
  have HX : Hid (∀ W : World, HVB w.heap.size (d + 1) t ⟨0, false, .slice none 0 0, 0, ⟨#[]⟩, .slice none 0 0⟩ W) := Lib.hid (fun W => HVB.plain hkids hk.symm (g.nfm (by omega)).1.symm (g.nfb (by omega) (by omega)).symm (g.notx (by omega) (by omega)).symm rfl (g.nfm (by omega)).2 rfl)
  clear g hk hkids
  go_enter Tryz.func48, Tryz.ntmps48
  go_upto_region 1 with fail
  generalize hw0 : w.alloc (.cells #[.int .i64 0, .bool false, .slice none 0 0, .int .u64 0, .string { data := #[] }, .slice none 0 0] 26) = w0
  have hrow : Blk w0 w.heap.size 26 valZ0 := by rw [← hw0]; exact Blk.new w _ _
  have HH : Hid (Below w.heap.size w w0) := Lib.hid (by rw [← hw0]; exact below_al (Below.refl _ _) _)
  have HL0 : Hid (w.heap.size < w0.heap.size) := Lib.hid hrow.lt
  clear hw0
  have c0 := hrow.cell 0
  have c1 := hrow.cell 1
  have c2 := hrow.cell 2
  have c3 := hrow.cell 3
  have c4 := hrow.cell 4
  have c5 := hrow.cell 5
  have f0 := hrow.frozen 0
  have f1 := hrow.frozen 1
  have f2 := hrow.frozen 2
  have f3 := hrow.frozen 3
  have f4 := hrow.frozen 4
  have f5 := hrow.frozen 5
  have rl := hrow.lt
  simp at c0 c1 c2 c3 c4 c5
  clear hrow
  go_wp2
  refine bodyPost_ret (v := .agg #[.int .i64 0, .bool false, .slice none 0 0, .int .u64 0, .string ⟨#[]⟩, .slice none 0 0]) (by simp [results, Tryz.results48, go_sem, c0, c1, c2, c3, c4, c5]) rfl ⟨⟨0, false, .slice none 0 0, 0, ⟨#[]⟩, .slice none 0 0⟩, rfl, HX.out _, ?_⟩
  exact low6 HH.out w.heap.size (Nat.le_refl _) _ _ _ _ _ _

theorem tl_true {d : Nat} {t : Tr} (hb : t.bits = 1) (g : GoodH t) (hk : t.k = 1) (hkids : t.kids = []) (w : World) : Calls Tryz.prog 48 #[.iface 146 (.bool true)] w (TellOut d t w) := by
  have t0 : ∀ W : World, (Instr.typeAssert (.iface 146 (.bool true)) 64 145 true).run Tryz.prog W = .ok (.tuple #[.int .u8 0, .bool false]) W := fun W => by kernel_rfl
  have t1 : ∀ W : World, (Instr.typeAssert (.iface 146 (.bool true)) 64 146 true).run Tryz.prog W = .ok (.tuple #[.bool true, .bool true]) W := fun W => by kernel_rfl
  have HX : Hid (∀ W : World, HVB w.heap.size (d + 1) t ⟨1, false, .slice none 0 0, 1, ⟨#[]⟩, .slice none 0 0⟩ W) := Lib.hid (fun W => HVB.plain hkids hk.symm (g.nfm (by omega)).1.symm hb.symm (g.notx (by omega) (by omega)).symm rfl (g.nfm (by omega)).2 rfl)
  clear g hk hkids
  go_enter Tryz.func48, Tryz.ntmps48
  go_upto_region 1 with fail
  generalize hw0 : w.alloc (.cells #[.int .i64 0, .bool false, .slice none 0 0, .int .u64 0, .string { data := #[] }, .slice none 0 0] 26) = w0
  have hrow : Blk w0 w.heap.size 26 valZ0 := by rw [← hw0]; exact Blk.new w _ _
  have HH : Hid (Below w.heap.size w w0) := Lib.hid (by rw [← hw0]; exact below_al (Below.refl _ _) _)
  have HL0 : Hid (w.heap.size < w0.heap.size) := Lib.hid hrow.lt
  clear hw0
  have c0 := hrow.cell 0
  have c1 := hrow.cell 1
  have c2 := hrow.cell 2
  have c3 := hrow.cell 3
  have c4 := hrow.cell 4
  have c5 := hrow.cell 5
  have f0 := hrow.frozen 0
  have f1 := hrow.frozen 1
  have f2 := hrow.frozen 2
  have f3 := hrow.frozen 3
  have f4 := hrow.frozen 4
  have f5 := hrow.frozen 5
  have rl := hrow.lt
  simp at c0 c1 c2 c3 c4 c5
  clear hrow
  go_wp2
  refine bodyPost_ret (v := .agg #[.int .i64 1, .bool false, .slice none 0 0, .int .u64 1, .string ⟨#[]⟩, .slice none 0 0]) (by simp [results, Tryz.results48, go_sem, c0, c1, c2, c3, c4, c5]) rfl ⟨⟨1, false, .slice none 0 0, 1, ⟨#[]⟩, .slice none 0 0⟩, rfl, HX.out _, ?_⟩
  exact low6 HH.out w.heap.size (Nat.le_refl _) _ _ _ _ _ _

theorem tl_false {d : Nat} {t : Tr} (hb : t.bits = 0) (g : GoodH t) (hk : t.k = 1) (hkids : t.kids = []) (w : World) : Calls Tryz.prog 48 #[.iface 146 (.bool false)] w (TellOut d t w) := by
  have t0 : ∀ W : World, (Instr.typeAssert (.iface 146 (.bool false)) 64 145 true).run Tryz.prog W = .ok (.tuple #[.int .u8 0, .bool false]) W := fun W => by kernel_rfl
  have t1 : ∀ W : World, (Instr.typeAssert (.iface 146 (.bool false)) 64 146 true).run Tryz.prog W = .ok (.tuple #[.bool false, .bool true]) W := fun W => by kernel_rfl
  have HX : Hid (∀ W : World, HVB w.heap.size (d + 1) t ⟨1, false, .slice none 0 0, 0, ⟨#[]⟩, .slice none 0 0⟩ W) := Lib.hid (fun W => HVB.plain hkids hk.symm (g.nfm (by omega)).1.symm hb.symm (g.notx (by omega) (by omega)).symm rfl (g.nfm (by omega)).2 rfl)
  clear g hk hkids
  go_enter Tryz.func48, Tryz.ntmps48
  go_upto_region 1 with fail
  generalize hw0 : w.alloc (.cells #[.int .i64 0, .bool false, .slice none 0 0, .int .u64 0, .string { data := #[] }, .slice none 0 0] 26) = w0
  have hrow : Blk w0 w.heap.size 26 valZ0 := by rw [← hw0]; exact Blk.new w _ _
  have HH : Hid (Below w.heap.size w w0) := Lib.hid (by rw [← hw0]; exact below_al (Below.refl _ _) _)
  have HL0 : Hid (w.heap.size < w0.heap.size) := Lib.hid hrow.lt
  clear hw0
  have c0 := hrow.cell 0
  have c1 := hrow.cell 1
  have c2 := hrow.cell 2
  have c3 := hrow.cell 3
  have c4 := hrow.cell 4
  have c5 := hrow.cell 5
  have f0 := hrow.frozen 0
  have f1 := hrow.frozen 1
  have f2 := hrow.frozen 2
  have f3 := hrow.frozen 3
  have f4 := hrow.frozen 4
  have f5 := hrow.frozen 5
  have rl := hrow.lt
  simp at c0 c1 c2 c3 c4 c5
  clear hrow
  go_wp2
  refine bodyPost_ret (v := .agg #[.int .i64 1, .bool false, .slice none 0 0, .int .u64 0, .string ⟨#[]⟩, .slice none 0 0]) (by simp [results, Tryz.results48, go_sem, c0, c1, c2, c3, c4, c5]) rfl ⟨⟨1, false, .slice none 0 0, 0, ⟨#[]⟩, .slice none 0 0⟩, rfl, HX.out _, ?_⟩
  exact low6 HH.out w.heap.size (Nat.le_refl _) _ _ _ _ _ _

theorem tl_str {d : Nat} {t : Tr} (s : ByteArray) (hs : t.text = s) (g : GoodH t) (hk : t.k = 4) (hkids : t.kids = []) (w : World) : Calls Tryz.prog 48 #[.iface 149 (.string s)] w (TellOut d t w) := by
  have t0 : ∀ W : World, (Instr.typeAssert (.iface 149 (.string s)) 64 145 true).run Tryz.prog W = .ok (.tuple #[.int .u8 0, .bool false]) W := fun W => by kernel_rfl
  have t1 : ∀ W : World, (Instr.typeAssert (.iface 149 (.string s)) 64 146 true).run Tryz.prog W = .ok (.tuple #[.bool false, .bool false]) W := fun W => by kernel_rfl
  have t2 : ∀ W : World, (Instr.typeAssert (.iface 149 (.string s)) 64 117 true).run Tryz.prog W = .ok (.tuple #[.agg #[.int .i64 0, .pointer none], .bool false]) W := fun W => by kernel_rfl
  have t3 : ∀ W : World, (Instr.typeAssert (.iface 149 (.string s)) 64 147 true).run Tryz.prog W = .ok (.tuple #[.float .f64 0, .bool false]) W := fun W => by kernel_rfl
  have t4 : ∀ W : World, (Instr.typeAssert (.iface 149 (.string s)) 64 149 true).run Tryz.prog W = .ok (.tuple #[.string s, .bool true]) W := fun W => by kernel_rfl
  have HX : Hid (∀ W : World, HVB w.heap.size (d + 1) t ⟨4, false, .slice none 0 0, 0, s, .slice none 0 0⟩ W) := Lib.hid (fun W => HVB.plain hkids hk.symm (g.nfm (by omega)).1.symm (g.nfb (by omega) (by omega)).symm hs.symm rfl (g.nfm (by omega)).2 rfl)
  clear g hk hkids
  go_enter Tryz.func48, Tryz.ntmps48
  go_upto_region 1 with fail
  generalize hw0 : w.alloc (.cells #[.int .i64 0, .bool false, .slice none 0 0, .int .u64 0, .string { data := #[] }, .slice none 0 0] 26) = w0
  have hrow : Blk w0 w.heap.size 26 valZ0 := by rw [← hw0]; exact Blk.new w _ _
  have HH : Hid (Below w.heap.size w w0) := Lib.hid (by rw [← hw0]; exact below_al (Below.refl _ _) _)
  have HL0 : Hid (w.heap.size < w0.heap.size) := Lib.hid hrow.lt
  clear hw0
  have c0 := hrow.cell 0
  have c1 := hrow.cell 1
  have c2 := hrow.cell 2
  have c3 := hrow.cell 3
  have c4 := hrow.cell 4
  have c5 := hrow.cell 5
  have f0 := hrow.frozen 0
  have f1 := hrow.frozen 1
  have f2 := hrow.frozen 2
  have f3 := hrow.frozen 3
  have f4 := hrow.frozen 4
  have f5 := hrow.frozen 5
  have rl := hrow.lt
  simp at c0 c1 c2 c3 c4 c5
  clear hrow
  go_wp2
  refine bodyPost_ret (v := .agg #[.int .i64 4, .bool false, .slice none 0 0, .int .u64 0, .string s, .slice none 0 0]) (by simp [results, Tryz.results48, go_sem, c0, c1, c2, c3, c4, c5]) rfl ⟨⟨4, false, .slice none 0 0, 0, s, .slice none 0 0⟩, rfl, HX.out _, ?_⟩
  exact low6 HH.out w.heap.size (Nat.le_refl _) _ _ _ _ _ _

theorem tl_byt {d : Nat} {t : Tr} (s : ByteArray) (hs : t.text = s) (g : GoodH t) (hk : t.k = 5) (hkids : t.kids = []) (w : World) : Calls Tryz.prog 48 #[.iface 150 (.string s)] w (TellOut d t w) := by
  have t0 : ∀ W : World, (Instr.typeAssert (.iface 150 (.string s)) 64 145 true).run Tryz.prog W = .ok (.tuple #[.int .u8 0, .bool false]) W := fun W => by kernel_rfl
  have t1 : ∀ W : World, (Instr.typeAssert (.iface 150 (.string s)) 64 146 true).run Tryz.prog W = .ok (.tuple #[.bool false, .bool false]) W := fun W => by kernel_rfl
  have t2 : ∀ W : World, (Instr.typeAssert (.iface 150 (.string s)) 64 117 true).run Tryz.prog W = .ok (.tuple #[.agg #[.int .i64 0, .pointer none], .bool false]) W := fun W => by kernel_rfl
  have t3 : ∀ W : World, (Instr.typeAssert (.iface 150 (.string s)) 64 147 true).run Tryz.prog W = .ok (.tuple #[.float .f64 0, .bool false]) W := fun W => by kernel_rfl
  have t4 : ∀ W : World, (Instr.typeAssert (.iface 150 (.string s)) 64 149 true).run Tryz.prog W = .ok (.tuple #[.string ⟨#[]⟩, .bool false]) W := fun W => by kernel_rfl
  have t5 : ∀ W : World, (Instr.typeAssert (.iface 150 (.string s)) 64 150 true).run Tryz.prog W = .ok (.tuple #[.string s, .bool true]) W := fun W => by kernel_rfl
  have HX : Hid (∀ W : World, HVB w.heap.size (d + 1) t ⟨5, false, .slice none 0 0, 0, s, .slice none 0 0⟩ W) := Lib.hid (fun W => HVB.plain hkids hk.symm (g.nfm (by omega)).1.symm (g.nfb (by omega) (by omega)).symm hs.symm rfl (g.nfm (by omega)).2 rfl)
  clear g hk hkids
  go_enter Tryz.func48, Tryz.ntmps48
  go_upto_region 1 with fail
  generalize hw0 : w.alloc (.cells #[.int .i64 0, .bool false, .slice none 0 0, .int .u64 0, .string { data := #[] }, .slice none 0 0] 26) = w0
  have hrow : Blk w0 w.heap.size 26 valZ0 := by rw [← hw0]; exact Blk.new w _ _
  have HH : Hid (Below w.heap.size w w0) := Lib.hid (by rw [← hw0]; exact below_al (Below.refl _ _) _)
  have HL0 : Hid (w.heap.size < w0.heap.size) := Lib.hid hrow.lt
  clear hw0
  have c0 := hrow.cell 0
  have c1 := hrow.cell 1
  have c2 := hrow.cell 2
  have c3 := hrow.cell 3
  have c4 := hrow.cell 4
  have c5 := hrow.cell 5
  have f0 := hrow.frozen 0
  have f1 := hrow.frozen 1
  have f2 := hrow.frozen 2
  have f3 := hrow.frozen 3
  have f4 := hrow.frozen 4
  have f5 := hrow.frozen 5
  have rl := hrow.lt
  simp at c0 c1 c2 c3 c4 c5
  clear hrow
  go_wp2
  refine bodyPost_ret (v := .agg #[.int .i64 5, .bool false, .slice none 0 0, .int .u64 0, .string s, .slice none 0 0]) (by simp [results, Tryz.results48, go_sem, c0, c1, c2, c3, c4, c5]) rfl ⟨⟨5, false, .slice none 0 0, 0, s, .slice none 0 0⟩, rfl, HX.out _, ?_⟩
  exact low6 HH.out w.heap.size (Nat.le_refl _) _ _ _ _ _ _

theorem tl_flt {d : Nat} {t : Tr} (u : Nat) (hu : t.bits = (u : Int)) (g : GoodH t) (hk : t.k = 3) (hkids : t.kids = []) (w : World) : Calls Tryz.prog 48 #[.iface 147 (.float .f64 u)] w (TellOut d t w) := by
  have t0 : ∀ W : World, (Instr.typeAssert (.iface 147 (.float .f64 u)) 64 145 true).run Tryz.prog W = .ok (.tuple #[.int .u8 0, .bool false]) W := fun W => by kernel_rfl
  have t1 : ∀ W : World, (Instr.typeAssert (.iface 147 (.float .f64 u)) 64 146 true).run Tryz.prog W = .ok (.tuple #[.bool false, .bool false]) W := fun W => by kernel_rfl
  have t2 : ∀ W : World, (Instr.typeAssert (.iface 147 (.float .f64 u)) 64 117 true).run Tryz.prog W = .ok (.tuple #[.agg #[.int .i64 0, .pointer none], .bool false]) W := fun W => by kernel_rfl
  have t3 : ∀ W : World, (Instr.typeAssert (.iface 147 (.float .f64 u)) 64 147 true).run Tryz.prog W = .ok (.tuple #[.float .f64 u, .bool true]) W := fun W => by kernel_rfl
  have HX : Hid (∀ W : World, HVB w.heap.size (d + 1) t ⟨3, false, .slice none 0 0, u, ⟨#[]⟩, .slice none 0 0⟩ W) := Lib.hid (fun W => HVB.plain hkids hk.symm (g.nfm (by omega)).1.symm hu.symm (g.notx (by omega) (by omega)).symm rfl (g.nfm (by omega)).2 rfl)
  clear g hk hkids hu
  go_enter Tryz.func48, Tryz.ntmps48
  go_upto_region 1 with fail
  generalize hw0 : w.alloc (.cells #[.int .i64 0, .bool false, .slice none 0 0, .int .u64 0, .string { data := #[] }, .slice none 0 0] 26) = w0
  have hrow : Blk w0 w.heap.size 26 valZ0 := by rw [← hw0]; exact Blk.new w _ _
  have HH : Hid (Below w.heap.size w w0) := Lib.hid (by rw [← hw0]; exact below_al (Below.refl _ _) _)
  have HL0 : Hid (w.heap.size < w0.heap.size) := Lib.hid hrow.lt
  clear hw0
  have c0 := hrow.cell 0
  have c1 := hrow.cell 1
  have c2 := hrow.cell 2
  have c3 := hrow.cell 3
  have c4 := hrow.cell 4
  have c5 := hrow.cell 5
  have f0 := hrow.frozen 0
  have f1 := hrow.frozen 1
  have f2 := hrow.frozen 2
  have f3 := hrow.frozen 3
  have f4 := hrow.frozen 4
  have f5 := hrow.frozen 5
  have rl := hrow.lt
  simp at c0 c1 c2 c3 c4 c5
  clear hrow
  go_wp2_with fail
  refine (bitsOf_any _ _).mono ?_
  rintro e w1 ⟨rfl, rfl⟩
  go_wp2
  refine bodyPost_ret (v := .agg #[.int .i64 3, .bool false, .slice none 0 0, .int .u64 u, .string ⟨#[]⟩, .slice none 0 0]) (by simp [results, Tryz.results48, go_sem, c0, c1, c2, c3, c4, c5]) rfl ⟨⟨3, false, .slice none 0 0, u, ⟨#[]⟩, .slice none 0 0⟩, rfl, HX.out _, ?_⟩
  exact low6 HH.out w.heap.size (Nat.le_refl _) _ _ _ _ _ _

theorem tl_int {d a b : Nat} {t : Tr} {v : Value} {w : World} (hs : SMI a b v (iv t.neg t.mag) w) (hb : b ≤ w.heap.size) (g : GoodH t) (hk : t.k = 2) (hkids : t.kids = []) : Calls Tryz.prog 48 #[.iface 117 v] w (TellOut d t w) := by
  obtain ⟨s, p, rfl⟩ := (hs.sm.si hb).shape
  have t0 : ∀ W : World, (Instr.typeAssert (.iface 117 (.agg #[.int .i64 s, .pointer p])) 64 145 true).run Tryz.prog W = .ok (.tuple #[.int .u8 0, .bool false]) W := fun W => by kernel_rfl
  have t1 : ∀ W : World, (Instr.typeAssert (.iface 117 (.agg #[.int .i64 s, .pointer p])) 64 146 true).run Tryz.prog W = .ok (.tuple #[.bool false, .bool false]) W := fun W => by kernel_rfl
  have t2 : ∀ W : World, (Instr.typeAssert (.iface 117 (.agg #[.int .i64 s, .pointer p])) 64 117 true).run Tryz.prog W = .ok (.tuple #[.agg #[.int .i64 s, .pointer p], .bool true]) W := fun W => by kernel_rfl
  have HCC : Hid (∀ W0 : World, Below w.heap.size w W0 → Calls Tryz.prog 60 #[.agg #[.int .i64 s, .pointer p]] (W0.alloc (.cells #[.int .i64 s, .pointer p] 117)) (TellOut d t (W0.alloc (.cells #[.int .i64 s, .pointer p] 117)))) := Lib.hid (fun W0 hW => numTell (d := d) (hs.keep (still_below (below_al hW _) (fun k hk => Nat.lt_of_lt_of_le hk.2 hb))) (Nat.le_trans hb (below_al hW _).size) g hk hkids)
  clear hs hb g hk hkids
  go_enter Tryz.func48, Tryz.ntmps48
  go_upto_region 1 with fail
  generalize hw0 : w.alloc (.cells #[.int .i64 0, .bool false, .slice none 0 0, .int .u64 0, .string { data := #[] }, .slice none 0 0] 26) = w0
  have hrow : Blk w0 w.heap.size 26 valZ0 := by rw [← hw0]; exact Blk.new w _ _
  have HH : Hid (Below w.heap.size w w0) := Lib.hid (by rw [← hw0]; exact below_al (Below.refl _ _) _)
  have HL0 : Hid (w.heap.size < w0.heap.size) := Lib.hid hrow.lt
  clear hw0
  have HR := Lib.hid hrow
  have HC := Lib.hid (HCC.out w0 HH.out)
  have HAL := Lib.hid (below_al (Below.refl w0.heap.size w0) (.cells #[.int .i64 s, .pointer p] 117))
  clear hrow HCC
  go_wp2_with fail
  refine HC.out.mono ?_
  rintro e w1 ⟨x, rfl, hx, hb1⟩
  obtain ⟨kk, kn, Ak, lk, ck, kb, ks, Aq, lq, cq, rfl⟩ := hx.hv.shape
  have hb2 := below_up HAL.out hb1
  have hrow := HR.out.below hb2 HL0.out
  have c0 := hrow.cell 0
  have c1 := hrow.cell 1
  have c2 := hrow.cell 2
  have c3 := hrow.cell 3
  have c4 := hrow.cell 4
  have c5 := hrow.cell 5
  have f0 := hrow.frozen 0
  have f1 := hrow.frozen 1
  have f2 := hrow.frozen 2
  have f3 := hrow.frozen 3
  have f4 := hrow.frozen 4
  have f5 := hrow.frozen 5
  have rl := hrow.lt
  simp at c0 c1 c2 c3 c4 c5
  have HX := Lib.hid hx
  have HB1 := Lib.hid (below_up HH.out hb2)
  have HSZ := Lib.hid HAL.out.size
  clear hx hb1 hb2 hrow HC
  go_wp2
  refine bodyPost_ret (v := .agg #[.int .i64 kk, .bool kn, .slice Ak lk ck, .int .u64 kb, .string ks, .slice Aq lq cq]) (by simp [results, Tryz.results48, go_sem, c0, c1, c2, c3, c4, c5]) rfl ⟨⟨kk, kn, .slice Ak lk ck, kb, ks, .slice Aq lq cq⟩, rfl, ?_, low6 HB1.out w.heap.size (Nat.le_refl _) _ _ _ _ _ _⟩
  exact HVB.lower (HVQ.set6 HX.out (Nat.zero_le _) (Nat.lt_of_lt_of_le HL0.out HSZ.out) _ _ _ _ _ _) (Nat.le_of_lt (Nat.lt_of_lt_of_le HL0.out HSZ.out))

theorem tl_tup {d n c : Nat} {t : Tr} {A : Option Addr} {ys : List Value} {S : Nat → Prop} {w : World} (g : GoodH t) (hk : t.k = 7) (hnt : t.kids.length = n) (hl : ys.length = n) (hr : Rd w S A ys) (hS : ∀ k, S k → k < w.heap.size) (hone : ∀ y ∈ ys, ∃ T x, y = .iface T x) (IH : ∀ (i : Nat) (u : Tr) (y : Value) (W : World), t.kids[i]? = some u → ys[i]? = some y → Below w.heap.size w W → Calls Tryz.prog 48 #[y] W (TellOut d u W)) : Calls Tryz.prog 48 #[.iface 101 (.slice A n c)] w (TellOut (d + 1) t w) := by
  have t0 : ∀ W : World, (Instr.typeAssert (.iface 101 (.slice A n c)) 64 145 true).run Tryz.prog W = .ok (.tuple #[.int .u8 0, .bool false]) W := fun W => by kernel_rfl
  have t1 : ∀ W : World, (Instr.typeAssert (.iface 101 (.slice A n c)) 64 146 true).run Tryz.prog W = .ok (.tuple #[.bool false, .bool false]) W := fun W => by kernel_rfl
  have t2 : ∀ W : World, (Instr.typeAssert (.iface 101 (.slice A n c)) 64 117 true).run Tryz.prog W = .ok (.tuple #[.agg #[.int .i64 0, .pointer none], .bool false]) W := fun W => by kernel_rfl
  have t3 : ∀ W : World, (Instr.typeAssert (.iface 101 (.slice A n c)) 64 147 true).run Tryz.prog W = .ok (.tuple #[.float .f64 0, .bool false]) W := fun W => by kernel_rfl
  have t4 : ∀ W : World, (Instr.typeAssert (.iface 101 (.slice A n c)) 64 149 true).run Tryz.prog W = .ok (.tuple #[.string ⟨#[]⟩, .bool false]) W := fun W => by kernel_rfl
  have t5 : ∀ W : World, (Instr.typeAssert (.iface 101 (.slice A n c)) 64 150 true).run Tryz.prog W = .ok (.tuple #[.string ⟨#[]⟩, .bool false]) W := fun W => by kernel_rfl
  have t6 : ∀ W : World, (Instr.typeAssert (.iface 101 (.slice A n c)) 64 99 true).run Tryz.prog W = .ok (.tuple #[.pointer none, .bool false]) W := fun W => by kernel_rfl
  have t7 : ∀ W : World, (Instr.typeAssert (.iface 101 (.slice A n c)) 64 101 true).run Tryz.prog W = .ok (.tuple #[.slice A n c, .bool true]) W := fun W => by kernel_rfl
  have HG := Lib.hid g
  have HK := Lib.hid hk
  have HN := Lib.hid hnt
  have HIH := Lib.hid IH
  have HCC := Lib.hid (fun (W0 : World) (h1 : Below w.heap.size w W0) => tellAll_any d n (c := c) (w := W0) (by have := g.kl; omega) hnt hl (hr.keep (still_below h1 hS)) (fun k hk => Nat.lt_of_lt_of_le (hS k hk) h1.size) hone (fun i u y W hu hy hW => IH i u y W hu hy (below_up h1 hW)))
  clear g hk hnt hl hr hS hone IH
  go_enter Tryz.func48, Tryz.ntmps48
  go_upto_region 1 with fail
  generalize hw0 : w.alloc (.cells #[.int .i64 0, .bool false, .slice none 0 0, .int .u64 0, .string { data := #[] }, .slice none 0 0] 26) = w0
  have hrow : Blk w0 w.heap.size 26 valZ0 := by rw [← hw0]; exact Blk.new w _ _
  have HH : Hid (Below w.heap.size w w0) := Lib.hid (by rw [← hw0]; exact below_al (Below.refl _ _) _)
  have HL0 : Hid (w.heap.size < w0.heap.size) := Lib.hid hrow.lt
  clear hw0
  have HR := Lib.hid hrow
  clear hrow
  have HC := Lib.hid (HCC.out w0 HH.out)
  have hb01 := Lib.hid (Below.refl w0.heap.size w0)
  have HLT := HL0
  clear HCC
  go_wp2_with fail
  refine HC.out.mono ?_
  rintro e w2 ⟨A2, c2', rfl, hta⟩
  have hrow := HR.out.below (hb01.out.trans (hta.low.mono hb01.out.size)) HL0.out
  have c0 := hrow.cell 0
  have c1 := hrow.cell 1
  have c2 := hrow.cell 2
  have c3 := hrow.cell 3
  have c4 := hrow.cell 4
  have c5 := hrow.cell 5
  have f0 := hrow.frozen 0
  have f1 := hrow.frozen 1
  have f2 := hrow.frozen 2
  have f3 := hrow.frozen 3
  have f4 := hrow.frozen 4
  have f5 := hrow.frozen 5
  have rl := hrow.lt
  simp at c0 c1 c2 c3 c4 c5
  have HX := Lib.hid (hta.val HN.out HG.out (by rw [HK.out]; decide))
  have HB1 := Lib.hid ((HH.out.trans (hb01.out.mono HH.out.size)).trans (hta.low.mono (Nat.le_trans HH.out.size hb01.out.size)))
  rw [HK.out] at HX
  clear hta hrow
  go_wp2
  refine bodyPost_ret (v := .agg #[.int .i64 7, .bool false, .slice none 0 0, .int .u64 0, .string ⟨#[]⟩, .slice A2 n c2']) (by simp [results, Tryz.results48, go_sem, c0, c1, c2, c3, c4, c5]) rfl ⟨⟨7, false, .slice none 0 0, 0, ⟨#[]⟩, .slice A2 n c2'⟩, rfl, ?_, low6 HB1.out w.heap.size (Nat.le_refl _) _ _ _ _ _ _⟩
  exact HVB.lower (HVQ.set6 HX.out (Nat.zero_le _) HLT.out _ _ _ _ _ _) (Nat.le_of_lt HLT.out)

theorem tl_list {d n c q : Nat} {t : Tr} {A : Option Addr} {u2 : Value} {ys : List Value} {S : Nat → Prop} {w : World} (g : GoodH t) (hk : t.k = 6) (hnt : t.kids.length = n) (hl : ys.length = n) (hB : Blk w q 158 #[.slice A n c, .bool true, u2]) (hr : Rd w S A ys) (hS : ∀ k, S k → k < w.heap.size) (hone : ∀ y ∈ ys, ∃ T x, y = .iface T x) (IH : ∀ (i : Nat) (u : Tr) (y : Value) (W : World), t.kids[i]? = some u → ys[i]? = some y → Below w.heap.size w W → Calls Tryz.prog 48 #[y] W (TellOut d u W)) : Calls Tryz.prog 48 #[.iface 99 (.pointer (some ⟨q, 0, none⟩))] w (TellOut (d + 1) t w) := by
  have t0 : ∀ W : World, (Instr.typeAssert (.iface 99 (.pointer (some ⟨q, 0, none⟩))) 64 145 true).run Tryz.prog W = .ok (.tuple #[.int .u8 0, .bool false]) W := fun W => by kernel_rfl
  have t1 : ∀ W : World, (Instr.typeAssert (.iface 99 (.pointer (some ⟨q, 0, none⟩))) 64 146 true).run Tryz.prog W = .ok (.tuple #[.bool false, .bool false]) W := fun W => by kernel_rfl
  have t2 : ∀ W : World, (Instr.typeAssert (.iface 99 (.pointer (some ⟨q, 0, none⟩))) 64 117 true).run Tryz.prog W = .ok (.tuple #[.agg #[.int .i64 0, .pointer none], .bool false]) W := fun W => by kernel_rfl
  have t3 : ∀ W : World, (Instr.typeAssert (.iface 99 (.pointer (some ⟨q, 0, none⟩))) 64 147 true).run Tryz.prog W = .ok (.tuple #[.float .f64 0, .bool false]) W := fun W => by kernel_rfl
  have t4 : ∀ W : World, (Instr.typeAssert (.iface 99 (.pointer (some ⟨q, 0, none⟩))) 64 149 true).run Tryz.prog W = .ok (.tuple #[.string ⟨#[]⟩, .bool false]) W := fun W => by kernel_rfl
  have t5 : ∀ W : World, (Instr.typeAssert (.iface 99 (.pointer (some ⟨q, 0, none⟩))) 64 150 true).run Tryz.prog W = .ok (.tuple #[.string ⟨#[]⟩, .bool false]) W := fun W => by kernel_rfl
  have t6 : ∀ W : World, (Instr.typeAssert (.iface 99 (.pointer (some ⟨q, 0, none⟩))) 64 99 true).run Tryz.prog W = .ok (.tuple #[.pointer (some ⟨q, 0, none⟩), .bool true]) W := fun W => by kernel_rfl
  have HG := Lib.hid g
  have HK := Lib.hid hk
  have HN := Lib.hid hnt
  have HIH := Lib.hid IH
  have HLI := Lib.hid (fun (W0 : World) (h1 : Below w.heap.size w W0) => listIter q W0 (by rw [(hB.below h1 hB.lt).cell]; rfl))
  have HGO := Lib.hid (fun (W0 : World) (h1 : Below w.heap.size w W0) => goneList q n c A u2 S ys hl (by have := g.kl; omega) hone W0 (hB.below h1 hB.lt) (hr.keep (still_below h1 hS)) (fun k hk => Nat.lt_of_lt_of_le (hS k hk) h1.size))
  have HTA := Lib.hid (fun (W0 : World) (h1 : Below w.heap.size w W0) (A' : Option Addr) (c' : Nat) (W : World) (hW : Below W0.heap.size W0 W) (hrd : Rd W (fun k => k < W.heap.size) A' ys) => tellAll_any d n (c := c') (w := W) (by first | omega | (have := g.kl; omega)) hnt hl hrd (fun k hk => hk) hone (fun i u y W' hu hy hW' => IH i u y W' hu hy (below_up (below_up h1 hW) hW')))
  clear g hk hnt hl hr hS hone IH hB
  go_enter Tryz.func48, Tryz.ntmps48
  go_upto_region 1 with fail
  generalize hw0 : w.alloc (.cells #[.int .i64 0, .bool false, .slice none 0 0, .int .u64 0, .string { data := #[] }, .slice none 0 0] 26) = w0
  have hrow : Blk w0 w.heap.size 26 valZ0 := by rw [← hw0]; exact Blk.new w _ _
  have HH : Hid (Below w.heap.size w w0) := Lib.hid (by rw [← hw0]; exact below_al (Below.refl _ _) _)
  have HL0 : Hid (w.heap.size < w0.heap.size) := Lib.hid hrow.lt
  clear hw0
  have HR := Lib.hid hrow
  clear hrow
  have HLI1 := Lib.hid (HLI.out w0 HH.out)
  have HGO1 := Lib.hid (HGO.out w0 HH.out)
  clear HLI HGO
  go_wp2_with fail
  refine HLI1.out.mono ?_
  rintro e w1 ⟨rfl, rfl⟩
  go_wp2_with fail
  refine HGO1.out.mono ?_
  rintro e w1 ⟨A1, c1', rfl, hb1, hr1⟩
  have hb01 := Lib.hid hb1
  have HC := Lib.hid (HTA.out w0 HH.out A1 c1' w1 hb1 hr1)
  have HLT : Hid (w.heap.size < w1.heap.size) := Lib.hid (Nat.lt_of_lt_of_le HL0.out hb1.size)
  clear hb1 hr1 HLI1 HGO1 HTA
  go_wp2_with fail
  refine HC.out.mono ?_
  rintro e w2 ⟨A2, c2', rfl, hta⟩
  have hrow := HR.out.below (hb01.out.trans (hta.low.mono hb01.out.size)) HL0.out
  have c0 := hrow.cell 0
  have c1 := hrow.cell 1
  have c2 := hrow.cell 2
  have c3 := hrow.cell 3
  have c4 := hrow.cell 4
  have c5 := hrow.cell 5
  have f0 := hrow.frozen 0
  have f1 := hrow.frozen 1
  have f2 := hrow.frozen 2
  have f3 := hrow.frozen 3
  have f4 := hrow.frozen 4
  have f5 := hrow.frozen 5
  have rl := hrow.lt
  simp at c0 c1 c2 c3 c4 c5
  have HX := Lib.hid (hta.val HN.out HG.out (by rw [HK.out]; decide))
  have HB1 := Lib.hid ((HH.out.trans (hb01.out.mono HH.out.size)).trans (hta.low.mono (Nat.le_trans HH.out.size hb01.out.size)))
  rw [HK.out] at HX
  clear hta hrow
  go_wp2
  refine bodyPost_ret (v := .agg #[.int .i64 6, .bool false, .slice none 0 0, .int .u64 0, .string ⟨#[]⟩, .slice A2 n c2']) (by simp [results, Tryz.results48, go_sem, c0, c1, c2, c3, c4, c5]) rfl ⟨⟨6, false, .slice none 0 0, 0, ⟨#[]⟩, .slice A2 n c2'⟩, rfl, ?_, low6 HB1.out w.heap.size (Nat.le_refl _) _ _ _ _ _ _⟩
  exact HVB.lower (HVQ.set6 HX.out (Nat.zero_le _) HLT.out _ _ _ _ _ _) (Nat.le_of_lt HLT.out)

theorem tl_dict {d n m q : Nat} {t : Tr} {es : List En} {ys : List Value} {w : World} (g : GoodH t) (hk : t.k = 8) (hnt : t.kids.length = n) (hn2 : 2 * m = n) (hm8 : m ≤ 8) (hes : es.length = m) (hys : ys = flatE es) (hB : Blk w q 174 (htC q es true).toArray) (hone : ∀ e ∈ es, (∃ T x, e.k = .iface T x) ∧ ∃ T x, e.v = .iface T x) (hone2 : ∀ y ∈ ys, ∃ T x, y = .iface T x) (IH : ∀ (i : Nat) (u : Tr) (y : Value) (W : World), t.kids[i]? = some u → ys[i]? = some y → Below w.heap.size w W → Calls Tryz.prog 48 #[y] W (TellOut d u W)) : Calls Tryz.prog 48 #[.iface 102 (.pointer (some ⟨q, 0, none⟩))] w (TellOut (d + 1) t w) := by
  have t0 : ∀ W : World, (Instr.typeAssert (.iface 102 (.pointer (some ⟨q, 0, none⟩))) 64 145 true).run Tryz.prog W = .ok (.tuple #[.int .u8 0, .bool false]) W := fun W => by kernel_rfl
  have t1 : ∀ W : World, (Instr.typeAssert (.iface 102 (.pointer (some ⟨q, 0, none⟩))) 64 146 true).run Tryz.prog W = .ok (.tuple #[.bool false, .bool false]) W := fun W => by kernel_rfl
  have t2 : ∀ W : World, (Instr.typeAssert (.iface 102 (.pointer (some ⟨q, 0, none⟩))) 64 117 true).run Tryz.prog W = .ok (.tuple #[.agg #[.int .i64 0, .pointer none], .bool false]) W := fun W => by kernel_rfl
  have t3 : ∀ W : World, (Instr.typeAssert (.iface 102 (.pointer (some ⟨q, 0, none⟩))) 64 147 true).run Tryz.prog W = .ok (.tuple #[.float .f64 0, .bool false]) W := fun W => by kernel_rfl
  have t4 : ∀ W : World, (Instr.typeAssert (.iface 102 (.pointer (some ⟨q, 0, none⟩))) 64 149 true).run Tryz.prog W = .ok (.tuple #[.string ⟨#[]⟩, .bool false]) W := fun W => by kernel_rfl
  have t5 : ∀ W : World, (Instr.typeAssert (.iface 102 (.pointer (some ⟨q, 0, none⟩))) 64 150 true).run Tryz.prog W = .ok (.tuple #[.string ⟨#[]⟩, .bool false]) W := fun W => by kernel_rfl
  have t6 : ∀ W : World, (Instr.typeAssert (.iface 102 (.pointer (some ⟨q, 0, none⟩))) 64 99 true).run Tryz.prog W = .ok (.tuple #[.pointer none, .bool false]) W := fun W => by kernel_rfl
  have t7 : ∀ W : World, (Instr.typeAssert (.iface 102 (.pointer (some ⟨q, 0, none⟩))) 64 101 true).run Tryz.prog W = .ok (.tuple #[.slice none 0 0, .bool false]) W := fun W => by kernel_rfl
  have t8 : ∀ W : World, (Instr.typeAssert (.iface 102 (.pointer (some ⟨q, 0, none⟩))) 64 102 true).run Tryz.prog W = .ok (.tuple #[.pointer (some ⟨q, 0, none⟩), .bool true]) W := fun W => by kernel_rfl
  have HG := Lib.hid g
  have HK := Lib.hid hk
  have HN := Lib.hid hnt
  have HIH := Lib.hid IH
  have HGO := Lib.hid (fun (W0 : World) (h1 : Below w.heap.size w W0) => paired_any q es true m hm8 hes W0 (hB.below h1 hB.lt) hone)
  have HYS := Lib.hid hys
  have HTA := Lib.hid (fun (W0 : World) (h1 : Below w.heap.size w W0) (A' : Option Addr) (c' : Nat) (W : World) (hW : Below W0.heap.size W0 W) (hrd : Rd W (fun k => k < W.heap.size) A' ys) => tellAll_any d n (c := c') (w := W) (by first | omega | (have := g.kl; omega)) hnt (by rw [hys, flatE_len]; omega) hrd (fun k hk => hk) hone2 (fun i u y W' hu hy hW' => IH i u y W' hu hy (below_up (below_up h1 hW) hW')))
  rw [hn2] at HGO
  clear g hk hnt hone hone2 hys IH hB hes hn2 hm8
  go_enter Tryz.func48, Tryz.ntmps48
  go_upto_region 1 with fail
  generalize hw0 : w.alloc (.cells #[.int .i64 0, .bool false, .slice none 0 0, .int .u64 0, .string { data := #[] }, .slice none 0 0] 26) = w0
  have hrow : Blk w0 w.heap.size 26 valZ0 := by rw [← hw0]; exact Blk.new w _ _
  have HH : Hid (Below w.heap.size w w0) := Lib.hid (by rw [← hw0]; exact below_al (Below.refl _ _) _)
  have HL0 : Hid (w.heap.size < w0.heap.size) := Lib.hid hrow.lt
  clear hw0
  have HR := Lib.hid hrow
  clear hrow
  have HGO1 := Lib.hid (HGO.out w0 HH.out)
  clear HGO
  go_wp2_with fail
  refine HGO1.out.mono ?_
  rintro e w1 ⟨A1, c1', rfl, hpr⟩
  have hb1 := hpr.low
  have hr1 : Rd w1 (fun k => k < w1.heap.size) A1 ys := by
    obtain ⟨A', c', e1, _, h2, _⟩ := own_rd hpr.row
    injection e1 with e1
    subst e1
    rw [HYS.out]
    exact h2.mono (fun k hk => hk.2)
  have hb01 := Lib.hid hb1
  have HC := Lib.hid (HTA.out w0 HH.out A1 c1' w1 hb1 hr1)
  have HLT : Hid (w.heap.size < w1.heap.size) := Lib.hid (Nat.lt_of_lt_of_le HL0.out hb1.size)
  clear hb1 hr1 hpr HGO1 HTA
  go_wp2_with fail
  refine HC.out.mono ?_
  rintro e w2 ⟨A2, c2', rfl, hta⟩
  have hrow := HR.out.below (hb01.out.trans (hta.low.mono hb01.out.size)) HL0.out
  have c0 := hrow.cell 0
  have c1 := hrow.cell 1
  have c2 := hrow.cell 2
  have c3 := hrow.cell 3
  have c4 := hrow.cell 4
  have c5 := hrow.cell 5
  have f0 := hrow.frozen 0
  have f1 := hrow.frozen 1
  have f2 := hrow.frozen 2
  have f3 := hrow.frozen 3
  have f4 := hrow.frozen 4
  have f5 := hrow.frozen 5
  have rl := hrow.lt
  simp at c0 c1 c2 c3 c4 c5
  have HX := Lib.hid (hta.val HN.out HG.out (by rw [HK.out]; decide))
  have HB1 := Lib.hid ((HH.out.trans (hb01.out.mono HH.out.size)).trans (hta.low.mono (Nat.le_trans HH.out.size hb01.out.size)))
  rw [HK.out] at HX
  clear hta hrow
  go_wp2
  refine bodyPost_ret (v := .agg #[.int .i64 8, .bool false, .slice none 0 0, .int .u64 0, .string ⟨#[]⟩, .slice A2 n c2']) (by simp [results, Tryz.results48, go_sem, c0, c1, c2, c3, c4, c5]) rfl ⟨⟨8, false, .slice none 0 0, 0, ⟨#[]⟩, .slice A2 n c2'⟩, rfl, ?_, low6 HB1.out w.heap.size (Nat.le_refl _) _ _ _ _ _ _⟩
  exact HVB.lower (HVQ.set6 HX.out (Nat.zero_le _) HLT.out _ _ _ _ _ _) (Nat.le_of_lt HLT.out)

theorem tl_set {d n q : Nat} {t : Tr} {es : List En} {ys : List Value} {w : World} (g : GoodH t) (hk : t.k = 9) (hnt : t.kids.length = n) (hn8 : n ≤ 8) (hes : es.length = n) (hys : es.map En.k = ys) (hB : Blk w q 175 (htC q es true).toArray) (hone : ∀ e ∈ es, ∃ T x, e.k = .iface T x) (hone2 : ∀ y ∈ ys, ∃ T x, y = .iface T x) (IH : ∀ (i : Nat) (u : Tr) (y : Value) (W : World), t.kids[i]? = some u → ys[i]? = some y → Below w.heap.size w W → Calls Tryz.prog 48 #[y] W (TellOut d u W)) : Calls Tryz.prog 48 #[.iface 105 (.pointer (some ⟨q, 0, none⟩))] w (TellOut (d + 1) t w) := by
  have t0 : ∀ W : World, (Instr.typeAssert (.iface 105 (.pointer (some ⟨q, 0, none⟩))) 64 145 true).run Tryz.prog W = .ok (.tuple #[.int .u8 0, .bool false]) W := fun W => by kernel_rfl
  have t1 : ∀ W : World, (Instr.typeAssert (.iface 105 (.pointer (some ⟨q, 0, none⟩))) 64 146 true).run Tryz.prog W = .ok (.tuple #[.bool false, .bool false]) W := fun W => by kernel_rfl
  have t2 : ∀ W : World, (Instr.typeAssert (.iface 105 (.pointer (some ⟨q, 0, none⟩))) 64 117 true).run Tryz.prog W = .ok (.tuple #[.agg #[.int .i64 0, .pointer none], .bool false]) W := fun W => by kernel_rfl
  have t3 : ∀ W : World, (Instr.typeAssert (.iface 105 (.pointer (some ⟨q, 0, none⟩))) 64 147 true).run Tryz.prog W = .ok (.tuple #[.float .f64 0, .bool false]) W := fun W => by kernel_rfl
  have t4 : ∀ W : World, (Instr.typeAssert (.iface 105 (.pointer (some ⟨q, 0, none⟩))) 64 149 true).run Tryz.prog W = .ok (.tuple #[.string ⟨#[]⟩, .bool false]) W := fun W => by kernel_rfl
  have t5 : ∀ W : World, (Instr.typeAssert (.iface 105 (.pointer (some ⟨q, 0, none⟩))) 64 150 true).run Tryz.prog W = .ok (.tuple #[.string ⟨#[]⟩, .bool false]) W := fun W => by kernel_rfl
  have t6 : ∀ W : World, (Instr.typeAssert (.iface 105 (.pointer (some ⟨q, 0, none⟩))) 64 99 true).run Tryz.prog W = .ok (.tuple #[.pointer none, .bool false]) W := fun W => by kernel_rfl
  have t7 : ∀ W : World, (Instr.typeAssert (.iface 105 (.pointer (some ⟨q, 0, none⟩))) 64 101 true).run Tryz.prog W = .ok (.tuple #[.slice none 0 0, .bool false]) W := fun W => by kernel_rfl
  have t8 : ∀ W : World, (Instr.typeAssert (.iface 105 (.pointer (some ⟨q, 0, none⟩))) 64 102 true).run Tryz.prog W = .ok (.tuple #[.pointer none, .bool false]) W := fun W => by kernel_rfl
  have t9 : ∀ W : World, (Instr.typeAssert (.iface 105 (.pointer (some ⟨q, 0, none⟩))) 64 105 true).run Tryz.prog W = .ok (.tuple #[.pointer (some ⟨q, 0, none⟩), .bool true]) W := fun W => by kernel_rfl
  have HG := Lib.hid g
  have HK := Lib.hid hk
  have HN := Lib.hid hnt
  have HIH := Lib.hid IH
  obtain ⟨nx, hnx⟩ : ∃ nx, ptE q n 0 = .pointer nx := ⟨_, rfl⟩
  have HLI := Lib.hid (fun (W0 : World) (h1 : Below w.heap.size w W0) => setIter q nx W0 (htC_head (hB.below h1 hB.lt)).2 (by have := (htC_head (hB.below h1 hB.lt)).1; rw [hes, hnx] at this; exact this))
  have HGO : Hid (∀ (W0 : World), Below w.heap.size w W0 → Calls Tryz.prog 75 #[.iface 197 (.pointer (some ⟨W0.heap.size, 0, none⟩))] (W0.alloc (.cells #[.pointer (some ⟨q, 0, none⟩), .pointer nx] 245)) (GoneOut ys n W0)) := Lib.hid (fun W0 h1 => by
    have := goneSet q n es hes hn8 hone W0 (hB.below h1 hB.lt)
    rw [hnx, hys] at this
    exact this)
  have HTA := Lib.hid (fun (W0 : World) (h1 : Below w.heap.size w W0) (A' : Option Addr) (c' : Nat) (W : World) (hW : Below W0.heap.size W0 W) (hrd : Rd W (fun k => k < W.heap.size) A' ys) => tellAll_any d n (c := c') (w := W) (by first | omega | (have := g.kl; omega)) hnt (by rw [← hys, List.length_map]; omega) hrd (fun k hk => hk) hone2 (fun i u y W' hu hy hW' => IH i u y W' hu hy (below_up (below_up h1 hW) hW')))
  clear g hk hnt hone hone2 hys IH hB hes hnx
  go_enter Tryz.func48, Tryz.ntmps48
  go_upto_region 1 with fail
  generalize hw0 : w.alloc (.cells #[.int .i64 0, .bool false, .slice none 0 0, .int .u64 0, .string { data := #[] }, .slice none 0 0] 26) = w0
  have hrow : Blk w0 w.heap.size 26 valZ0 := by rw [← hw0]; exact Blk.new w _ _
  have HH : Hid (Below w.heap.size w w0) := Lib.hid (by rw [← hw0]; exact below_al (Below.refl _ _) _)
  have HL0 : Hid (w.heap.size < w0.heap.size) := Lib.hid hrow.lt
  clear hw0
  have HR := Lib.hid hrow
  clear hrow
  have HLI1 := Lib.hid (HLI.out w0 HH.out)
  have HGO1 := Lib.hid (HGO.out w0 HH.out)
  clear HLI HGO
  go_wp2_with fail
  refine HLI1.out.mono ?_
  rintro e w1 ⟨rfl, rfl⟩
  go_wp2_with fail
  refine HGO1.out.mono ?_
  rintro e w1 ⟨A1, c1', rfl, hb1, hr1⟩
  have hb01 := Lib.hid hb1
  have HC := Lib.hid (HTA.out w0 HH.out A1 c1' w1 hb1 hr1)
  have HLT : Hid (w.heap.size < w1.heap.size) := Lib.hid (Nat.lt_of_lt_of_le HL0.out hb1.size)
  clear hb1 hr1 HLI1 HGO1 HTA
  go_wp2_with fail
  refine HC.out.mono ?_
  rintro e w2 ⟨A2, c2', rfl, hta⟩
  have hrow := HR.out.below (hb01.out.trans (hta.low.mono hb01.out.size)) HL0.out
  have c0 := hrow.cell 0
  have c1 := hrow.cell 1
  have c2 := hrow.cell 2
  have c3 := hrow.cell 3
  have c4 := hrow.cell 4
  have c5 := hrow.cell 5
  have f0 := hrow.frozen 0
  have f1 := hrow.frozen 1
  have f2 := hrow.frozen 2
  have f3 := hrow.frozen 3
  have f4 := hrow.frozen 4
  have f5 := hrow.frozen 5
  have rl := hrow.lt
  simp at c0 c1 c2 c3 c4 c5
  have HX := Lib.hid (hta.val HN.out HG.out (by rw [HK.out]; decide))
  have HB1 := Lib.hid ((HH.out.trans (hb01.out.mono HH.out.size)).trans (hta.low.mono (Nat.le_trans HH.out.size hb01.out.size)))
  rw [HK.out] at HX
  clear hta hrow
  go_wp2
  refine bodyPost_ret (v := .agg #[.int .i64 9, .bool false, .slice none 0 0, .int .u64 0, .string ⟨#[]⟩, .slice A2 n c2']) (by simp [results, Tryz.results48, go_sem, c0, c1, c2, c3, c4, c5]) rfl ⟨⟨9, false, .slice none 0 0, 0, ⟨#[]⟩, .slice A2 n c2'⟩, rfl, ?_, low6 HB1.out w.heap.size (Nat.le_refl _) _ _ _ _ _ _⟩
  exact HVB.lower (HVQ.set6 HX.out (Nat.zero_le _) HLT.out _ _ _ _ _ _) (Nat.le_of_lt HLT.out)

end Go.Proofs.YtloloifngbmibaaGreatDoor
