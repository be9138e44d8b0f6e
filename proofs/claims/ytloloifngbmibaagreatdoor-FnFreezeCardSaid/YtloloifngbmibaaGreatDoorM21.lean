/- Comparing values of one type: bools, strings, bytes. The reference's Clean: values without kids. The reference's Clean: bools, ints. The reference's Clean: ints. -/
import Derived.Test.YtloloifngbmibaaGreatDoorM20
import Derived.Test.YtloloifngbmibaaGreatDoorM19
set_option linter.unusedVariables false
set_option linter.unusedSimpArgs false
set_option maxRecDepth 4000
namespace Go.Proofs.YtloloifngbmibaaGreatDoor
open Go.RowKit

/-- What a comparison for equality hands back: if it says so, P. -/
def CmpOut (P : Prop) (w : World) (e : Ending) (w' : World) : Prop := ∃ r : Bool, e = .returned (.tuple #[.bool r, .nilIface]) ∧ (r = true → P) ∧ Below w.heap.size w w'
theorem CmpOut.mk' {P : Prop} {w w' : World} {r : Bool} (hp : r = true → P) (h : Below w.heap.size w w') : CmpOut P w (.returned (.tuple #[.bool r, .nilIface])) w' := ⟨r, rfl, hp, h⟩

theorem three37 (c : Int) (w : World) : Calls Tryz.prog 152 #[.int .i8 37, .int .i64 c] w fun e w' => ∃ r : Bool, e = .returned (.bool r) ∧ (r = true → c = 0) ∧ w' = w := by
  by_cases h : c = 0
  · subst h
    go_enter Tryz.func152, Tryz.ntmps152
    go_wp2
    go_ret
    exact ⟨true, rfl, fun _ => trivial, rfl⟩
  · have h0 := beq_no h
    clear h
    go_enter Tryz.func152, Tryz.ntmps152
    go_wp2
    go_ret
    exact ⟨false, rfl, (fun h => nomatch h), rfl⟩
theorem b2i_any (b : Bool) (w : World) : Calls Tryz.prog 320 #[.bool b] w fun e w' => e = .returned (.int .i64 (if b then 1 else 0)) ∧ w' = w := by
  cases b
  all_goals
    go_enter Tryz.func320, Tryz.ntmps320
    go_wp2
    go_ret
    exact ⟨rfl, rfl⟩

theorem cmpBytes_eq : ∀ (a b : List UInt8), Lib.compareBytes a b = 0 → a = b
  | [], [], _ => rfl
  | [], _ :: _, h => by simp [Lib.compareBytes] at h
  | _ :: _, [], h => by simp [Lib.compareBytes] at h
  | a :: l, b :: m, h => by
    unfold Lib.compareBytes at h
    by_cases h1 : a < b
    · rw [if_pos h1] at h
      exact absurd h (by decide)
    · rw [if_neg h1] at h
      by_cases h2 : b < a
      · rw [if_pos h2] at h
        exact absurd h (by decide)
      · rw [if_neg h2] at h
        rw [cmpBytes_eq l m h, UInt8.le_antisymm (UInt8.not_lt.1 h2) (UInt8.not_lt.1 h1)]

theorem cstBool (a b : Bool) (d : Int) (w : World) : Calls Tryz.prog 314 #[.bool a, .int .i8 37, .iface 146 (.bool b), .int .i64 d] w (CmpOut (a = b) w) := by
  have has : ∀ (W : World) (v : Value), (Instr.typeAssert (.iface 146 v) 64 146 false).run Tryz.prog W = .ok v W := fun _ _ => by kernel_rfl
  have H1 := Lib.hid (fun w => b2i_any a w)
  have H2 := Lib.hid (fun w => b2i_any b w)
  have HE : Hid ((if a then (1 : Int) else 0) - (if b then 1 else 0) = 0 → a = b) := Lib.hid (by cases a <;> cases b <;> simp)
  obtain ⟨x, hx⟩ : ∃ x : Int, x = if a then 1 else 0 := ⟨_, rfl⟩
  obtain ⟨y, hy⟩ : ∃ y : Int, y = if b then 1 else 0 := ⟨_, rfl⟩
  have hxy : IntKind.i64.wrap (x - y) = x - y := by rw [IntKind.wrap_i64, hx, hy]; split <;> split <;> omega
  rw [← hx] at H1 HE
  rw [← hy] at H2 HE
  have H3 := Lib.hid (fun w => three37 (x - y) w)
  clear hx hy
  go_enter Tryz.func314, Tryz.ntmps314
  go_wp2_with fail
  refine (H1.out _).mono ?_
  rintro e w1 ⟨rfl, rfl⟩
  go_wp2_with fail
  refine (H2.out _).mono ?_
  rintro e w1 ⟨rfl, rfl⟩
  go_wp2_with fail
  refine (H3.out _).mono ?_
  rintro e w1 ⟨r, rfl, hr, rfl⟩
  have HR : Hid (r = true → a = b) := Lib.hid fun h => HE.out (hr h)
  clear hr
  go_wp2
  go_ret2
  exact CmpOut.mk' HR.out (Below.refl _ _)

theorem cstStr (a b : ByteArray) (d : Int) (w : World) : Calls Tryz.prog 332 #[.string a, .int .i8 37, .iface 149 (.string b), .int .i64 d] w (CmpOut (a = b) w) := by
  have has : ∀ (W : World) (v : Value), (Instr.typeAssert (.iface 149 v) 64 149 false).run Tryz.prog W = .ok v W := fun _ _ => by kernel_rfl
  have H1 := Lib.hid (fun w => Tryz.strings_Compare a b w)
  have HE : Hid (Lib.compareBytes a.data.toList b.data.toList = 0 → a = b) := Lib.hid fun h => by
    have h1 := cmpBytes_eq _ _ h
    have h2 : a.data = b.data := Array.toList_inj.1 h1
    cases a
    cases b
    exact congrArg _ h2
  generalize Lib.compareBytes a.data.toList b.data.toList = x at H1 HE
  have H3 := Lib.hid (fun w => three37 x w)
  go_enter Tryz.func332, Tryz.ntmps332
  go_wp2_with fail
  refine (H1.out _).mono ?_
  rintro e w1 ⟨rfl, rfl⟩
  go_wp2_with fail
  refine (H3.out _).mono ?_
  rintro e w1 ⟨r, rfl, hr, rfl⟩
  have HR : Hid (r = true → a = b) := Lib.hid fun h => HE.out (hr h)
  clear hr
  go_wp2
  go_ret2
  exact CmpOut.mk' HR.out (Below.refl _ _)

theorem cstByt (a b : ByteArray) (d : Int) (w : World) : Calls Tryz.prog 343 #[.string a, .int .i8 37, .iface 150 (.string b), .int .i64 d] w (CmpOut (a = b) w) := by
  have has : ∀ (W : World) (v : Value), (Instr.typeAssert (.iface 150 v) 64 150 false).run Tryz.prog W = .ok v W := fun _ _ => by kernel_rfl
  have H1 := Lib.hid (fun w => Tryz.strings_Compare a b w)
  have HE : Hid (Lib.compareBytes a.data.toList b.data.toList = 0 → a = b) := Lib.hid fun h => by
    have h1 := cmpBytes_eq _ _ h
    have h2 : a.data = b.data := Array.toList_inj.1 h1
    cases a
    cases b
    exact congrArg _ h2
  generalize Lib.compareBytes a.data.toList b.data.toList = x at H1 HE
  have H3 := Lib.hid (fun w => three37 x w)
  go_enter Tryz.func343, Tryz.ntmps343
  go_wp2_with fail
  refine (H1.out _).mono ?_
  rintro e w1 ⟨rfl, rfl⟩
  go_wp2_with fail
  refine (H3.out _).mono ?_
  rintro e w1 ⟨r, rfl, hr, rfl⟩
  have HR : Hid (r = true → a = b) := Lib.hid fun h => HE.out (hr h)
  clear hr
  go_wp2
  go_ret2
  exact CmpOut.mk' HR.out (Below.refl _ _)
end Go.Proofs.YtloloifngbmibaaGreatDoor
set_option linter.unusedVariables false
set_option linter.unusedSimpArgs false
set_option maxRecDepth 4000
namespace Go.Proofs.YtloloifngbmibaaGreatDoor
open Go.RowKit

/-- The kind as Clean reckons it. -/
def kd (k : Int) : Int := (wrap64 (k.tmod 10 + 10)).tmod 10
theorem kd_bd (k : Int) : 0 ≤ kd k ∧ kd k ≤ 9 := by
  have h1 := Int.tmod_lt_of_pos k (show (0 : Int) < 10 by decide)
  have h2 := Int.lt_tmod_of_pos k (show (0 : Int) < 10 by decide)
  generalize hx : k.tmod 10 = x at h1 h2
  have e : wrap64 (x + 10) = x + 10 := by unfold wrap64; omega
  unfold kd
  rw [hx, e, Int.tmod_eq_emod_of_nonneg (by omega)]
  omega

theorem cln0 (k : Int) (n : Bool) (Am Aq : Option Addr) (nm cm nq cq : Nat) (b : Int) (s : ByteArray) (dp J : Int) (e : kd k = J) (hp : J = 0 ∨ (J = 6 ∧ dp ≤ 0))  (w : World) :
    Calls Tryz.prog 16 #[.agg #[.int .i64 k, .bool n, .slice Am nm cm, .int .u64 b, .string s, .slice Aq nq cq], .int .i64 dp] w fun e w' => e = .returned (.agg #[.int .i64 0, .bool false, .slice none 0 0, .int .u64 0, .string ⟨#[]⟩, .slice none 0 0]) ∧ Below w.heap.size w w' := by
  rcases hp with rfl | ⟨rfl, hd⟩
  · by_cases hd : dp ≤ 0
    all_goals
      go_enter Tryz.func16, Tryz.ntmps16
      go_upto_region 2 with fail
      rw [show (wrap64 (k.tmod 10 + 10)).tmod 10 = _ from e]
      clear e
      go_wp2
      refine bodyPost_ret (v := .agg #[.int .i64 0, .bool false, .slice none 0 0, .int .u64 0, .string ⟨#[]⟩, .slice none 0 0]) (by simp [results, Tryz.results16, go_sem]) rfl ⟨rfl, ?_⟩
      exact (((Below.refl _ _).alloc (Nat.le_refl _) _).alloc (by simp) _)
  ·
    go_enter Tryz.func16, Tryz.ntmps16
    go_upto_region 2 with fail
    rw [show (wrap64 (k.tmod 10 + 10)).tmod 10 = _ from e]
    clear e
    go_wp2
    refine bodyPost_ret (v := .agg #[.int .i64 0, .bool false, .slice none 0 0, .int .u64 0, .string ⟨#[]⟩, .slice none 0 0]) (by simp [results, Tryz.results16, go_sem]) rfl ⟨rfl, ?_⟩
    exact (((Below.refl _ _).alloc (Nat.le_refl _) _).alloc (by simp) _)

theorem cln3 (k : Int) (n : Bool) (Am Aq : Option Addr) (nm cm nq cq : Nat) (b : Int) (s : ByteArray) (dp J : Int) (e : kd k = J) (hp : J = 3 ∨ (J = 9 ∧ dp ≤ 0))  (w : World) :
    Calls Tryz.prog 16 #[.agg #[.int .i64 k, .bool n, .slice Am nm cm, .int .u64 b, .string s, .slice Aq nq cq], .int .i64 dp] w fun e w' => e = .returned (.agg #[.int .i64 3, .bool false, .slice none 0 0, .int .u64 b, .string ⟨#[]⟩, .slice none 0 0]) ∧ Below w.heap.size w w' := by
  rcases hp with rfl | ⟨rfl, hd⟩
  · by_cases hd : dp ≤ 0
    all_goals
      go_enter Tryz.func16, Tryz.ntmps16
      go_upto_region 2 with fail
      rw [show (wrap64 (k.tmod 10 + 10)).tmod 10 = _ from e]
      clear e
      go_wp2
      refine bodyPost_ret (v := .agg #[.int .i64 3, .bool false, .slice none 0 0, .int .u64 b, .string ⟨#[]⟩, .slice none 0 0]) (by simp [results, Tryz.results16, go_sem]) rfl ⟨rfl, ?_⟩
      exact (((Below.refl _ _).alloc (Nat.le_refl _) _).alloc (by simp) _)
  ·
    go_enter Tryz.func16, Tryz.ntmps16
    go_upto_region 2 with fail
    rw [show (wrap64 (k.tmod 10 + 10)).tmod 10 = _ from e]
    clear e
    go_wp2
    refine bodyPost_ret (v := .agg #[.int .i64 3, .bool false, .slice none 0 0, .int .u64 b, .string ⟨#[]⟩, .slice none 0 0]) (by simp [results, Tryz.results16, go_sem]) rfl ⟨rfl, ?_⟩
    exact (((Below.refl _ _).alloc (Nat.le_refl _) _).alloc (by simp) _)

theorem cln4 (k : Int) (n : Bool) (Am Aq : Option Addr) (nm cm nq cq : Nat) (b : Int) (s : ByteArray) (dp J : Int) (e : kd k = J) (hp : J = 4 ∨ (J = 10 ∧ dp ≤ 0)) (hs : s.size ≤ 9223372036854775807) (w : World) :
    Calls Tryz.prog 16 #[.agg #[.int .i64 k, .bool n, .slice Am nm cm, .int .u64 b, .string s, .slice Aq nq cq], .int .i64 dp] w fun e w' => e = .returned (.agg #[.int .i64 4, .bool false, .slice none 0 0, .int .u64 0, .string (s.extract 0 (min (s.size : Int) 60).toNat), .slice none 0 0]) ∧ Below w.heap.size w w' := by
  rcases hp with rfl | ⟨rfl, hd⟩
  · by_cases hd : dp ≤ 0
    all_goals
      go_enter Tryz.func16, Tryz.ntmps16
      go_upto_region 2 with fail
      rw [show (wrap64 (k.tmod 10 + 10)).tmod 10 = _ from e]
      clear e
      go_wp2
      refine bodyPost_ret (v := .agg #[.int .i64 4, .bool false, .slice none 0 0, .int .u64 0, .string (s.extract 0 (min (s.size : Int) 60).toNat), .slice none 0 0]) (by simp [results, Tryz.results16, go_sem]) rfl ⟨rfl, ?_⟩
      exact (((Below.refl _ _).alloc (Nat.le_refl _) _).alloc (by simp) _)
  ·
    go_enter Tryz.func16, Tryz.ntmps16
    go_upto_region 2 with fail
    rw [show (wrap64 (k.tmod 10 + 10)).tmod 10 = _ from e]
    clear e
    go_wp2
    refine bodyPost_ret (v := .agg #[.int .i64 4, .bool false, .slice none 0 0, .int .u64 0, .string (s.extract 0 (min (s.size : Int) 60).toNat), .slice none 0 0]) (by simp [results, Tryz.results16, go_sem]) rfl ⟨rfl, ?_⟩
    exact (((Below.refl _ _).alloc (Nat.le_refl _) _).alloc (by simp) _)

theorem cln5 (k : Int) (n : Bool) (Am Aq : Option Addr) (nm cm nq cq : Nat) (b : Int) (s : ByteArray) (dp J : Int) (e : kd k = J) (hp : J = 5 ∨ (J = 11 ∧ dp ≤ 0)) (hs : s.size ≤ 9223372036854775807) (w : World) :
    Calls Tryz.prog 16 #[.agg #[.int .i64 k, .bool n, .slice Am nm cm, .int .u64 b, .string s, .slice Aq nq cq], .int .i64 dp] w fun e w' => e = .returned (.agg #[.int .i64 5, .bool false, .slice none 0 0, .int .u64 0, .string (s.extract 0 (min (s.size : Int) 60).toNat), .slice none 0 0]) ∧ Below w.heap.size w w' := by
  rcases hp with rfl | ⟨rfl, hd⟩
  · by_cases hd : dp ≤ 0
    all_goals
      go_enter Tryz.func16, Tryz.ntmps16
      go_upto_region 2 with fail
      rw [show (wrap64 (k.tmod 10 + 10)).tmod 10 = _ from e]
      clear e
      go_wp2
      refine bodyPost_ret (v := .agg #[.int .i64 5, .bool false, .slice none 0 0, .int .u64 0, .string (s.extract 0 (min (s.size : Int) 60).toNat), .slice none 0 0]) (by simp [results, Tryz.results16, go_sem]) rfl ⟨rfl, ?_⟩
      exact (((Below.refl _ _).alloc (Nat.le_refl _) _).alloc (by simp) _)
  ·
    go_enter Tryz.func16, Tryz.ntmps16
    go_upto_region 2 with fail
    rw [show (wrap64 (k.tmod 10 + 10)).tmod 10 = _ from e]
    clear e
    go_wp2
    refine bodyPost_ret (v := .agg #[.int .i64 5, .bool false, .slice none 0 0, .int .u64 0, .string (s.extract 0 (min (s.size : Int) 60).toNat), .slice none 0 0]) (by simp [results, Tryz.results16, go_sem]) rfl ⟨rfl, ?_⟩
    exact (((Below.refl _ _).alloc (Nat.le_refl _) _).alloc (by simp) _)

end Go.Proofs.YtloloifngbmibaaGreatDoor
set_option linter.unusedVariables false
set_option linter.unusedSimpArgs false
set_option maxRecDepth 4000
namespace Go.Proofs.YtloloifngbmibaaGreatDoor
open Go.RowKit

/-- A box, a result's block. -/
structure RbS (w : World) (x : Vc) (W : World) : Prop where
  lo : Below w.heap.size w W
  bx : Blk W w.heap.size 26 (VcB x)
  rs : Blk W (w.heap.size + 1) 26 #[.int .i64 0, .bool false, .slice none 0 0, .int .u64 0, .string ⟨#[]⟩, .slice none 0 0]
section
variable {w : World} {x : Vc} {W W' : World}
theorem RbS.up (h : RbS w x W) (hb : Below W.heap.size W W') : RbS w x W' := ⟨below_up h.lo hb, h.bx.below hb h.bx.lt, h.rs.below hb h.rs.lt⟩
theorem RbS.drew (h : RbS w x W) : RbS w x W.drew := ⟨h.lo.drew, h.bx, h.rs⟩
theorem RbS.start (w : World) (x : Vc) : RbS w x ((w.alloc (.cells (VcB x) 26)).alloc (.cells #[.int .i64 0, .bool false, .slice none 0 0, .int .u64 0, .string ⟨#[]⟩, .slice none 0 0] 26)) := by
  have h1 := Blk.new (w.alloc (.cells (VcB x) 26)) 26 #[.int .i64 0, .bool false, .slice none 0 0, .int .u64 0, .string ⟨#[]⟩, .slice none 0 0]
  exact ⟨((Below.refl _ _).alloc (Nat.le_refl _) _).alloc (by simp) _, (Blk.new w 26 (VcB x)).alloc _, by simpa using h1⟩
end
theorem HVQ.set6 {L M B d : Nat} {t : Tr} {x : Vc} {W : World} (h : HVQ L M B d t x W) {g : Nat} (hM : M ≤ g) (hB : g < B) (a0 a1 a2 a3 a4 a5 : Value) :
    HVQ L M B d t x ((((((W.setCell ⟨g, 0, none⟩ a0).setCell ⟨g, 1, none⟩ a1).setCell ⟨g, 2, none⟩ a2).setCell ⟨g, 3, none⟩ a3).setCell ⟨g, 4, none⟩ a4).setCell ⟨g, 5, none⟩ a5) :=
  (((((h.set (p := ⟨g, 0, none⟩) hM hB _).set (p := ⟨g, 1, none⟩) hM hB _).set (p := ⟨g, 2, none⟩) hM hB _).set (p := ⟨g, 3, none⟩) hM hB _).set (p := ⟨g, 4, none⟩) hM hB _).set (p := ⟨g, 5, none⟩) hM hB _

theorem cln1 (k : Int) (n : Bool) (Am Aq : Option Addr) (nm cm nq cq : Nat) (b : Int) (s : ByteArray) (dp J : Int) (e : kd k = J) (hp : J = 1 ∨ (J = 7 ∧ dp ≤ 0)) (hb : 0 ≤ b ∧ b < 18446744073709551616) (w : World) :
    Calls Tryz.prog 16 #[.agg #[.int .i64 k, .bool n, .slice Am nm cm, .int .u64 b, .string s, .slice Aq nq cq], .int .i64 dp] w fun e w' => ∃ bb : Bool, e = .returned (.agg #[.int .i64 1, .bool false, .slice none 0 0, .int .u64 (if bb then 1 else 0), .string ⟨#[]⟩, .slice none 0 0]) ∧ Below w.heap.size w w' := by
  have h1 := and_one_u64 b hb.1 (by omega)
  obtain ⟨bb, h2⟩ : ∃ bb : Bool, (b % 2 == 1) = bb := ⟨_, rfl⟩
  have HC := Lib.hid (boolVal_v bb)
  have H0 := Lib.hid (RbS.start w ⟨k, n, .slice Am nm cm, b, s, .slice Aq nq cq⟩)
  clear hb
  rcases hp with rfl | ⟨rfl, hd⟩
  · by_cases hd : dp ≤ 0
    all_goals
      go_enter Tryz.func16, Tryz.ntmps16
      go_upto_region 2 with fail
      rw [show (wrap64 (k.tmod 10 + 10)).tmod 10 = _ from e]
      clear e
      go_wp2_with fail
      refine (HC.out _).mono ?_
      rintro e w1 ⟨rfl, hb1⟩
      have HM := Lib.hid (H0.out.up hb1)
      have k0 := HM.out.rs.cell 0
      have k1 := HM.out.rs.cell 1
      have k2 := HM.out.rs.cell 2
      have k3 := HM.out.rs.cell 3
      have k4 := HM.out.rs.cell 4
      have k5 := HM.out.rs.cell 5
      have z0 := HM.out.rs.frozen 0
      have z1 := HM.out.rs.frozen 1
      have z2 := HM.out.rs.frozen 2
      have z3 := HM.out.rs.frozen 3
      have z4 := HM.out.rs.frozen 4
      have z5 := HM.out.rs.frozen 5
      have lr := HM.out.rs.lt
      simp at k0 k1 k2 k3 k4 k5
      have HF := Lib.hid (set6 HM.out.rs (.int .i64 1) (.bool false) (.slice none 0 0) (.int .u64 (if bb then 1 else 0)) (.string ⟨#[]⟩) (.slice none 0 0))
      have HL := Lib.hid (low6 HM.out.lo (w.heap.size + 1) (Nat.le_add_right _ _) (.int .i64 1) (.bool false) (.slice none 0 0) (.int .u64 (if bb then 1 else 0)) (.string ⟨#[]⟩) (.slice none 0 0))
      clear HM H0 hb1 HC h1 h2
      obtain ⟨zb, hzb⟩ : ∃ zb : Int, zb = (if bb then (1 : Int) else 0) := ⟨_, rfl⟩
      rw [← hzb] at HF HL ⊢
      have HZB := Lib.hid hzb
      clear hzb
      go_wp2
      clear k0 k1 k2 k3 k4 k5
      have q0 := HF.out.cell 0
      have q1 := HF.out.cell 1
      have q2 := HF.out.cell 2
      have q3 := HF.out.cell 3
      have q4 := HF.out.cell 4
      have q5 := HF.out.cell 5
      simp at q0 q1 q2 q3 q4 q5
      exact bodyPost_ret (v := .agg #[.int .i64 1, .bool false, .slice none 0 0, .int .u64 zb, .string ⟨#[]⟩, .slice none 0 0]) (by simp [results, Tryz.results16, go_sem, q0, q1, q2, q3, q4, q5]) rfl ⟨bb, by rw [← HZB.out], HL.out⟩
  ·
    go_enter Tryz.func16, Tryz.ntmps16
    go_upto_region 2 with fail
    rw [show (wrap64 (k.tmod 10 + 10)).tmod 10 = _ from e]
    clear e
    go_wp2_with fail
    refine (HC.out _).mono ?_
    rintro e w1 ⟨rfl, hb1⟩
    have HM := Lib.hid (H0.out.up hb1)
    have k0 := HM.out.rs.cell 0
    have k1 := HM.out.rs.cell 1
    have k2 := HM.out.rs.cell 2
    have k3 := HM.out.rs.cell 3
    have k4 := HM.out.rs.cell 4
    have k5 := HM.out.rs.cell 5
    have z0 := HM.out.rs.frozen 0
    have z1 := HM.out.rs.frozen 1
    have z2 := HM.out.rs.frozen 2
    have z3 := HM.out.rs.frozen 3
    have z4 := HM.out.rs.frozen 4
    have z5 := HM.out.rs.frozen 5
    have lr := HM.out.rs.lt
    simp at k0 k1 k2 k3 k4 k5
    have HF := Lib.hid (set6 HM.out.rs (.int .i64 1) (.bool false) (.slice none 0 0) (.int .u64 (if bb then 1 else 0)) (.string ⟨#[]⟩) (.slice none 0 0))
    have HL := Lib.hid (low6 HM.out.lo (w.heap.size + 1) (Nat.le_add_right _ _) (.int .i64 1) (.bool false) (.slice none 0 0) (.int .u64 (if bb then 1 else 0)) (.string ⟨#[]⟩) (.slice none 0 0))
    clear HM H0 hb1 HC h1 h2
    obtain ⟨zb, hzb⟩ : ∃ zb : Int, zb = (if bb then (1 : Int) else 0) := ⟨_, rfl⟩
    rw [← hzb] at HF HL ⊢
    have HZB := Lib.hid hzb
    clear hzb
    go_wp2
    clear k0 k1 k2 k3 k4 k5
    have q0 := HF.out.cell 0
    have q1 := HF.out.cell 1
    have q2 := HF.out.cell 2
    have q3 := HF.out.cell 3
    have q4 := HF.out.cell 4
    have q5 := HF.out.cell 5
    simp at q0 q1 q2 q3 q4 q5
    exact bodyPost_ret (v := .agg #[.int .i64 1, .bool false, .slice none 0 0, .int .u64 zb, .string ⟨#[]⟩, .slice none 0 0]) (by simp [results, Tryz.results16, go_sem, q0, q1, q2, q3, q4, q5]) rfl ⟨bb, by rw [← HZB.out], HL.out⟩
end Go.Proofs.YtloloifngbmibaaGreatDoor
set_option linter.unusedVariables false
set_option linter.unusedSimpArgs false
set_option maxRecDepth 4000
namespace Go.Proofs.YtloloifngbmibaaGreatDoor
open Go.RowKit

/-- What Clean makes of an int. -/
def CutI (n : Bool) (l : List Int) : Tr := ⟨2, sgn2 n (strip (l.take 40)), strip (l.take 40), 0, ⟨#[]⟩, []⟩
theorem sl_take {w : World} {S : Nat → Prop} {A : Option Addr} {l : List Int} {c : Nat} (hr : Rd w S A (ints .u8 l)) (hc : l.length ≤ c) (m : Nat) (hm : m = min l.length 40) : SlV w S .u8 (.slice A m c) (l.take 40) := by
  refine ⟨A, c, by rw [List.length_take, hm, Nat.min_comm], by rw [List.length_take]; omega, fun hn => ?_⟩
  have h0 : 0 < l.length := by
    rw [ints_length, List.length_take] at hn
    omega
  obtain ⟨b, o, e, hb, hcell⟩ := hr (by rw [ints_length]; exact h0)
  refine ⟨b, o, e, hb, fun j u hu => hcell j u ?_⟩
  have hj := (List.getElem?_eq_some_iff.1 hu).1
  rw [ints_length, List.length_take] at hj
  rw [← hu]
  simp [ints, List.getElem?_take, show j < 40 by omega]

theorem leafV {L M B : Nat} {k : Int} {W : World} {S : Nat → Prop} {m : Value} {l : List Int} (h : SlV W S .u8 m l) (b : Int) (s : ByteArray) (n : Bool) (hS : ∀ k, S k → Okb L M B k ∧ k < W.heap.size) : HVQ L M B 1 ⟨k, n, l, b, s, []⟩ ⟨k, n, m, b, s, .slice none 0 0⟩ W :=
  ⟨S, ⟨⟨rfl, rfl, rfl, rfl, h⟩, none, 0, [], rfl, Nat.le_refl _, rfl, Rd.nil _ _ _, fun i y u h => by simp at h⟩, hS⟩
theorem nw_lt {w w1 : World} : ∀ k, Nw w w1 k → k < w1.heap.size := fun _ h => h.2
theorem Bv1.set6 {w : World} {x : Vc} {W : World} (h : Bv1 w x W) (a0 a1 a2 a3 a4 a5 : Value) :
    Bv1 w x ((((((W.setCell ⟨w.heap.size + 1, 0, none⟩ a0).setCell ⟨w.heap.size + 1, 1, none⟩ a1).setCell ⟨w.heap.size + 1, 2, none⟩ a2).setCell ⟨w.heap.size + 1, 3, none⟩ a3).setCell ⟨w.heap.size + 1, 4, none⟩ a4).setCell ⟨w.heap.size + 1, 5, none⟩ a5) := by
  have hne : w.heap.size ≠ w.heap.size + 1 := Nat.ne_of_lt (Nat.lt_succ_self _)
  exact ⟨low6 h.1 (w.heap.size + 1) (Nat.le_succ _) _ _ _ _ _ _, (((((h.2.far hne _).far hne _).far hne _).far hne _).far hne _).far hne _⟩

theorem cln2i (k : Int) (n : Bool) (Am Aq : Option Addr) (l : List Int) (cm nq cq : Nat) (b : Int) (s : ByteArray) (dp J : Int) (e : kd k = J) (hp : J = 2 ∨ (J = 8 ∧ dp ≤ 0)) (S : Nat → Prop) (w : World) (hc : l.length ≤ cm) (hl : l.length ≤ 9223372036854775807) (hr : Rd w S Am (ints .u8 l)) (hS : ∀ k, S k → k < w.heap.size) (hby : ByL l) :
    Calls Tryz.prog 16 #[.agg #[.int .i64 k, .bool n, .slice Am l.length cm, .int .u64 b, .string s, .slice Aq nq cq], .int .i64 dp] w fun e w' => ∃ y : Vc, e = .returned (Vc.agg y) ∧ HVB w.heap.size 1 (CutI n l) y w' ∧ Below w.heap.size w w' := by
  obtain ⟨nm, hnm⟩ : ∃ nm, nm = l.length := ⟨_, rfl⟩
  have HOF := Lib.hid (fun W (hW : Below w.heap.size w W) (m : Nat) (hm : m = min nm 40) => of_any S n (.slice Am m cm) (l.take 40) (by rw [List.length_take]; omega) W (sl_take (hr.keep (still_below hW hS)) hc m (by rw [← hnm]; exact hm)) (fun k hk => Nat.lt_of_lt_of_le (hS k hk) hW.size))
  rw [← hnm] at hc hl ⊢
  have H0 := Lib.hid (RbS.start w ⟨k, n, .slice Am nm cm, b, s, .slice Aq nq cq⟩)
  have HLT : Hid ((l.take 40).length ≤ 140737488355328) := Lib.hid (by rw [List.length_take]; omega)
  clear hr hS hby hnm
  obtain ⟨m0, hm0⟩ : ∃ m0, m0 = min nm 40 := ⟨_, rfl⟩
  have HOF2 := Lib.hid (fun W (hW : Below w.heap.size w W) => HOF.out W hW m0 hm0)
  obtain ⟨l2, hl2⟩ : ∃ l2, l2 = strip (l.take 40) := ⟨_, rfl⟩
  obtain ⟨n2, hn2⟩ : ∃ n2, n2 = sgn2 n (strip (l.take 40)) := ⟨_, rfl⟩
  have HL2 : Hid (l2.length ≤ 140737488355328) := Lib.hid (by rw [hl2]; exact Nat.le_trans (strip_len _) HLT.out)
  have HCI : Hid (CutI n l = ⟨2, n2, l2, 0, ⟨#[]⟩, []⟩) := Lib.hid (by rw [hl2, hn2]; rfl)
  rw [HCI.out]
  rw [← hl2] at hn2 HOF2
  rw [← hn2] at HOF2
  have s1 : min (nm : Int) 40 = (m0 : Int) := by omega
  have s2 : (m0 : Int) ≤ (cm : Int) := by omega
  have s3 : m0 ≤ cm := by omega
  have HH0 := Lib.hid (show Bv1S w k n (.slice Am nm cm) b s (.slice Aq nq cq) _ from Bv1.s ⟨H0.out.drew.lo, H0.out.drew.bx⟩)
  clear hm0 HOF hl hc hl2 hn2 HCI HLT
  rcases hp with rfl | ⟨rfl, hd⟩
  · by_cases hd : dp ≤ 0
    all_goals
      go_enter Tryz.func16, Tryz.ntmps16
      go_upto_region 2 with fail
      rw [show (wrap64 (k.tmod 10 + 10)).tmod 10 = _ from e]
      clear e
      go_upto_region 8 with fail
      go_region_held3 (Bv1S w k n (.slice Am nm cm) b s (.slice Aq nq cq))
        (first | (with_reducible assumption) | (with_reducible exact ((‹Bv1S _ _ _ _ _ _ _ _›).1.set6 _ _ _ _ _ _).s) | (with_reducible exact HH0.out) | (with_reducible exact ((‹Bv1S _ _ _ _ _ _ _ _›).1.up ‹Below _ _ _›).s) | (with_reducible exact (HH0.out.1.up ‹Below _ _ _›).s))
        (first
          | (go_at_call 23; (with_reducible refine (HOF2.out _ ?_).mono ?_); exact (‹Bv1S _ _ _ _ _ _ _ _›).1.lo; rintro e w1 ⟨v1, rfl, hv1, hb1⟩; obtain ⟨mv, rfl, hmv⟩ := hv1; have HMV := Lib.hid hmv; clear hmv; obtain ⟨A1, c1, hmv1, hrd1⟩ := HMV.out; clear hrd1; subst hmv1)
          | (go_at_call 43; (with_reducible refine (intVal_any _ n2 _ l2 HL2.out _ HMV.out nw_lt).mono ?_); rintro e w2 ⟨mv2, rfl, hmv2, hb2⟩; have HMV2 := Lib.hid hmv2; clear hmv2; obtain ⟨A2, c2, hmv3, hrd2⟩ := HMV2.out; clear hrd2; subst hmv3; have HM := Lib.hid ((H0.out.drew.up hb1).up hb2); have k0 := HM.out.rs.cell 0; have k1 := HM.out.rs.cell 1; have k2 := HM.out.rs.cell 2; have k3 := HM.out.rs.cell 3; have k4 := HM.out.rs.cell 4; have k5 := HM.out.rs.cell 5; have z0 := HM.out.rs.frozen 0; have z1 := HM.out.rs.frozen 1; have z2 := HM.out.rs.frozen 2; have z3 := HM.out.rs.frozen 3; have z4 := HM.out.rs.frozen 4; have z5 := HM.out.rs.frozen 5; have lr := HM.out.rs.lt; simp at k0 k1 k2 k3 k4 k5))
      have HF := Lib.hid (set6 HM.out.rs (.int .i64 2) (.bool n2) (.slice A2 l2.length c2) (.int .u64 0) (.string ⟨#[]⟩) (.slice none 0 0))
      have HL := Lib.hid (low6 HM.out.lo (w.heap.size + 1) (Nat.le_add_right _ _) (.int .i64 2) (.bool n2) (.slice A2 l2.length c2) (.int .u64 0) (.string ⟨#[]⟩) (.slice none 0 0))
      have hW1 : w.heap.size + 2 ≤ w1.heap.size := (H0.out.drew.up hb1).rs.lt
      have HV := Lib.hid ((leafV (L := 0) (M := 0) (B := w.heap.size + 2) (k := 2) HMV2.out 0 ⟨#[]⟩ n2 (fun k hk => ⟨.inr (Nat.le_trans hW1 hk.1), hk.2⟩)).set6 (g := w.heap.size + 1) (Nat.zero_le _) (Nat.lt_succ_self _) (.int .i64 2) (.bool n2) (.slice A2 l2.length c2) (.int .u64 0) (.string ⟨#[]⟩) (.slice none 0 0))
      clear HM H0 hb1 hb2 HMV HMV2 HH0 HOF2 hW1 s1 s2 s3
      go_wp2
      clear k0 k1 k2 k3 k4 k5
      have q0 := HF.out.cell 0
      have q1 := HF.out.cell 1
      have q2 := HF.out.cell 2
      have q3 := HF.out.cell 3
      have q4 := HF.out.cell 4
      have q5 := HF.out.cell 5
      simp at q0 q1 q2 q3 q4 q5
      exact bodyPost_ret (v := .agg #[.int .i64 2, .bool n2, .slice A2 l2.length c2, .int .u64 0, .string ⟨#[]⟩, .slice none 0 0]) (by simp [results, Tryz.results16, go_sem, q0, q1, q2, q3, q4, q5]) rfl ⟨⟨2, n2, .slice A2 l2.length c2, 0, ⟨#[]⟩, .slice none 0 0⟩, rfl, HV.out.low (fun k hk => hk.imp id (fun h => Nat.le_trans (Nat.le_add_right _ _) h)), HL.out⟩
  ·
    go_enter Tryz.func16, Tryz.ntmps16
    go_upto_region 2 with fail
    rw [show (wrap64 (k.tmod 10 + 10)).tmod 10 = _ from e]
    clear e
    go_upto_region 8 with fail
    go_region_held3 (Bv1S w k n (.slice Am nm cm) b s (.slice Aq nq cq))
      (first | (with_reducible assumption) | (with_reducible exact ((‹Bv1S _ _ _ _ _ _ _ _›).1.set6 _ _ _ _ _ _).s) | (with_reducible exact HH0.out) | (with_reducible exact ((‹Bv1S _ _ _ _ _ _ _ _›).1.up ‹Below _ _ _›).s) | (with_reducible exact (HH0.out.1.up ‹Below _ _ _›).s))
      (first
        | (go_at_call 23; (with_reducible refine (HOF2.out _ ?_).mono ?_); exact (‹Bv1S _ _ _ _ _ _ _ _›).1.lo; rintro e w1 ⟨v1, rfl, hv1, hb1⟩; obtain ⟨mv, rfl, hmv⟩ := hv1; have HMV := Lib.hid hmv; clear hmv; obtain ⟨A1, c1, hmv1, hrd1⟩ := HMV.out; clear hrd1; subst hmv1)
        | (go_at_call 43; (with_reducible refine (intVal_any _ n2 _ l2 HL2.out _ HMV.out nw_lt).mono ?_); rintro e w2 ⟨mv2, rfl, hmv2, hb2⟩; have HMV2 := Lib.hid hmv2; clear hmv2; obtain ⟨A2, c2, hmv3, hrd2⟩ := HMV2.out; clear hrd2; subst hmv3; have HM := Lib.hid ((H0.out.drew.up hb1).up hb2); have k0 := HM.out.rs.cell 0; have k1 := HM.out.rs.cell 1; have k2 := HM.out.rs.cell 2; have k3 := HM.out.rs.cell 3; have k4 := HM.out.rs.cell 4; have k5 := HM.out.rs.cell 5; have z0 := HM.out.rs.frozen 0; have z1 := HM.out.rs.frozen 1; have z2 := HM.out.rs.frozen 2; have z3 := HM.out.rs.frozen 3; have z4 := HM.out.rs.frozen 4; have z5 := HM.out.rs.frozen 5; have lr := HM.out.rs.lt; simp at k0 k1 k2 k3 k4 k5))
    have HF := Lib.hid (set6 HM.out.rs (.int .i64 2) (.bool n2) (.slice A2 l2.length c2) (.int .u64 0) (.string ⟨#[]⟩) (.slice none 0 0))
    have HL := Lib.hid (low6 HM.out.lo (w.heap.size + 1) (Nat.le_add_right _ _) (.int .i64 2) (.bool n2) (.slice A2 l2.length c2) (.int .u64 0) (.string ⟨#[]⟩) (.slice none 0 0))
    have hW1 : w.heap.size + 2 ≤ w1.heap.size := (H0.out.drew.up hb1).rs.lt
    have HV := Lib.hid ((leafV (L := 0) (M := 0) (B := w.heap.size + 2) (k := 2) HMV2.out 0 ⟨#[]⟩ n2 (fun k hk => ⟨.inr (Nat.le_trans hW1 hk.1), hk.2⟩)).set6 (g := w.heap.size + 1) (Nat.zero_le _) (Nat.lt_succ_self _) (.int .i64 2) (.bool n2) (.slice A2 l2.length c2) (.int .u64 0) (.string ⟨#[]⟩) (.slice none 0 0))
    clear HM H0 hb1 hb2 HMV HMV2 HH0 HOF2 hW1 s1 s2 s3
    go_wp2
    clear k0 k1 k2 k3 k4 k5
    have q0 := HF.out.cell 0
    have q1 := HF.out.cell 1
    have q2 := HF.out.cell 2
    have q3 := HF.out.cell 3
    have q4 := HF.out.cell 4
    have q5 := HF.out.cell 5
    simp at q0 q1 q2 q3 q4 q5
    exact bodyPost_ret (v := .agg #[.int .i64 2, .bool n2, .slice A2 l2.length c2, .int .u64 0, .string ⟨#[]⟩, .slice none 0 0]) (by simp [results, Tryz.results16, go_sem, q0, q1, q2, q3, q4, q5]) rfl ⟨⟨2, n2, .slice A2 l2.length c2, 0, ⟨#[]⟩, .slice none 0 0⟩, rfl, HV.out.low (fun k hk => hk.imp id (fun h => Nat.le_trans (Nat.le_add_right _ _) h)), HL.out⟩
end Go.Proofs.YtloloifngbmibaaGreatDoor
