/- CompareDepth: an int and a float. CompareDepth: all unlike types; all flat values. -/
import Derived.Test.YtloloifngbmibaaGreatDoorM33
set_option linter.unusedVariables false
set_option linter.unusedSimpArgs false
set_option maxRecDepth 4000
namespace Go.Proofs.YtloloifngbmibaaGreatDoor
open Go.RowKit Go.Extern.Stop Go.Stop

theorem un_IF : ((⟨#[105, 110, 116]⟩ : ByteArray).toList == (⟨#[102, 108, 111, 97, 116]⟩ : ByteArray).toList) = false := by decide +kernel
theorem un_FI : ((⟨#[102, 108, 111, 97, 116]⟩ : ByteArray).toList == (⟨#[105, 110, 116]⟩ : ByteArray).toList) = false := by decide +kernel
theorem aI (W : World) (v : Value) : (Instr.typeAssert (.iface 117 v) 64 117 true).run Tryz.prog W = .ok (.tuple #[v, .bool true]) W := by kernel_rfl
theorem aF (W : World) (v : Value) : (Instr.typeAssert (.iface 147 v) 64 147 true).run Tryz.prog W = .ok (.tuple #[v, .bool true]) W := by kernel_rfl
theorem aFI (W : World) (v : Value) : (Instr.typeAssert (.iface 147 v) 64 117 true).run Tryz.prog W = .ok (.tuple #[.agg #[.int .i64 0, .pointer none], .bool false]) W := by kernel_rfl

/-- The two fractions, compared. -/
def IFeq (x : Int) (u : Nat) : Prop := ∀ N, N = 1074 → fcl u = .fin (x * 2 ^ N)

theorem cd_IF {B : Nat} {s : Int} {a : Option Addr} {x : Int} {u : Nat} {n : Int} {w : World} (hn : 1 ≤ n) (h : SI B (.agg #[.int .i64 s, .pointer a]) x w) (hu : u < 18446744073709551616) (hG : GL w) :
    Calls Tryz.prog 144 #[.int .i8 37, .iface 117 (.agg #[.int .i64 s, .pointer a]), .iface 147 (.float .f64 u), .int .i64 n] w (CmpOut (IFeq x u) w) := by
  have HS := Lib.hid (fun w => sameTy (tyInt s a) (tyFlt u) w)
  rw [un_IF] at HS
  have hn1 : ¬ n < 1 := by omega
  have h1 := fun W v => aI W v
  have h2 := fun W v => aF W v
  have hnan := nan_ord u hu
  have HI := Lib.hid (fun w => isInf_any u hu w)
  have HR := Lib.hid (fun W (hW : Below w.heap.size w W) => ratS_any (h.up hW))
  have HF := Lib.hid (fun W (hf : fex u ≠ 2047) => ratF_any u hu hf W)
  have HQ := Lib.hid (fun W (hW : Below w.heap.size w W) => hG.up hW)
  have H3 := Lib.hid (fun c w => three37 c w)
  clear h hn hG hu
  cases hc : fcl u with
  | nan =>
    rw [hc, show decide (Fc.nan = Fc.nan) = true by simp] at hnan
    go_enter Tryz.func144, Tryz.ntmps144
    go_wp2_with fail
    refine (HS.out _).mono ?_
    rintro e w1 ⟨rfl, hb1⟩
    have HB1 := Lib.hid (below_al hb1 (.cells #[.int .i64 s, .pointer a] 117))
    clear hb1
    go_wp2_with fail
    refine (H3.out _ _).mono ?_
    rintro e w3 ⟨r, rfl, hr, rfl⟩
    have hr' : r = false := by cases r <;> simp_all
    subst hr'
    go_wp2
    go_ret2
    exact CmpOut.mk' (fun h => nomatch h) HB1.out
  | inf sg =>
    rw [hc] at hnan HI
    rw [show decide (Fc.inf sg = Fc.nan) = false by simp] at hnan
    simp only [Fc.big] at HI
    go_enter Tryz.func144, Tryz.ntmps144
    go_wp2_with fail
    refine (HS.out _).mono ?_
    rintro e w1 ⟨rfl, hb1⟩
    have HB1 := Lib.hid (below_al hb1 (.cells #[.int .i64 s, .pointer a] 117))
    clear hb1
    go_wp2_with fail
    refine (HI.out _).mono ?_
    rintro e w2 ⟨rfl, rfl⟩
    cases ho : (FloatKind.f64.format.order u 0 == some Ordering.gt)
    all_goals
      go_wp2_with fail
      refine (H3.out _ _).mono ?_
      rintro e w3 ⟨r, rfl, hr, rfl⟩
      have hr' : r = false := by cases r <;> simp_all
      subst hr'
      go_wp2
      go_ret2
      exact CmpOut.mk' (fun h => nomatch h) HB1.out
  | fin y =>
    rw [hc] at hnan HI
    rw [show decide (Fc.fin y = Fc.nan) = false by simp] at hnan
    simp only [Fc.big] at HI
    have hf : fex u ≠ 2047 := isFin_fex (by rw [hc]; rfl)
    have HFR := Lib.hid hf
    clear hf
    go_enter Tryz.func144, Tryz.ntmps144
    go_wp2_with fail
    refine (HS.out _).mono ?_
    rintro e w1 ⟨rfl, hb1⟩
    have HB1 := Lib.hid (below_al hb1 (.cells #[.int .i64 s, .pointer a] 117))
    clear hb1
    go_wp2_with fail
    refine (HI.out _).mono ?_
    rintro e w2 ⟨rfl, rfl⟩
    go_wp2_with fail
    refine (HR.out _ HB1.out).mono ?_
    rintro e w3 ⟨b1, rfl, hQ1, hb3⟩
    have HB3 := Lib.hid (below_up HB1.out hb3)
    have HQ1 := Lib.hid hQ1
    clear hQ1 hb3
    go_wp2_with fail
    refine (HF.out _ HFR.out).mono ?_
    rintro e w4 ⟨b2, p, q, rfl, hQ2, hv, hq, hb4⟩
    have HB4 := Lib.hid (below_up HB3.out hb4)
    have HQ3 := Lib.hid (HQ1.out.up hb4)
    have HQ2 := Lib.hid hQ2
    have HV := Lib.hid (And.intro hv hq)
    clear hQ2 hb4 hv hq HQ1
    go_wp2_with fail
    refine (ratCmpQ HQ3.out HQ2.out (HQ.out _ HB4.out)).mono ?_
    rintro e w5 ⟨C, rfl, hC, hb5⟩
    have HB5 := Lib.hid (below_up HB4.out hb5)
    have HC : Hid (C = 0 → IFeq x u) := Lib.hid fun h => by
      obtain ⟨e1, e2⟩ := hC h
      exact fun N hN => frac_eq N hN HFR.out HV.out.1 HV.out.2 e1 (by rw [e2])
    clear hC hb5
    go_wp2_with fail
    refine (H3.out _ _).mono ?_
    rintro e w6 ⟨r, rfl, hr, rfl⟩
    have HR2 : Hid (r = true → IFeq x u) := Lib.hid fun h => HC.out (hr h)
    clear hr
    go_wp2
    go_ret2
    exact CmpOut.mk' HR2.out HB5.out
/-- The box of the asserted int. -/
abbrev BxF (w : World) (g : Nat) (p q : Value) (W : World) : Prop := Below w.heap.size w W ∧ W.cell? ⟨g, 0, none⟩ = some p ∧ W.cell? ⟨g, 1, none⟩ = some q
theorem BxF.up {w : World} {g : Nat} {p q : Value} {W W' : World} (h : BxF w g p q W) (hb : Below W.heap.size W W') : BxF w g p q W' := ⟨below_up h.1 hb, cell_up hb h.2.1, cell_up hb h.2.2⟩
theorem BxF.start {w w1 : World} {p q : Value} (h : Below w.heap.size w (w1.alloc (.cells #[p, q] 117))) : BxF w w1.heap.size p q (w1.alloc (.cells #[p, q] 117)).drew := ⟨h.drew, by simp, by simp⟩

theorem cd_FI {B : Nat} {s : Int} {a : Option Addr} {x : Int} {u : Nat} {n : Int} {w : World} (hn : 1 ≤ n) (h : SI B (.agg #[.int .i64 s, .pointer a]) x w) (hu : u < 18446744073709551616) (hG : GL w) :
    Calls Tryz.prog 144 #[.int .i8 37, .iface 147 (.float .f64 u), .iface 117 (.agg #[.int .i64 s, .pointer a]), .int .i64 n] w (CmpOut (IFeq x u) w) := by
  have HS := Lib.hid (fun w => sameTy (tyFlt u) (tyInt s a) w)
  rw [un_FI] at HS
  have hn1 : ¬ n < 1 := by omega
  have h1 := fun W v => aI W v
  have h2 := fun W v => aF W v
  have h3 := fun W v => aFI W v
  have hnan := nan_ord u hu
  have HI := Lib.hid (fun w => isInf_any u hu w)
  have HR := Lib.hid (fun W (hW : Below w.heap.size w W) => ratS_any (h.up hW))
  have HF := Lib.hid (fun W (hf : fex u ≠ 2047) => ratF_any u hu hf W)
  have HQ := Lib.hid (fun W (hW : Below w.heap.size w W) => hG.up hW)
  have H3 := Lib.hid (fun c w => three37 c w)
  clear h hn hG hu
  cases hc : fcl u with
  | nan =>
    rw [hc, show decide (Fc.nan = Fc.nan) = true by simp] at hnan
    go_enter Tryz.func144, Tryz.ntmps144
    go_wp2_with fail
    refine (HS.out _).mono ?_
    rintro e w1 ⟨rfl, hb1⟩
    have HB1 := Lib.hid (below_al hb1 (.cells #[.int .i64 s, .pointer a] 117))
    clear hb1
    go_wp2_with fail
    refine (H3.out _ _).mono ?_
    rintro e w3 ⟨r, rfl, hr, rfl⟩
    have hr' : r = false := by cases r <;> simp_all
    subst hr'
    go_wp2
    go_ret2
    exact CmpOut.mk' (fun h => nomatch h) HB1.out
  | inf sg =>
    rw [hc] at hnan HI
    rw [show decide (Fc.inf sg = Fc.nan) = false by simp] at hnan
    simp only [Fc.big] at HI
    go_enter Tryz.func144, Tryz.ntmps144
    go_wp2_with fail
    refine (HS.out _).mono ?_
    rintro e w1 ⟨rfl, hb1⟩
    have HB1 := Lib.hid (below_al hb1 (.cells #[.int .i64 s, .pointer a] 117))
    clear hb1
    go_wp2_with fail
    refine (HI.out _).mono ?_
    rintro e w2 ⟨rfl, rfl⟩
    cases ho : (FloatKind.f64.format.order u 0 == some Ordering.gt)
    all_goals
      go_wp2_with fail
      refine (H3.out _ _).mono ?_
      rintro e w3 ⟨r, rfl, hr, rfl⟩
      have hr' : r = false := by cases r <;> simp_all
      subst hr'
      go_wp2
      go_ret2
      exact CmpOut.mk' (fun h => nomatch h) HB1.out
  | fin y =>
    rw [hc] at hnan HI
    rw [show decide (Fc.fin y = Fc.nan) = false by simp] at hnan
    simp only [Fc.big] at HI
    have hf : fex u ≠ 2047 := isFin_fex (by rw [hc]; rfl)
    have HFR := Lib.hid hf
    clear hf
    go_enter Tryz.func144, Tryz.ntmps144
    go_wp2_with fail
    refine (HS.out _).mono ?_
    rintro e w1 ⟨rfl, hb1⟩
    have HB1 := Lib.hid (below_al hb1 (.cells #[.int .i64 s, .pointer a] 117))
    clear hb1
    go_wp2_with fail
    refine (HI.out _).mono ?_
    rintro e w2 ⟨rfl, rfl⟩
    have H0 : Hid (BxF w w1.heap.size (.int .i64 s) (.pointer a) _) := Lib.hid (BxF.start HB1.out)
    go_wp2_with fail
    go_region_held3 (BxF w w1.heap.size (.int .i64 s) (.pointer a))
      (first | assumption | exact H0.out | exact ((‹BxF _ _ _ _ _›).up ‹Below _ _ _›) | exact (H0.out.up ‹Below _ _ _›))
      (first
        | ((with_reducible refine (HF.out _ HFR.out).mono ?_); rintro e w3 ⟨b2, p, q, rfl, hQ2, hv, hq, hb3⟩)
        | ((with_reducible refine (HR.out _ ?_).mono ?_); exact (‹BxF _ _ _ _ _›).1; rintro e w4 ⟨b1, rfl, hQ1, hb4⟩)
        | ((with_reducible refine (ratCmpQ (hQ2.up hb4) hQ1 (HQ.out _ ?_)).mono ?_); exact (‹BxF _ _ _ _ _›).1; rintro e w5 ⟨C, rfl, hC, hb5⟩)
        | ((with_reducible refine (ratCmpQ hQ2 (hQ1.up hb3) (HQ.out _ ?_)).mono ?_); exact (‹BxF _ _ _ _ _›).1; rintro e w5 ⟨C, rfl, hC, hb5⟩))
    have HB5 := Lib.hid (‹BxF _ _ _ _ _›).1
    have HC : Hid (C = 0 → IFeq x u) := Lib.hid fun h => by
      obtain ⟨e1, e2⟩ := hC h
      exact fun N hN => frac_eq N hN HFR.out hv hq e1.symm (by rw [e2])
    clear hC H0
    go_wp2_with fail
    refine (H3.out _ _).mono ?_
    rintro e w6 ⟨r, rfl, hr, rfl⟩
    have HR2 : Hid (r = true → IFeq x u) := Lib.hid fun h => HC.out (hr h)
    clear hr
    go_wp2
    go_ret2
    exact CmpOut.mk' HR2.out HB5.out
end Go.Proofs.YtloloifngbmibaaGreatDoor
set_option linter.unusedVariables false
set_option linter.unusedSimpArgs false
set_option maxRecDepth 4000
namespace Go.Proofs.YtloloifngbmibaaGreatDoor
open Go.RowKit Go.Extern.Stop Go.Stop

theorem CmpOut.imp {P Q : Prop} (hpq : P → Q) {w : World} {e : Ending} {w' : World} (h : CmpOut P w e w') : CmpOut Q w e w' := by
  obtain ⟨r, h1, h2, h3⟩ := h
  exact ⟨r, h1, fun h => hpq (h2 h), h3⟩
theorem unNoneBool (n1 : Int) (n2 : Bool) {n : Int} (hn : 1 ≤ n) (w : World) : Calls Tryz.prog 144 #[.int .i8 37, .iface 145 (.int .u8 n1), .iface 146 (.bool n2), .int .i64 n] w (CmpOut False w) :=
  cd_un1 hn (tyNone n1) (tyBool n2) (by decide +kernel) (fun W => ⟨.agg #[.int .i64 0, .pointer none], by kernel_rfl⟩) (fun W => ⟨.float .f64 0, by kernel_rfl⟩)
theorem unNoneInt (n1 : Int) (n2 : Int) (a2 : Option Addr) {n : Int} (hn : 1 ≤ n) (w : World) : Calls Tryz.prog 144 #[.int .i8 37, .iface 145 (.int .u8 n1), .iface 117 (.agg #[.int .i64 n2, .pointer a2]), .int .i64 n] w (CmpOut False w) :=
  cd_un1 hn (tyNone n1) (tyInt n2 a2) (by decide +kernel) (fun W => ⟨.agg #[.int .i64 0, .pointer none], by kernel_rfl⟩) (fun W => ⟨.float .f64 0, by kernel_rfl⟩)
theorem unNoneFlt (n1 : Int) (n2 : Nat) {n : Int} (hn : 1 ≤ n) (w : World) : Calls Tryz.prog 144 #[.int .i8 37, .iface 145 (.int .u8 n1), .iface 147 (.float .f64 n2), .int .i64 n] w (CmpOut False w) :=
  cd_un1 hn (tyNone n1) (tyFlt n2) (by decide +kernel) (fun W => ⟨.agg #[.int .i64 0, .pointer none], by kernel_rfl⟩) (fun W => ⟨.float .f64 0, by kernel_rfl⟩)
theorem unNoneStr (n1 : Int) (n2 : ByteArray) {n : Int} (hn : 1 ≤ n) (w : World) : Calls Tryz.prog 144 #[.int .i8 37, .iface 145 (.int .u8 n1), .iface 149 (.string n2), .int .i64 n] w (CmpOut False w) :=
  cd_un1 hn (tyNone n1) (tyStr n2) (by decide +kernel) (fun W => ⟨.agg #[.int .i64 0, .pointer none], by kernel_rfl⟩) (fun W => ⟨.float .f64 0, by kernel_rfl⟩)
theorem unNoneByt (n1 : Int) (n2 : ByteArray) {n : Int} (hn : 1 ≤ n) (w : World) : Calls Tryz.prog 144 #[.int .i8 37, .iface 145 (.int .u8 n1), .iface 150 (.string n2), .int .i64 n] w (CmpOut False w) :=
  cd_un1 hn (tyNone n1) (tyByt n2) (by decide +kernel) (fun W => ⟨.agg #[.int .i64 0, .pointer none], by kernel_rfl⟩) (fun W => ⟨.float .f64 0, by kernel_rfl⟩)
theorem unNoneTup (n1 : Int) (A2 : Option Addr) (n2 c2 : Nat) {n : Int} (hn : 1 ≤ n) (w : World) : Calls Tryz.prog 144 #[.int .i8 37, .iface 145 (.int .u8 n1), .iface 101 (.slice A2 n2 c2), .int .i64 n] w (CmpOut False w) :=
  cd_un1 hn (tyNone n1) (tyTup A2 n2 c2) (by decide +kernel) (fun W => ⟨.agg #[.int .i64 0, .pointer none], by kernel_rfl⟩) (fun W => ⟨.float .f64 0, by kernel_rfl⟩)
theorem unBoolNone (n1 : Bool) (n2 : Int) {n : Int} (hn : 1 ≤ n) (w : World) : Calls Tryz.prog 144 #[.int .i8 37, .iface 146 (.bool n1), .iface 145 (.int .u8 n2), .int .i64 n] w (CmpOut False w) :=
  cd_un1 hn (tyBool n1) (tyNone n2) (by decide +kernel) (fun W => ⟨.agg #[.int .i64 0, .pointer none], by kernel_rfl⟩) (fun W => ⟨.float .f64 0, by kernel_rfl⟩)
theorem unBoolInt (n1 : Bool) (n2 : Int) (a2 : Option Addr) {n : Int} (hn : 1 ≤ n) (w : World) : Calls Tryz.prog 144 #[.int .i8 37, .iface 146 (.bool n1), .iface 117 (.agg #[.int .i64 n2, .pointer a2]), .int .i64 n] w (CmpOut False w) :=
  cd_un1 hn (tyBool n1) (tyInt n2 a2) (by decide +kernel) (fun W => ⟨.agg #[.int .i64 0, .pointer none], by kernel_rfl⟩) (fun W => ⟨.float .f64 0, by kernel_rfl⟩)
theorem unBoolFlt (n1 : Bool) (n2 : Nat) {n : Int} (hn : 1 ≤ n) (w : World) : Calls Tryz.prog 144 #[.int .i8 37, .iface 146 (.bool n1), .iface 147 (.float .f64 n2), .int .i64 n] w (CmpOut False w) :=
  cd_un1 hn (tyBool n1) (tyFlt n2) (by decide +kernel) (fun W => ⟨.agg #[.int .i64 0, .pointer none], by kernel_rfl⟩) (fun W => ⟨.float .f64 0, by kernel_rfl⟩)
theorem unBoolStr (n1 : Bool) (n2 : ByteArray) {n : Int} (hn : 1 ≤ n) (w : World) : Calls Tryz.prog 144 #[.int .i8 37, .iface 146 (.bool n1), .iface 149 (.string n2), .int .i64 n] w (CmpOut False w) :=
  cd_un1 hn (tyBool n1) (tyStr n2) (by decide +kernel) (fun W => ⟨.agg #[.int .i64 0, .pointer none], by kernel_rfl⟩) (fun W => ⟨.float .f64 0, by kernel_rfl⟩)
theorem unBoolByt (n1 : Bool) (n2 : ByteArray) {n : Int} (hn : 1 ≤ n) (w : World) : Calls Tryz.prog 144 #[.int .i8 37, .iface 146 (.bool n1), .iface 150 (.string n2), .int .i64 n] w (CmpOut False w) :=
  cd_un1 hn (tyBool n1) (tyByt n2) (by decide +kernel) (fun W => ⟨.agg #[.int .i64 0, .pointer none], by kernel_rfl⟩) (fun W => ⟨.float .f64 0, by kernel_rfl⟩)
theorem unBoolTup (n1 : Bool) (A2 : Option Addr) (n2 c2 : Nat) {n : Int} (hn : 1 ≤ n) (w : World) : Calls Tryz.prog 144 #[.int .i8 37, .iface 146 (.bool n1), .iface 101 (.slice A2 n2 c2), .int .i64 n] w (CmpOut False w) :=
  cd_un1 hn (tyBool n1) (tyTup A2 n2 c2) (by decide +kernel) (fun W => ⟨.agg #[.int .i64 0, .pointer none], by kernel_rfl⟩) (fun W => ⟨.float .f64 0, by kernel_rfl⟩)
theorem unIntNone (n1 : Int) (a1 : Option Addr) (n2 : Int) {n : Int} (hn : 1 ≤ n) (w : World) : Calls Tryz.prog 144 #[.int .i8 37, .iface 117 (.agg #[.int .i64 n1, .pointer a1]), .iface 145 (.int .u8 n2), .int .i64 n] w (CmpOut False w) :=
  cd_unI hn (tyInt n1 a1) (tyNone n2) (by decide +kernel) (fun W => ⟨.float .f64 0, by kernel_rfl⟩)
theorem unIntBool (n1 : Int) (a1 : Option Addr) (n2 : Bool) {n : Int} (hn : 1 ≤ n) (w : World) : Calls Tryz.prog 144 #[.int .i8 37, .iface 117 (.agg #[.int .i64 n1, .pointer a1]), .iface 146 (.bool n2), .int .i64 n] w (CmpOut False w) :=
  cd_unI hn (tyInt n1 a1) (tyBool n2) (by decide +kernel) (fun W => ⟨.float .f64 0, by kernel_rfl⟩)
theorem unIntStr (n1 : Int) (a1 : Option Addr) (n2 : ByteArray) {n : Int} (hn : 1 ≤ n) (w : World) : Calls Tryz.prog 144 #[.int .i8 37, .iface 117 (.agg #[.int .i64 n1, .pointer a1]), .iface 149 (.string n2), .int .i64 n] w (CmpOut False w) :=
  cd_unI hn (tyInt n1 a1) (tyStr n2) (by decide +kernel) (fun W => ⟨.float .f64 0, by kernel_rfl⟩)
theorem unIntByt (n1 : Int) (a1 : Option Addr) (n2 : ByteArray) {n : Int} (hn : 1 ≤ n) (w : World) : Calls Tryz.prog 144 #[.int .i8 37, .iface 117 (.agg #[.int .i64 n1, .pointer a1]), .iface 150 (.string n2), .int .i64 n] w (CmpOut False w) :=
  cd_unI hn (tyInt n1 a1) (tyByt n2) (by decide +kernel) (fun W => ⟨.float .f64 0, by kernel_rfl⟩)
theorem unIntTup (n1 : Int) (a1 : Option Addr) (A2 : Option Addr) (n2 c2 : Nat) {n : Int} (hn : 1 ≤ n) (w : World) : Calls Tryz.prog 144 #[.int .i8 37, .iface 117 (.agg #[.int .i64 n1, .pointer a1]), .iface 101 (.slice A2 n2 c2), .int .i64 n] w (CmpOut False w) :=
  cd_unI hn (tyInt n1 a1) (tyTup A2 n2 c2) (by decide +kernel) (fun W => ⟨.float .f64 0, by kernel_rfl⟩)
theorem unFltNone (n1 : Nat) (n2 : Int) {n : Int} (hn : 1 ≤ n) (w : World) : Calls Tryz.prog 144 #[.int .i8 37, .iface 147 (.float .f64 n1), .iface 145 (.int .u8 n2), .int .i64 n] w (CmpOut False w) :=
  cd_unF hn (tyFlt n1) (tyNone n2) (by decide +kernel) (fun W => by kernel_rfl)
theorem unFltBool (n1 : Nat) (n2 : Bool) {n : Int} (hn : 1 ≤ n) (w : World) : Calls Tryz.prog 144 #[.int .i8 37, .iface 147 (.float .f64 n1), .iface 146 (.bool n2), .int .i64 n] w (CmpOut False w) :=
  cd_unF hn (tyFlt n1) (tyBool n2) (by decide +kernel) (fun W => by kernel_rfl)
theorem unFltStr (n1 : Nat) (n2 : ByteArray) {n : Int} (hn : 1 ≤ n) (w : World) : Calls Tryz.prog 144 #[.int .i8 37, .iface 147 (.float .f64 n1), .iface 149 (.string n2), .int .i64 n] w (CmpOut False w) :=
  cd_unF hn (tyFlt n1) (tyStr n2) (by decide +kernel) (fun W => by kernel_rfl)
theorem unFltByt (n1 : Nat) (n2 : ByteArray) {n : Int} (hn : 1 ≤ n) (w : World) : Calls Tryz.prog 144 #[.int .i8 37, .iface 147 (.float .f64 n1), .iface 150 (.string n2), .int .i64 n] w (CmpOut False w) :=
  cd_unF hn (tyFlt n1) (tyByt n2) (by decide +kernel) (fun W => by kernel_rfl)
theorem unFltTup (n1 : Nat) (A2 : Option Addr) (n2 c2 : Nat) {n : Int} (hn : 1 ≤ n) (w : World) : Calls Tryz.prog 144 #[.int .i8 37, .iface 147 (.float .f64 n1), .iface 101 (.slice A2 n2 c2), .int .i64 n] w (CmpOut False w) :=
  cd_unF hn (tyFlt n1) (tyTup A2 n2 c2) (by decide +kernel) (fun W => by kernel_rfl)
theorem unStrNone (n1 : ByteArray) (n2 : Int) {n : Int} (hn : 1 ≤ n) (w : World) : Calls Tryz.prog 144 #[.int .i8 37, .iface 149 (.string n1), .iface 145 (.int .u8 n2), .int .i64 n] w (CmpOut False w) :=
  cd_un1 hn (tyStr n1) (tyNone n2) (by decide +kernel) (fun W => ⟨.agg #[.int .i64 0, .pointer none], by kernel_rfl⟩) (fun W => ⟨.float .f64 0, by kernel_rfl⟩)
theorem unStrBool (n1 : ByteArray) (n2 : Bool) {n : Int} (hn : 1 ≤ n) (w : World) : Calls Tryz.prog 144 #[.int .i8 37, .iface 149 (.string n1), .iface 146 (.bool n2), .int .i64 n] w (CmpOut False w) :=
  cd_un1 hn (tyStr n1) (tyBool n2) (by decide +kernel) (fun W => ⟨.agg #[.int .i64 0, .pointer none], by kernel_rfl⟩) (fun W => ⟨.float .f64 0, by kernel_rfl⟩)
theorem unStrInt (n1 : ByteArray) (n2 : Int) (a2 : Option Addr) {n : Int} (hn : 1 ≤ n) (w : World) : Calls Tryz.prog 144 #[.int .i8 37, .iface 149 (.string n1), .iface 117 (.agg #[.int .i64 n2, .pointer a2]), .int .i64 n] w (CmpOut False w) :=
  cd_un1 hn (tyStr n1) (tyInt n2 a2) (by decide +kernel) (fun W => ⟨.agg #[.int .i64 0, .pointer none], by kernel_rfl⟩) (fun W => ⟨.float .f64 0, by kernel_rfl⟩)
theorem unStrFlt (n1 : ByteArray) (n2 : Nat) {n : Int} (hn : 1 ≤ n) (w : World) : Calls Tryz.prog 144 #[.int .i8 37, .iface 149 (.string n1), .iface 147 (.float .f64 n2), .int .i64 n] w (CmpOut False w) :=
  cd_un1 hn (tyStr n1) (tyFlt n2) (by decide +kernel) (fun W => ⟨.agg #[.int .i64 0, .pointer none], by kernel_rfl⟩) (fun W => ⟨.float .f64 0, by kernel_rfl⟩)
theorem unStrByt (n1 : ByteArray) (n2 : ByteArray) {n : Int} (hn : 1 ≤ n) (w : World) : Calls Tryz.prog 144 #[.int .i8 37, .iface 149 (.string n1), .iface 150 (.string n2), .int .i64 n] w (CmpOut False w) :=
  cd_un1 hn (tyStr n1) (tyByt n2) (by decide +kernel) (fun W => ⟨.agg #[.int .i64 0, .pointer none], by kernel_rfl⟩) (fun W => ⟨.float .f64 0, by kernel_rfl⟩)
theorem unStrTup (n1 : ByteArray) (A2 : Option Addr) (n2 c2 : Nat) {n : Int} (hn : 1 ≤ n) (w : World) : Calls Tryz.prog 144 #[.int .i8 37, .iface 149 (.string n1), .iface 101 (.slice A2 n2 c2), .int .i64 n] w (CmpOut False w) :=
  cd_un1 hn (tyStr n1) (tyTup A2 n2 c2) (by decide +kernel) (fun W => ⟨.agg #[.int .i64 0, .pointer none], by kernel_rfl⟩) (fun W => ⟨.float .f64 0, by kernel_rfl⟩)
theorem unBytNone (n1 : ByteArray) (n2 : Int) {n : Int} (hn : 1 ≤ n) (w : World) : Calls Tryz.prog 144 #[.int .i8 37, .iface 150 (.string n1), .iface 145 (.int .u8 n2), .int .i64 n] w (CmpOut False w) :=
  cd_un1 hn (tyByt n1) (tyNone n2) (by decide +kernel) (fun W => ⟨.agg #[.int .i64 0, .pointer none], by kernel_rfl⟩) (fun W => ⟨.float .f64 0, by kernel_rfl⟩)
theorem unBytBool (n1 : ByteArray) (n2 : Bool) {n : Int} (hn : 1 ≤ n) (w : World) : Calls Tryz.prog 144 #[.int .i8 37, .iface 150 (.string n1), .iface 146 (.bool n2), .int .i64 n] w (CmpOut False w) :=
  cd_un1 hn (tyByt n1) (tyBool n2) (by decide +kernel) (fun W => ⟨.agg #[.int .i64 0, .pointer none], by kernel_rfl⟩) (fun W => ⟨.float .f64 0, by kernel_rfl⟩)
theorem unBytInt (n1 : ByteArray) (n2 : Int) (a2 : Option Addr) {n : Int} (hn : 1 ≤ n) (w : World) : Calls Tryz.prog 144 #[.int .i8 37, .iface 150 (.string n1), .iface 117 (.agg #[.int .i64 n2, .pointer a2]), .int .i64 n] w (CmpOut False w) :=
  cd_un1 hn (tyByt n1) (tyInt n2 a2) (by decide +kernel) (fun W => ⟨.agg #[.int .i64 0, .pointer none], by kernel_rfl⟩) (fun W => ⟨.float .f64 0, by kernel_rfl⟩)
theorem unBytFlt (n1 : ByteArray) (n2 : Nat) {n : Int} (hn : 1 ≤ n) (w : World) : Calls Tryz.prog 144 #[.int .i8 37, .iface 150 (.string n1), .iface 147 (.float .f64 n2), .int .i64 n] w (CmpOut False w) :=
  cd_un1 hn (tyByt n1) (tyFlt n2) (by decide +kernel) (fun W => ⟨.agg #[.int .i64 0, .pointer none], by kernel_rfl⟩) (fun W => ⟨.float .f64 0, by kernel_rfl⟩)
theorem unBytStr (n1 : ByteArray) (n2 : ByteArray) {n : Int} (hn : 1 ≤ n) (w : World) : Calls Tryz.prog 144 #[.int .i8 37, .iface 150 (.string n1), .iface 149 (.string n2), .int .i64 n] w (CmpOut False w) :=
  cd_un1 hn (tyByt n1) (tyStr n2) (by decide +kernel) (fun W => ⟨.agg #[.int .i64 0, .pointer none], by kernel_rfl⟩) (fun W => ⟨.float .f64 0, by kernel_rfl⟩)
theorem unBytTup (n1 : ByteArray) (A2 : Option Addr) (n2 c2 : Nat) {n : Int} (hn : 1 ≤ n) (w : World) : Calls Tryz.prog 144 #[.int .i8 37, .iface 150 (.string n1), .iface 101 (.slice A2 n2 c2), .int .i64 n] w (CmpOut False w) :=
  cd_un1 hn (tyByt n1) (tyTup A2 n2 c2) (by decide +kernel) (fun W => ⟨.agg #[.int .i64 0, .pointer none], by kernel_rfl⟩) (fun W => ⟨.float .f64 0, by kernel_rfl⟩)
theorem unTupNone (A1 : Option Addr) (n1 c1 : Nat) (n2 : Int) {n : Int} (hn : 1 ≤ n) (w : World) : Calls Tryz.prog 144 #[.int .i8 37, .iface 101 (.slice A1 n1 c1), .iface 145 (.int .u8 n2), .int .i64 n] w (CmpOut False w) :=
  cd_un1 hn (tyTup A1 n1 c1) (tyNone n2) (by decide +kernel) (fun W => ⟨.agg #[.int .i64 0, .pointer none], by kernel_rfl⟩) (fun W => ⟨.float .f64 0, by kernel_rfl⟩)
theorem unTupBool (A1 : Option Addr) (n1 c1 : Nat) (n2 : Bool) {n : Int} (hn : 1 ≤ n) (w : World) : Calls Tryz.prog 144 #[.int .i8 37, .iface 101 (.slice A1 n1 c1), .iface 146 (.bool n2), .int .i64 n] w (CmpOut False w) :=
  cd_un1 hn (tyTup A1 n1 c1) (tyBool n2) (by decide +kernel) (fun W => ⟨.agg #[.int .i64 0, .pointer none], by kernel_rfl⟩) (fun W => ⟨.float .f64 0, by kernel_rfl⟩)
theorem unTupInt (A1 : Option Addr) (n1 c1 : Nat) (n2 : Int) (a2 : Option Addr) {n : Int} (hn : 1 ≤ n) (w : World) : Calls Tryz.prog 144 #[.int .i8 37, .iface 101 (.slice A1 n1 c1), .iface 117 (.agg #[.int .i64 n2, .pointer a2]), .int .i64 n] w (CmpOut False w) :=
  cd_un1 hn (tyTup A1 n1 c1) (tyInt n2 a2) (by decide +kernel) (fun W => ⟨.agg #[.int .i64 0, .pointer none], by kernel_rfl⟩) (fun W => ⟨.float .f64 0, by kernel_rfl⟩)
theorem unTupFlt (A1 : Option Addr) (n1 c1 : Nat) (n2 : Nat) {n : Int} (hn : 1 ≤ n) (w : World) : Calls Tryz.prog 144 #[.int .i8 37, .iface 101 (.slice A1 n1 c1), .iface 147 (.float .f64 n2), .int .i64 n] w (CmpOut False w) :=
  cd_un1 hn (tyTup A1 n1 c1) (tyFlt n2) (by decide +kernel) (fun W => ⟨.agg #[.int .i64 0, .pointer none], by kernel_rfl⟩) (fun W => ⟨.float .f64 0, by kernel_rfl⟩)
theorem unTupStr (A1 : Option Addr) (n1 c1 : Nat) (n2 : ByteArray) {n : Int} (hn : 1 ≤ n) (w : World) : Calls Tryz.prog 144 #[.int .i8 37, .iface 101 (.slice A1 n1 c1), .iface 149 (.string n2), .int .i64 n] w (CmpOut False w) :=
  cd_un1 hn (tyTup A1 n1 c1) (tyStr n2) (by decide +kernel) (fun W => ⟨.agg #[.int .i64 0, .pointer none], by kernel_rfl⟩) (fun W => ⟨.float .f64 0, by kernel_rfl⟩)
theorem unTupByt (A1 : Option Addr) (n1 c1 : Nat) (n2 : ByteArray) {n : Int} (hn : 1 ≤ n) (w : World) : Calls Tryz.prog 144 #[.int .i8 37, .iface 101 (.slice A1 n1 c1), .iface 150 (.string n2), .int .i64 n] w (CmpOut False w) :=
  cd_un1 hn (tyTup A1 n1 c1) (tyByt n2) (by decide +kernel) (fun W => ⟨.agg #[.int .i64 0, .pointer none], by kernel_rfl⟩) (fun W => ⟨.float .f64 0, by kernel_rfl⟩)

def CDc (P : Prop) (v v' : Value) (n : Int) (w : World) : Prop := Calls Tryz.prog 144 #[.int .i8 37, v, v', .int .i64 n] w (CmpOut P w)
theorem CDc.no {v v' : Value} {n : Int} {w : World} (h : Calls Tryz.prog 144 #[.int .i8 37, v, v', .int .i64 n] w (CmpOut False w)) (P : Prop) : CDc P v v' n w := h.mono (fun _ _ h => h.imp False.elim)

theorem cdBool (a b : Bool) {n : Int} (hn : 1 ≤ n) (w : World) : CDc (a = b) (.iface 146 (.bool a)) (.iface 146 (.bool b)) n w :=
  cd_cst (F := 314) hn (tyBool a) (tyBool b) (by simp) (fun W => run_typeAssert_hasB Tryz.underlying275 (by kernel_rfl) _ _ W) (fun W => by kernel_rfl) (fun W => by kernel_rfl) (fun W _ => cstBool a b n W)
theorem cdStr (a b : ByteArray) {n : Int} (hn : 1 ≤ n) (w : World) : CDc (a = b) (.iface 149 (.string a)) (.iface 149 (.string b)) n w :=
  cd_cst (F := 332) hn (tyStr a) (tyStr b) (by simp) (fun W => run_typeAssert_hasB Tryz.underlying275 (by kernel_rfl) _ _ W) (fun W => by kernel_rfl) (fun W => by kernel_rfl) (fun W _ => cstStr a b n W)
theorem cdByt (a b : ByteArray) {n : Int} (hn : 1 ≤ n) (w : World) : CDc (a = b) (.iface 150 (.string a)) (.iface 150 (.string b)) n w :=
  cd_cst (F := 343) hn (tyByt a) (tyByt b) (by simp) (fun W => run_typeAssert_hasB Tryz.underlying275 (by kernel_rfl) _ _ W) (fun W => by kernel_rfl) (fun W => by kernel_rfl) (fun W _ => cstByt a b n W)
theorem cdInt {B B' : Nat} {s s' : Int} {a a' : Option Addr} {x y : Int} {n : Int} (hn : 1 ≤ n) {w : World} (h : SI B (.agg #[.int .i64 s, .pointer a]) x w) (h' : SI B' (.agg #[.int .i64 s', .pointer a']) y w) : CDc (x = y) (.iface 117 (.agg #[.int .i64 s, .pointer a])) (.iface 117 (.agg #[.int .i64 s', .pointer a'])) n w :=
  cd_cmp (F := 300) hn (tyInt s a) (tyInt s' a') (by simp) (fun W => run_typeAssert_lacksB Tryz.underlying275 (by kernel_rfl) (by kernel_rfl) _ _ W) (fun W => run_typeAssert_hasB Tryz.underlying279 (by kernel_rfl) _ _ W) (fun W => by kernel_rfl) (fun W => by kernel_rfl) (fun W hW => cmpS_any (h.up hW) (h'.up hW))
theorem cdFlt (u v : Nat) (hu : u < 18446744073709551616) (hv : v < 18446744073709551616) {n : Int} (hn : 1 ≤ n) (w : World) : CDc (fcl u = fcl v) (.iface 147 (.float .f64 u)) (.iface 147 (.float .f64 v)) n w :=
  cd_cmp (F := 321) hn (tyFlt u) (tyFlt v) (by simp) (fun W => run_typeAssert_lacksB Tryz.underlying275 (by kernel_rfl) (by kernel_rfl) _ _ W) (fun W => run_typeAssert_hasB Tryz.underlying279 (by kernel_rfl) _ _ W) (fun W => by kernel_rfl) (fun W => by kernel_rfl) (fun W _ => (cmpF_any u v n hu hv W).mono (by rintro e w' ⟨c, rfl, hc, rfl⟩; exact ⟨c, rfl, hc, Below.refl _ _⟩))
end Go.Proofs.YtloloifngbmibaaGreatDoor
