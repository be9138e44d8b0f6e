/- CompareDepth: all unlike types; all flat values. Comparing tuples. The language's Equal on keys. The language's Equal. -/
import Derived.Test.YtloloifngbmibaaGreatDoorM24
import Derived.Test.YtloloifngbmibaaGreatDoorM17
set_option linter.unusedVariables false
set_option linter.unusedSimpArgs false
set_option maxRecDepth 4000
namespace Go.Proofs.YtloloifngbmibaaGreatDoor
open Go.RowKit Go.Extern.Stop Go.Stop

theorem CmpOut.imp {P Q : Prop} (hpq : P → Q) {w : World} {e : Ending} {w' : World} (h : CmpOut P w e w') : CmpOut Q w e w' := by
  obtain ⟨r, h1, h2, h3⟩ := h
  exact ⟨r, h1, fun h => hpq (h2 h), h3⟩
theorem unNoneBool (n1 : Int) (n2 : Bool) {n : Int} (hn : 1 ≤ n) (w : World) : Calls Tryz.prog 144 #[.int .i8 37, .iface 145 (.int .u8 n1), .iface 146 (.bool n2), .int .i64 n] w (CmpOut False w) :=
  cd_un1 hn (tyNone n1) (tyBool n2) (by decide +kernel) (fun W => ⟨.agg #[.int .i64 0, .pointer none], by kernel_rfl⟩) (fun W => ⟨.float .f64 0, by kernel_rfl⟩)
theorem unNoneInt (n1 : Int) (n2 : Int) (a2 : Option Addr) {n : Int} (hn : 1 ≤ n) (w : World) : Calls Tryz.prog 144 #[.int .i8 37, .iface 145 (.int .u8 n1), .iface 117 (.agg #[.int .i64 n2, .pointer a2]), .int .i64 n] w (CmpOut False w) :=
  cd_un1 hn (tyNone n1) (tyInt n2 a2) (by decide +kernel) (fun W => ⟨.agg #[.int .i64 0, .pointer none], by kernel_rfl⟩) (fun W => ⟨.float .f64 0, by kernel_rfl⟩)
theorem unNoneFlt (n1 : Int) (n2 : Nat) {n : Int} (hn : 1 ≤ n) (w : World) : Calls Tryz.prog 144 #[.int .i8 37, .iface 145 (.int .u8 n1), .iface 147 (.float .f64 n2), .int .i64 n] w (CmpOut False w) :=
  cd_un1 hn (tyNone n1) (tyFlt n2) (by decide +kernel) (fun W => ⟨.agg #[.int .i64 0, .pointer none], by kernel_rfl⟩) (fun W => ⟨.float .f64 0, by kernel_rfl⟩)
theorem unNoneStr (n1 : Int) (n2 : ByteArray) {n : Int} (hn : 1 ≤ n) (w : World) : Calls Tryz.prog 144 #[.int .i8 37, .iface 145 (.int .u8 n1), .iface 149 (.string n2), .int .i64 n] w (CmpOut False w) :=
  cd_un1 hn (tyNone n1) (tyStr n2) (by decide +kernel) (fun W => ⟨.agg #[.int .i64 0, .pointer none], by kernel_rfl⟩) (fun W => ⟨.float .f64 0, by kernel_rfl⟩)
theorem unNoneByt (n1 : Int) (n2 : ByteArray) {n : Int} (hn : 1 ≤ n) (w : World) : Calls Tryz.prog 144 #[.int .i8 37, .iface 145 (.int .u8 n1), .iface 150 (.string n2), .int .i64 n] w (CmpOut False w) :=
  cd_un1 hn (tyNone n1) (tyByt n2) (by decide +kernel) (fun W => ⟨.agg #[.int .i64 0, .pointer none], by kernel_rfl⟩) (fun W => ⟨.float .f64 0, by kernel_rfl⟩)
theorem unNoneTup (n1 : Int) (A2 : Option Addr) (n2 c2 : Nat) {n : Int} (hn : 1 ≤ n) (w : World) : Calls Tryz.prog 144 #[.int .i8 37, .iface 145 (.int .u8 n1), .iface 101 (.slice A2 n2 c2), .int .i64 n] w (CmpOut False w) :=
  cd_un1 hn (tyNone n1) (tyTup A2 n2 c2) (by decide +kernel) (fun W => ⟨.agg #[.int .i64 0, .pointer none], by kernel_rfl⟩) (fun W => ⟨.float .f64 0, by kernel_rfl⟩)
theorem unBoolNone (n1 : Bool) (n2 : Int) {n : Int} (hn : 1 ≤ n) (w : World) : Calls Tryz.prog 144 #[.int .i8 37, .iface 146 (.bool n1), .iface 145 (.int .u8 n2), .int .i64 n] w (CmpOut False w) :=
  cd_un1 hn (tyBool n1) (tyNone n2) (by decide +kernel) (fun W => ⟨.agg #[.int .i64 0, .pointer none], by kernel_rfl⟩) (fun W => ⟨.float .f64 0, by kernel_rfl⟩)
theorem unBoolInt (n1 : Bool) (n2 : Int) (a2 : Option Addr) {n : Int} (hn : 1 ≤ n) (w : World) : Calls Tryz.prog 144 #[.int .i8 37, .iface 146 (.bool n1), .iface 117 (.agg #[.int .i64 n2, .pointer a2]), .int .i64 n] w (CmpOut False w) :=
  cd_un1 hn (tyBool n1) (tyInt n2 a2) (by decide +kernel) (fun W => ⟨.agg #[.int .i64 0, .pointer none], by kernel_rfl⟩) (fun W => ⟨.float .f64 0, by kernel_rfl⟩)
theorem unBoolFlt (n1 : Bool) (n2 : Nat) {n : Int} (hn : 1 ≤ n) (w : World) : Calls Tryz.prog 144 #[.int .i8 37, .iface 146 (.bool n1), .iface 147 (.float .f64 n2), .int .i64 n] w (CmpOut False w) :=
  cd_un1 hn (tyBool n1) (tyFlt n2) (by decide +kernel) (fun W => ⟨.agg #[.int .i64 0, .pointer none], by kernel_rfl⟩) (fun W => ⟨.float .f64 0, by kernel_rfl⟩)
theorem unBoolStr (n1 : Bool) (n2 : ByteArray) {n : Int} (hn : 1 ≤ n) (w : World) : Calls Tryz.prog 144 #[.int .i8 37, .iface 146 (.bool n1), .iface 149 (.string n2), .int .i64 n] w (CmpOut False w) :=
  cd_un1 hn (tyBool n1) (tyStr n2) (by decide +kernel) (fun W => ⟨.agg #[.int .i64 0, .pointer none], by kernel_rfl⟩) (fun W => ⟨.float .f64 0, by kernel_rfl⟩)
theorem unBoolByt (n1 : Bool) (n2 : ByteArray) {n : Int} (hn : 1 ≤ n) (w : World) : Calls Tryz.prog 144 #[.int .i8 37, .iface 146 (.bool n1), .iface 150 (.string n2), .int .i64 n] w (CmpOut False w) :=
  cd_un1 hn (tyBool n1) (tyByt n2) (by decide +kernel) (fun W => ⟨.agg #[.int .i64 0, .pointer none], by kernel_rfl⟩) (fun W => ⟨.float .f64 0, by kernel_rfl⟩)
theorem unBoolTup (n1 : Bool) (A2 : Option Addr) (n2 c2 : Nat) {n : Int} (hn : 1 ≤ n) (w : World) : Calls Tryz.prog 144 #[.int .i8 37, .iface 146 (.bool n1), .iface 101 (.slice A2 n2 c2), .int .i64 n] w (CmpOut False w) :=
  cd_un1 hn (tyBool n1) (tyTup A2 n2 c2) (by decide +kernel) (fun W => ⟨.agg #[.int .i64 0, .pointer none], by kernel_rfl⟩) (fun W => ⟨.float .f64 0, by kernel_rfl⟩)
theorem unIntNone (n1 : Int) (a1 : Option Addr) (n2 : Int) {n : Int} (hn : 1 ≤ n) (w : World) : Calls Tryz.prog 144 #[.int .i8 37, .iface 117 (.agg #[.int .i64 n1, .pointer a1]), .iface 145 (.int .u8 n2), .int .i64 n] w (CmpOut False w) :=
  cd_unI hn (tyInt n1 a1) (tyNone n2) (by decide +kernel) (fun W => ⟨.float .f64 0, by kernel_rfl⟩)
theorem unIntBool (n1 : Int) (a1 : Option Addr) (n2 : Bool) {n : Int} (hn : 1 ≤ n) (w : World) : Calls Tryz.prog 144 #[.int .i8 37, .iface 117 (.agg #[.int .i64 n1, .pointer a1]), .iface 146 (.bool n2), .int .i64 n] w (CmpOut False w) :=
  cd_unI hn (tyInt n1 a1) (tyBool n2) (by decide +kernel) (fun W => ⟨.float .f64 0, by kernel_rfl⟩)
theorem unIntStr (n1 : Int) (a1 : Option Addr) (n2 : ByteArray) {n : Int} (hn : 1 ≤ n) (w : World) : Calls Tryz.prog 144 #[.int .i8 37, .iface 117 (.agg #[.int .i64 n1, .pointer a1]), .iface 149 (.string n2), .int .i64 n] w (CmpOut False w) :=
  cd_unI hn (tyInt n1 a1) (tyStr n2) (by decide +kernel) (fun W => ⟨.float .f64 0, by kernel_rfl⟩)
theorem unIntByt (n1 : Int) (a1 : Option Addr) (n2 : ByteArray) {n : Int} (hn : 1 ≤ n) (w : World) : Calls Tryz.prog 144 #[.int .i8 37, .iface 117 (.agg #[.int .i64 n1, .pointer a1]), .iface 150 (.string n2), .int .i64 n] w (CmpOut False w) :=
  cd_unI hn (tyInt n1 a1) (tyByt n2) (by decide +kernel) (fun W => ⟨.float .f64 0, by kernel_rfl⟩)
theorem unIntTup (n1 : Int) (a1 : Option Addr) (A2 : Option Addr) (n2 c2 : Nat) {n : Int} (hn : 1 ≤ n) (w : World) : Calls Tryz.prog 144 #[.int .i8 37, .iface 117 (.agg #[.int .i64 n1, .pointer a1]), .iface 101 (.slice A2 n2 c2), .int .i64 n] w (CmpOut False w) :=
  cd_unI hn (tyInt n1 a1) (tyTup A2 n2 c2) (by decide +kernel) (fun W => ⟨.float .f64 0, by kernel_rfl⟩)
theorem unFltNone (n1 : Nat) (n2 : Int) {n : Int} (hn : 1 ≤ n) (w : World) : Calls Tryz.prog 144 #[.int .i8 37, .iface 147 (.float .f64 n1), .iface 145 (.int .u8 n2), .int .i64 n] w (CmpOut False w) :=
  cd_unF hn (tyFlt n1) (tyNone n2) (by decide +kernel) (fun W => by kernel_rfl)
theorem unFltBool (n1 : Nat) (n2 : Bool) {n : Int} (hn : 1 ≤ n) (w : World) : Calls Tryz.prog 144 #[.int .i8 37, .iface 147 (.float .f64 n1), .iface 146 (.bool n2), .int .i64 n] w (CmpOut False w) :=
  cd_unF hn (tyFlt n1) (tyBool n2) (by decide +kernel) (fun W => by kernel_rfl)
theorem unFltStr (n1 : Nat) (n2 : ByteArray) {n : Int} (hn : 1 ≤ n) (w : World) : Calls Tryz.prog 144 #[.int .i8 37, .iface 147 (.float .f64 n1), .iface 149 (.string n2), .int .i64 n] w (CmpOut False w) :=
  cd_unF hn (tyFlt n1) (tyStr n2) (by decide +kernel) (fun W => by kernel_rfl)
theorem unFltByt (n1 : Nat) (n2 : ByteArray) {n : Int} (hn : 1 ≤ n) (w : World) : Calls Tryz.prog 144 #[.int .i8 37, .iface 147 (.float .f64 n1), .iface 150 (.string n2), .int .i64 n] w (CmpOut False w) :=
  cd_unF hn (tyFlt n1) (tyByt n2) (by decide +kernel) (fun W => by kernel_rfl)
theorem unFltTup (n1 : Nat) (A2 : Option Addr) (n2 c2 : Nat) {n : Int} (hn : 1 ≤ n) (w : World) : Calls Tryz.prog 144 #[.int .i8 37, .iface 147 (.float .f64 n1), .iface 101 (.slice A2 n2 c2), .int .i64 n] w (CmpOut False w) :=
  cd_unF hn (tyFlt n1) (tyTup A2 n2 c2) (by decide +kernel) (fun W => by kernel_rfl)
theorem unStrNone (n1 : ByteArray) (n2 : Int) {n : Int} (hn : 1 ≤ n) (w : World) : Calls Tryz.prog 144 #[.int .i8 37, .iface 149 (.string n1), .iface 145 (.int .u8 n2), .int .i64 n] w (CmpOut False w) :=
  cd_un1 hn (tyStr n1) (tyNone n2) (by decide +kernel) (fun W => ⟨.agg #[.int .i64 0, .pointer none], by kernel_rfl⟩) (fun W => ⟨.float .f64 0, by kernel_rfl⟩)
theorem unStrBool (n1 : ByteArray) (n2 : Bool) {n : Int} (hn : 1 ≤ n) (w : World) : Calls Tryz.prog 144 #[.int .i8 37, .iface 149 (.string n1), .iface 146 (.bool n2), .int .i64 n] w (CmpOut False w) :=
  cd_un1 hn (tyStr n1) (tyBool n2) (by decide +kernel) (fun W => ⟨.agg #[.int .i64 0, .pointer none], by kernel_rfl⟩) (fun W => ⟨.float .f64 0, by kernel_rfl⟩)
theorem unStrInt (n1 : ByteArray) (n2 : Int) (a2 : Option Addr) {n : Int} (hn : 1 ≤ n) (w : World) : Calls Tryz.prog 144 #[.int .i8 37, .iface 149 (.string n1), .iface 117 (.agg #[.int .i64 n2, .pointer a2]), .int .i64 n] w (CmpOut False w) :=
  cd_un1 hn (tyStr n1) (tyInt n2 a2) (by decide +kernel) (fun W => ⟨.agg #[.int .i64 0, .pointer none], by kernel_rfl⟩) (fun W => ⟨.float .f64 0, by kernel_rfl⟩)
theorem unStrFlt (n1 : ByteArray) (n2 : Nat) {n : Int} (hn : 1 ≤ n) (w : World) : Calls Tryz.prog 144 #[.int .i8 37, .iface 149 (.string n1), .iface 147 (.float .f64 n2), .int .i64 n] w (CmpOut False w) :=
  cd_un1 hn (tyStr n1) (tyFlt n2) (by decide +kernel) (fun W => ⟨.agg #[.int .i64 0, .pointer none], by kernel_rfl⟩) (fun W => ⟨.float .f64 0, by kernel_rfl⟩)
theorem unStrByt (n1 : ByteArray) (n2 : ByteArray) {n : Int} (hn : 1 ≤ n) (w : World) : Calls Tryz.prog 144 #[.int .i8 37, .iface 149 (.string n1), .iface 150 (.string n2), .int .i64 n] w (CmpOut False w) :=
  cd_un1 hn (tyStr n1) (tyByt n2) (by decide +kernel) (fun W => ⟨.agg #[.int .i64 0, .pointer none], by kernel_rfl⟩) (fun W => ⟨.float .f64 0, by kernel_rfl⟩)
theorem unStrTup (n1 : ByteArray) (A2 : Option Addr) (n2 c2 : Nat) {n : Int} (hn : 1 ≤ n) (w : World) : Calls Tryz.prog 144 #[.int .i8 37, .iface 149 (.string n1), .iface 101 (.slice A2 n2 c2), .int .i64 n] w (CmpOut False w) :=
  cd_un1 hn (tyStr n1) (tyTup A2 n2 c2) (by decide +kernel) (fun W => ⟨.agg #[.int .i64 0, .pointer none], by kernel_rfl⟩) (fun W => ⟨.float .f64 0, by kernel_rfl⟩)
theorem unBytNone (n1 : ByteArray) (n2 : Int) {n : Int} (hn : 1 ≤ n) (w : World) : Calls Tryz.prog 144 #[.int .i8 37, .iface 150 (.string n1), .iface 145 (.int .u8 n2), .int .i64 n] w (CmpOut False w) :=
  cd_un1 hn (tyByt n1) (tyNone n2) (by decide +kernel) (fun W => ⟨.agg #[.int .i64 0, .pointer none], by kernel_rfl⟩) (fun W => ⟨.float .f64 0, by kernel_rfl⟩)
theorem unBytBool (n1 : ByteArray) (n2 : Bool) {n : Int} (hn : 1 ≤ n) (w : World) : Calls Tryz.prog 144 #[.int .i8 37, .iface 150 (.string n1), .iface 146 (.bool n2), .int .i64 n] w (CmpOut False w) :=
  cd_un1 hn (tyByt n1) (tyBool n2) (by decide +kernel) (fun W => ⟨.agg #[.int .i64 0, .pointer none], by kernel_rfl⟩) (fun W => ⟨.float .f64 0, by kernel_rfl⟩)
theorem unBytInt (n1 : ByteArray) (n2 : Int) (a2 : Option Addr) {n : Int} (hn : 1 ≤ n) (w : World) : Calls Tryz.prog 144 #[.int .i8 37, .iface 150 (.string n1), .iface 117 (.agg #[.int .i64 n2, .pointer a2]), .int .i64 n] w (CmpOut False w) :=
  cd_un1 hn (tyByt n1) (tyInt n2 a2) (by decide +kernel) (fun W => ⟨.agg #[.int .i64 0, .pointer none], by kernel_rfl⟩) (fun W => ⟨.float .f64 0, by kernel_rfl⟩)
theorem unBytFlt (n1 : ByteArray) (n2 : Nat) {n : Int} (hn : 1 ≤ n) (w : World) : Calls Tryz.prog 144 #[.int .i8 37, .iface 150 (.string n1), .iface 147 (.float .f64 n2), .int .i64 n] w (CmpOut False w) :=
  cd_un1 hn (tyByt n1) (tyFlt n2) (by decide +kernel) (fun W => ⟨.agg #[.int .i64 0, .pointer none], by kernel_rfl⟩) (fun W => ⟨.float .f64 0, by kernel_rfl⟩)
theorem unBytStr (n1 : ByteArray) (n2 : ByteArray) {n : Int} (hn : 1 ≤ n) (w : World) : Calls Tryz.prog 144 #[.int .i8 37, .iface 150 (.string n1), .iface 149 (.string n2), .int .i64 n] w (CmpOut False w) :=
  cd_un1 hn (tyByt n1) (tyStr n2) (by decide +kernel) (fun W => ⟨.agg #[.int .i64 0, .pointer none], by kernel_rfl⟩) (fun W => ⟨.float .f64 0, by kernel_rfl⟩)
theorem unBytTup (n1 : ByteArray) (A2 : Option Addr) (n2 c2 : Nat) {n : Int} (hn : 1 ≤ n) (w : World) : Calls Tryz.prog 144 #[.int .i8 37, .iface 150 (.string n1), .iface 101 (.slice A2 n2 c2), .int .i64 n] w (CmpOut False w) :=
  cd_un1 hn (tyByt n1) (tyTup A2 n2 c2) (by decide +kernel) (fun W => ⟨.agg #[.int .i64 0, .pointer none], by kernel_rfl⟩) (fun W => ⟨.float .f64 0, by kernel_rfl⟩)
theorem unTupNone (A1 : Option Addr) (n1 c1 : Nat) (n2 : Int) {n : Int} (hn : 1 ≤ n) (w : World) : Calls Tryz.prog 144 #[.int .i8 37, .iface 101 (.slice A1 n1 c1), .iface 145 (.int .u8 n2), .int .i64 n] w (CmpOut False w) :=
  cd_un1 hn (tyTup A1 n1 c1) (tyNone n2) (by decide +kernel) (fun W => ⟨.agg #[.int .i64 0, .pointer none], by kernel_rfl⟩) (fun W => ⟨.float .f64 0, by kernel_rfl⟩)
theorem unTupBool (A1 : Option Addr) (n1 c1 : Nat) (n2 : Bool) {n : Int} (hn : 1 ≤ n) (w : World) : Calls Tryz.prog 144 #[.int .i8 37, .iface 101 (.slice A1 n1 c1), .iface 146 (.bool n2), .int .i64 n] w (CmpOut False w) :=
  cd_un1 hn (tyTup A1 n1 c1) (tyBool n2) (by decide +kernel) (fun W => ⟨.agg #[.int .i64 0, .pointer none], by kernel_rfl⟩) (fun W => ⟨.float .f64 0, by kernel_rfl⟩)
theorem unTupInt (A1 : Option Addr) (n1 c1 : Nat) (n2 : Int) (a2 : Option Addr) {n : Int} (hn : 1 ≤ n) (w : World) : Calls Tryz.prog 144 #[.int .i8 37, .iface 101 (.slice A1 n1 c1), .iface 117 (.agg #[.int .i64 n2, .pointer a2]), .int .i64 n] w (CmpOut False w) :=
  cd_un1 hn (tyTup A1 n1 c1) (tyInt n2 a2) (by decide +kernel) (fun W => ⟨.agg #[.int .i64 0, .pointer none], by kernel_rfl⟩) (fun W => ⟨.float .f64 0, by kernel_rfl⟩)
theorem unTupFlt (A1 : Option Addr) (n1 c1 : Nat) (n2 : Nat) {n : Int} (hn : 1 ≤ n) (w : World) : Calls Tryz.prog 144 #[.int .i8 37, .iface 101 (.slice A1 n1 c1), .iface 147 (.float .f64 n2), .int .i64 n] w (CmpOut False w) :=
  cd_un1 hn (tyTup A1 n1 c1) (tyFlt n2) (by decide +kernel) (fun W => ⟨.agg #[.int .i64 0, .pointer none], by kernel_rfl⟩) (fun W => ⟨.float .f64 0, by kernel_rfl⟩)
theorem unTupStr (A1 : Option Addr) (n1 c1 : Nat) (n2 : ByteArray) {n : Int} (hn : 1 ≤ n) (w : World) : Calls Tryz.prog 144 #[.int .i8 37, .iface 101 (.slice A1 n1 c1), .iface 149 (.string n2), .int .i64 n] w (CmpOut False w) :=
  cd_un1 hn (tyTup A1 n1 c1) (tyStr n2) (by decide +kernel) (fun W => ⟨.agg #[.int .i64 0, .pointer none], by kernel_rfl⟩) (fun W => ⟨.float .f64 0, by kernel_rfl⟩)
theorem unTupByt (A1 : Option Addr) (n1 c1 : Nat) (n2 : ByteArray) {n : Int} (hn : 1 ≤ n) (w : World) : Calls Tryz.prog 144 #[.int .i8 37, .iface 101 (.slice A1 n1 c1), .iface 150 (.string n2), .int .i64 n] w (CmpOut False w) :=
  cd_un1 hn (tyTup A1 n1 c1) (tyByt n2) (by decide +kernel) (fun W => ⟨.agg #[.int .i64 0, .pointer none], by kernel_rfl⟩) (fun W => ⟨.float .f64 0, by kernel_rfl⟩)

def CDc (P : Prop) (v v' : Value) (n : Int) (w : World) : Prop := Calls Tryz.prog 144 #[.int .i8 37, v, v', .int .i64 n] w (CmpOut P w)
theorem CDc.no {v v' : Value} {n : Int} {w : World} (h : Calls Tryz.prog 144 #[.int .i8 37, v, v', .int .i64 n] w (CmpOut False w)) (P : Prop) : CDc P v v' n w := h.mono (fun _ _ h => h.imp False.elim)

theorem cdBool (a b : Bool) {n : Int} (hn : 1 ≤ n) (w : World) : CDc (a = b) (.iface 146 (.bool a)) (.iface 146 (.bool b)) n w :=
  cd_cst (F := 314) hn (tyBool a) (tyBool b) (by simp) (fun W => run_typeAssert_hasB Tryz.underlying275 (by kernel_rfl) _ _ W) (fun W => by kernel_rfl) (fun W => by kernel_rfl) (fun W _ => cstBool a b n W)
theorem cdStr (a b : ByteArray) {n : Int} (hn : 1 ≤ n) (w : World) : CDc (a = b) (.iface 149 (.string a)) (.iface 149 (.string b)) n w :=
  cd_cst (F := 332) hn (tyStr a) (tyStr b) (by simp) (fun W => run_typeAssert_hasB Tryz.underlying275 (by kernel_rfl) _ _ W) (fun W => by kernel_rfl) (fun W => by kernel_rfl) (fun W _ => cstStr a b n W)
theorem cdByt (a b : ByteArray) {n : Int} (hn : 1 ≤ n) (w : World) : CDc (a = b) (.iface 150 (.string a)) (.iface 150 (.string b)) n w :=
  cd_cst (F := 343) hn (tyByt a) (tyByt b) (by simp) (fun W => run_typeAssert_hasB Tryz.underlying275 (by kernel_rfl) _ _ W) (fun W => by kernel_rfl) (fun W => by kernel_rfl) (fun W _ => cstByt a b n W)
theorem cdInt {B B' : Nat} {s s' : Int} {a a' : Option Addr} {x y : Int} {n : Int} (hn : 1 ≤ n) {w : World} (h : SI B (.agg #[.int .i64 s, .pointer a]) x w) (h' : SI B' (.agg #[.int .i64 s', .pointer a']) y w) : CDc (x = y) (.iface 117 (.agg #[.int .i64 s, .pointer a])) (.iface 117 (.agg #[.int .i64 s', .pointer a'])) n w :=
  cd_cmp (F := 300) hn (tyInt s a) (tyInt s' a') (by simp) (fun W => run_typeAssert_lacksB Tryz.underlying275 (by kernel_rfl) (by kernel_rfl) _ _ W) (fun W => run_typeAssert_hasB Tryz.underlying279 (by kernel_rfl) _ _ W) (fun W => by kernel_rfl) (fun W => by kernel_rfl) (fun W hW => cmpS_any (h.up hW) (h'.up hW))
theorem cdFlt (u v : Nat) (hu : u < 18446744073709551616) (hv : v < 18446744073709551616) {n : Int} (hn : 1 ≤ n) (w : World) : CDc (fcl u = fcl v) (.iface 147 (.float .f64 u)) (.iface 147 (.float .f64 v)) n w :=
  cd_cmp (F := 321) hn (tyFlt u) (tyFlt v) (by simp) (fun W => run_typeAssert_lacksB Tryz.underlying275 (by kernel_rfl) (by kernel_rfl) _ _ W) (fun W => run_typeAssert_hasB Tryz.underlying279 (by kernel_rfl) _ _ W) (fun W => by kernel_rfl) (fun W => by kernel_rfl) (fun W _ => (cmpF_any u v n hu hv W).mono (by rintro e w' ⟨c, rfl, hc, rfl⟩; exact ⟨c, rfl, hc, Below.refl _ _⟩))
end Go.Proofs.YtloloifngbmibaaGreatDoor
set_option linter.unusedVariables false
set_option linter.unusedSimpArgs false
set_option maxRecDepth 4000
namespace Go.Proofs.YtloloifngbmibaaGreatDoor
open Go.RowKit Go.Extern.Stop Go.Stop

theorem ed_any {P : Prop} {v v' : Value} {n : Int} {w : World} (h : CDc P v v' n w) : Calls Tryz.prog 135 #[v, v', .int .i64 n] w (CmpOut P w) := by
  have HC := Lib.hid h
  clear h
  go_enter Tryz.func135, Tryz.ntmps135
  go_wp2_with fail
  refine (HC.out).mono ?_
  rintro e w1 ⟨r, rfl, hr, hb⟩
  have HR := Lib.hid (And.intro hr hb)
  clear hr hb
  go_wp2
  go_ret2
  exact CmpOut.mk' HR.out.1 HR.out.2

/-- TwoC cells of interface values. -/
abbrev TwoC (w : World) (b o b' o' : Nat) (v v' : Value) (W : World) : Prop := Below w.heap.size w W ∧ W.cell? ⟨b, o, none⟩ = some v ∧ W.cell? ⟨b', o', none⟩ = some v'
theorem TwoC.up {w : World} {b o b' o' : Nat} {v v' : Value} {W W' : World} (h : TwoC w b o b' o' v v' W) (hb : Below W.heap.size W W') : TwoC w b o b' o' v v' W' := ⟨below_up h.1 hb, cell_up hb h.2.1, cell_up hb h.2.2⟩

theorem sc_core (P : Nat → Prop) (A A' : Option Addr) (n n' c c' : Nat) (dp : Int) (hd : 1 ≤ dp ∧ dp ≤ 100) (hn : n ≤ 1000) (hn' : n' ≤ 1000) (w : World)
    (H : n = n' → ∀ i, i < n → ∀ W, Below w.heap.size w W → ∃ v v' b o b' o', A = some ⟨b, o, none⟩ ∧ A' = some ⟨b', o', none⟩ ∧ v.oneCell' = true ∧ v'.oneCell' = true ∧ W.cell? ⟨b, o + i, none⟩ = some v ∧ W.cell? ⟨b', o' + i, none⟩ = some v' ∧ ∀ W', Below W.heap.size W W' → CDc (P i) v v' (dp - 1) W') :
    Calls Tryz.prog 266 #[.int .i8 37, .slice A n c, .slice A' n' c', .int .i64 dp] w (CmpOut (n = n' ∧ ∀ i, i < n → P i) w) := by
  by_cases hne : n = n'
  · subst hne
    have HH := Lib.hid (H rfl)
    have hw : IntKind.i64.wrap (dp - 1) = dp - 1 := by rw [IntKind.wrap_i64]; omega
    have H3 := Lib.hid (fun c w => three37 c w)
    have hz : (n : Int) - (n : Int) = 0 := by omega
    clear H hn' hd
    go_enter Tryz.func266, Tryz.ntmps266
    go_wp2_with fail
    go_loopw [10] (fun iv wr => ∃ (i : Nat), iv = .int .i64 i ∧ i ≤ n ∧ Hid (∀ j, j < i → P j) ∧ Hid (Below w.heap.size w wr)) (fun iv _ => n - (intOf iv).toNat)
    case atStart => exact ⟨0, rfl, Nat.zero_le _, Lib.hid (fun j hj => absurd hj (Nat.not_lt_zero _)), Lib.hid (Below.refl _ _)⟩
    case round =>
      obtain ⟨i, rfl, hi, hP, hlo⟩ := hrel
      by_cases hlt : i < n
      · obtain ⟨v, v', b, o, b', o', rfl, rfl, hv, hv', c0, c0', hcd⟩ := HH.out i hlt wr hlo.out
        have HCD := Lib.hid hcd
        have H0 : Hid (TwoC w b (o + i) b' (o' + i) v v' wr.drew) := Lib.hid ⟨hlo.out.drew, c0, c0'⟩
        have HME := Lib.hid (ms_lt hlt)
        have w1k := Lib.hid (wr_suc i (Nat.le_trans hi (Nat.le_trans hn (by decide))))
        have HSI := Lib.hid (Nat.succ_le_of_lt hlt)
        have hi0 : (0 : Int) ≤ (i : Int) := Int.natCast_nonneg i
        have hi1 : (i : Int) < (n : Int) := Int.ofNat_lt.2 hlt
        clear hcd
        go_wp2_with fail
        go_region_held3 (TwoC w b (o + i) b' (o' + i) v v')
          (first | assumption | exact H0.out | exact ((‹TwoC _ _ _ _ _ _ _ _›).up ‹Below _ _ _›) | exact (H0.out.up ‹Below _ _ _›))
          (first
            | ((with_reducible refine (ed_any (HCD.out _ (Below.refl _ _).drew)).mono ?_); rintro e w3 ⟨r, rfl, hr, hb3⟩))
        have HL := Lib.hid (below_up hlo.out.drew hb3)
        have HR := Lib.hid hr
        clear hr hb3 H0 hlo HCD HH
        cases r with
        | true =>
          go_wp2
          go_roundw
          case rel => exact ⟨i + 1, by first | rfl | (rw [w1k.out]; rfl), HSI.out, Lib.hid (fun j hj => by
            rcases Nat.lt_succ_iff_lt_or_eq.1 hj with h | h
            · exact hP.out j h
            · subst h
              exact HR.out rfl), HL⟩
          case measure => first | exact HME.out | (rw [w1k.out]; exact HME.out)
        | false =>
          go_wp2
          go_ret2
          exact CmpOut.mk' (fun h => nomatch h) HL.out
      · have hin : i = n := by omega
        subst hin
        go_wp2_with fail
        refine (H3.out _ _).mono ?_
        rintro e w3 ⟨r, rfl, hr, rfl⟩
        clear hr
        go_wp2
        go_ret2
        exact CmpOut.mk' (fun _ => ⟨trivial, hP.out⟩) hlo.out
  · have hb : ((n : Int) != (n' : Int)) = true := bne_yes (by omega)
    clear H hn hn' hd
    go_enter Tryz.func266, Tryz.ntmps266
    go_wp2
    go_ret2
    exact CmpOut.mk' (fun h => nomatch h) (Below.refl _ _)

theorem cstTup {P : Prop} (A A' : Option Addr) (n n' c c' : Nat) (d : Int) (w : World) (h : ∀ W, Below w.heap.size w W → Calls Tryz.prog 266 #[.int .i8 37, .slice A n c, .slice A' n' c', .int .i64 d] W (CmpOut P W)) : Calls Tryz.prog 267 #[.slice A n c, .int .i8 37, .iface 101 (.slice A' n' c'), .int .i64 d] w (CmpOut P w) := by
  have has : ∀ (W : World) (v : Value), (Instr.typeAssert (.iface 101 v) 64 101 false).run Tryz.prog W = .ok v W := fun _ _ => by kernel_rfl
  have HC := Lib.hid (h w (Below.refl _ _))
  clear h
  go_enter Tryz.func267, Tryz.ntmps267
  go_wp2_with fail
  refine HC.out.mono ?_
  rintro e w1 ⟨r, rfl, hr, hb⟩
  have HR := Lib.hid (And.intro hr hb)
  clear hr hb
  go_wp2
  go_ret2
  exact CmpOut.mk' HR.out.1 HR.out.2
theorem cdTup {P : Prop} {A A' : Option Addr} {n' m' c c' : Nat} {n : Int} (hn : 1 ≤ n) {w : World} (h : ∀ W, Below w.heap.size w W → Calls Tryz.prog 266 #[.int .i8 37, .slice A n' c, .slice A' m' c', .int .i64 n] W (CmpOut P W)) : CDc P (.iface 101 (.slice A n' c)) (.iface 101 (.slice A' m' c')) n w :=
  cd_cst (F := 267) hn (tyTup A n' c) (tyTup A' m' c') (by simp) (fun W => run_typeAssert_hasB Tryz.underlying275 (by kernel_rfl) _ _ W) (fun W => by kernel_rfl) (fun W => by kernel_rfl) (fun W hW => cstTup A A' n' m' c c' n W (fun W' hW' => h W' (below_up hW hW')))
end Go.Proofs.YtloloifngbmibaaGreatDoor
set_option linter.unusedVariables false
set_option linter.unusedSimpArgs false
set_option maxRecDepth 4000
namespace Go.Proofs.YtloloifngbmibaaGreatDoor
open Go.RowKit Go.Extern.Stop Go.Stop

theorem CDc.imp {P Q : Prop} (hpq : P → Q) {v v' : Value} {n : Int} {w : World} (h : CDc P v v' n w) : CDc Q v v' n w := Calls.mono h (fun _ _ h => h.imp hpq)
theorem canonH_eqn {t u : Tr} (h : t.k = 2 ∨ t.k = 3) (h' : u.k = 2 ∨ u.k = 3) (e : ncl t = ncl u) (l l' : List Canon) : canonH t l = canonH u l' := by
  unfold canonH
  rw [if_neg (by omega), if_neg (by omega), if_pos h, if_neg (by omega), if_neg (by omega), if_pos h', e]

theorem cdF {M M' : Nat} {t u : Tr} {v v' : Value} {n : Int} {w : World} (hn : 1 ≤ n) (h : SVF M t w v) (h' : SVF M' u w v') (hM : M ≤ w.heap.size) (hM' : M' ≤ w.heap.size) (g : GoodH t) (g' : GoodH u) (hG : GL w) (l l' : List Canon) :
    CDc (canonH t l = canonH u l') v v' n w := by
  have b1 : t.bits.toNat < 18446744073709551616 := by have := g.b; omega
  have b2 : u.bits.toNat < 18446744073709551616 := by have := g'.b; omega
  cases h with
  | none h =>
    cases h' with
    | none h' =>
      refine CDc.imp (P := True) (fun _ => ?_) (cd_none hn 0 0)
      unfold canonH
      rw [if_pos h, if_pos h']
    | bool h' =>
      exact CDc.no (unNoneBool _ _ hn w) _
    | int y h' hs2 =>
      obtain ⟨s2, a2, rfl⟩ := (hs2.si hM').shape
      exact CDc.no (unNoneInt _ _ _ hn w) _
    | flt h' =>
      exact CDc.no (unNoneFlt _ _ hn w) _
    | str h' =>
      exact CDc.no (unNoneStr _ _ hn w) _
    | byt h' =>
      exact CDc.no (unNoneByt _ _ hn w) _
  | bool h =>
    cases h' with
    | none h' =>
      exact CDc.no (unBoolNone _ _ hn w) _
    | bool h' =>
      refine CDc.imp (fun e => ?_) (cdBool _ _ hn w)
      have e1 := g.bool h
      have e2 := g'.bool h'
      have e3 : t.bits = u.bits := by
        rcases e1 with e1 | e1 <;> rcases e2 with e2 | e2 <;> rw [e1, e2] at e ⊢ <;> simp at e
      unfold canonH
      rw [if_neg (by omega), if_pos h, if_neg (by omega), if_pos h', e3]
    | int y h' hs2 =>
      obtain ⟨s2, a2, rfl⟩ := (hs2.si hM').shape
      exact CDc.no (unBoolInt _ _ _ hn w) _
    | flt h' =>
      exact CDc.no (unBoolFlt _ _ hn w) _
    | str h' =>
      exact CDc.no (unBoolStr _ _ hn w) _
    | byt h' =>
      exact CDc.no (unBoolByt _ _ hn w) _
  | int x h hs =>
    cases h' with
    | none h' =>
      obtain ⟨s1, a1, rfl⟩ := (hs.si hM).shape
      exact CDc.no (unIntNone _ _ _ hn w) _
    | bool h' =>
      obtain ⟨s1, a1, rfl⟩ := (hs.si hM).shape
      exact CDc.no (unIntBool _ _ _ hn w) _
    | int y h' hs2 =>
      obtain ⟨s1, a1, rfl⟩ := (hs.si hM).shape
      obtain ⟨s2, a2, rfl⟩ := (hs2.si hM').shape
      refine CDc.imp (fun e => ?_) (cdInt hn (hs.si hM) (hs2.si hM'))
      refine canonH_eqn (.inl h) (.inl h') ?_ _ _
      unfold ncl
      rw [if_pos h, if_pos h', e]
    | flt h' =>
      obtain ⟨s1, a1, rfl⟩ := (hs.si hM).shape
      refine CDc.imp (fun e => ?_) (cd_IF hn (hs.si hM) b2 hG)
      refine canonH_eqn (.inl h) (.inr h') ?_ _ _
      unfold ncl
      rw [if_pos h, if_neg (by omega), e sc rfl]
    | str h' =>
      obtain ⟨s1, a1, rfl⟩ := (hs.si hM).shape
      exact CDc.no (unIntStr _ _ _ hn w) _
    | byt h' =>
      obtain ⟨s1, a1, rfl⟩ := (hs.si hM).shape
      exact CDc.no (unIntByt _ _ _ hn w) _
  | flt h =>
    cases h' with
    | none h' =>
      exact CDc.no (unFltNone _ _ hn w) _
    | bool h' =>
      exact CDc.no (unFltBool _ _ hn w) _
    | int y h' hs2 =>
      obtain ⟨s2, a2, rfl⟩ := (hs2.si hM').shape
      refine CDc.imp (fun e => ?_) (cd_FI hn (hs2.si hM') b1 hG)
      refine canonH_eqn (.inr h) (.inl h') ?_ _ _
      unfold ncl
      rw [if_neg (by omega), if_pos h', e sc rfl]
    | flt h' =>
      refine CDc.imp (fun e => ?_) (cdFlt _ _ b1 b2 hn w)
      refine canonH_eqn (.inr h) (.inr h') ?_ _ _
      unfold ncl
      rw [if_neg (by omega), if_neg (by omega), e]
    | str h' =>
      exact CDc.no (unFltStr _ _ hn w) _
    | byt h' =>
      exact CDc.no (unFltByt _ _ hn w) _
  | str h =>
    cases h' with
    | none h' =>
      exact CDc.no (unStrNone _ _ hn w) _
    | bool h' =>
      exact CDc.no (unStrBool _ _ hn w) _
    | int y h' hs2 =>
      obtain ⟨s2, a2, rfl⟩ := (hs2.si hM').shape
      exact CDc.no (unStrInt _ _ _ hn w) _
    | flt h' =>
      exact CDc.no (unStrFlt _ _ hn w) _
    | str h' =>
      refine CDc.imp (fun e => ?_) (cdStr _ _ hn w)
      unfold canonH
      rw [if_neg (by omega), if_neg (by omega), if_neg (by omega), if_pos h, if_neg (by omega), if_neg (by omega), if_neg (by omega), if_pos h', e]
    | byt h' =>
      exact CDc.no (unStrByt _ _ hn w) _
  | byt h =>
    cases h' with
    | none h' =>
      exact CDc.no (unBytNone _ _ hn w) _
    | bool h' =>
      exact CDc.no (unBytBool _ _ hn w) _
    | int y h' hs2 =>
      obtain ⟨s2, a2, rfl⟩ := (hs2.si hM').shape
      exact CDc.no (unBytInt _ _ _ hn w) _
    | flt h' =>
      exact CDc.no (unBytFlt _ _ hn w) _
    | str h' =>
      exact CDc.no (unBytStr _ _ hn w) _
    | byt h' =>
      refine CDc.imp (fun e => ?_) (cdByt _ _ hn w)
      unfold canonH
      rw [if_neg (by omega), if_neg (by omega), if_neg (by omega), if_neg (by omega), if_pos h, if_neg (by omega), if_neg (by omega), if_neg (by omega), if_neg (by omega), if_pos h', e]

theorem tupF {M : Nat} {t : Tr} {v : Value} {n : Int} {w : World} (hn : 1 ≤ n) (h : SVF M t w v) (hM : M ≤ w.heap.size) (A : Option Addr) (m c : Nat) (P : Prop) : CDc P (.iface 101 (.slice A m c)) v n w ∧ CDc P v (.iface 101 (.slice A m c)) n w := by
  cases h with
  | none h => exact ⟨CDc.no (unTupNone _ _ _ _ hn w) _, CDc.no (unNoneTup _ _ _ _ hn w) _⟩
  | bool h => exact ⟨CDc.no (unTupBool _ _ _ _ hn w) _, CDc.no (unBoolTup _ _ _ _ hn w) _⟩
  | int x h hs =>
    obtain ⟨s1, a1, rfl⟩ := (hs.si hM).shape
    exact ⟨CDc.no (unTupInt _ _ _ _ _ hn w) _, CDc.no (unIntTup _ _ _ _ _ hn w) _⟩
  | flt h => exact ⟨CDc.no (unTupFlt _ _ _ _ hn w) _, CDc.no (unFltTup _ _ _ _ hn w) _⟩
  | str h => exact ⟨CDc.no (unTupStr _ _ _ _ hn w) _, CDc.no (unStrTup _ _ _ _ hn w) _⟩
  | byt h => exact ⟨CDc.no (unTupByt _ _ _ _ hn w) _, CDc.no (unBytTup _ _ _ _ hn w) _⟩

theorem SVF.one {M : Nat} {t : Tr} {W : World} {v : Value} (h : SVF M t W v) : v.oneCell' = true := by cases h <;> rfl
theorem SVal.one {M : Nat} {W : World} : ∀ {d : Nat} {t : Tr} {v : Value}, SVal M d t W v → v.oneCell' = true
  | 0, _, _, h => SVF.one h
  | d + 1, _, _, h => by
    rcases h with h | ⟨_, A, c, ys, rfl, _⟩ | ⟨_, p, rfl⟩ | ⟨_, p, rfl⟩ | ⟨_, p, rfl⟩
    · exact h.one
    all_goals rfl

theorem cd_any : ∀ (d : Nat) {M M' : Nat} {t u : Tr} {v v' : Value} {n : Int} {w : World}, SVal M d t w v → SVal M' d u w v' → M ≤ w.heap.size → M' ≤ w.heap.size → Good d t → Good d u → KeyT d t → KeyT d u → (d : Int) + 1 ≤ n → n ≤ 100 → GL w →
    CDc (canon d t = canon d u) v v' n w := by
  intro d
  induction d with
  | zero =>
    intro M M' t u v v' n w h h' hM hM' g g' kt kt' hn hn2 hG
    exact cdF (by omega) h h' hM hM' g.head g'.head hG _ _
  | succ d ih =>
    intro M M' t u v v' n w h h' hM hM' g g' kt kt' hn hn2 hG
    have hn1 : 1 ≤ n := by omega
    rcases h with h | ⟨hk, A, c, ys, rfl, hc, hl, hr, hx⟩ | h | h | h
    · rcases h' with h' | ⟨hk', A', c', ys', rfl, hc', hl', hr', hx'⟩ | h' | h' | h'
      · exact cdF hn1 h h' hM hM' g.head g'.head hG _ _
      · exact (tupF hn1 h hM A' _ c' _).2
      · exact absurd h'.1 (by rcases kt' with k | k <;> omega)
      · exact absurd h'.1 (by rcases kt' with k | k <;> omega)
      · exact absurd h'.1 (by rcases kt' with k | k <;> omega)
    · rcases h' with h' | ⟨hk', A', c', ys', rfl, hc', hl', hr', hx'⟩ | h' | h' | h'
      · exact (tupF hn1 h' hM' A _ c _).1
      · refine CDc.imp (P := t.kids.length = u.kids.length ∧ ∀ i, i < t.kids.length → (t.kids[i]?).map (canon d) = (u.kids[i]?).map (canon d)) ?_ (cdTup hn1 (fun W hW => sc_core _ A A' _ _ c c' n ⟨hn1, hn2⟩ (by have := g.head.kl; omega) (by have := g'.head.kl; omega) W (fun heq i hi W' hW' => ?_)))
        · rintro ⟨e1, e2⟩
          have e3 : t.kids.map (canon d) = u.kids.map (canon d) := by
            refine List.ext_getElem? fun i => ?_
            rw [List.getElem?_map, List.getElem?_map]
            by_cases hi : i < t.kids.length
            · exact e2 i hi
            · rw [List.getElem?_eq_none (by omega), List.getElem?_eq_none (by omega)]
          show canonH t _ = canonH u _
          rw [e3]
          unfold canonH
          simp [hk, hk']
        · obtain ⟨b, o, rfl, _, q⟩ := hr.at_ (k := i) (by omega)
          obtain ⟨b', o', rfl, _, q'⟩ := hr'.at_ (k := i) (by omega)
          have hW2 := below_up hW hW'
          have t1 : ys[i]? = some ys[i] := List.getElem?_eq_getElem (by omega)
          have t2 : ys'[i]? = some ys'[i] := List.getElem?_eq_getElem (by omega)
          have t3 : t.kids[i]? = some t.kids[i] := List.getElem?_eq_getElem hi
          have t4 : u.kids[i]? = some u.kids[i] := List.getElem?_eq_getElem (by omega)
          have s1 := hx i _ _ t1 t3
          have s2 := hx' i _ _ t2 t4
          refine ⟨ys[i], ys'[i], b, o, b', o', rfl, rfl, s1.one, s2.one, cell_up hW2 q, cell_up hW2 q', fun W2 hW3 => ?_⟩
          have hW4 := below_up hW2 hW3
          rw [t3, t4]
          refine CDc.imp (fun e => by simp [e]) (ih (s1.keep (hW4.mono hM)) (s2.keep (hW4.mono hM')) (Nat.le_trans hM hW4.size) (Nat.le_trans hM' hW4.size) (g.2.2.1 _ (List.getElem_mem _)) (g'.2.2.1 _ (List.getElem_mem _)) ?_ ?_ (by omega) (by omega) (hG.up hW4))
          · rcases kt with k | k
            · omega
            · exact k.2 _ (List.getElem_mem _)
          · rcases kt' with k | k
            · omega
            · exact k.2 _ (List.getElem_mem _)
      · exact absurd h'.1 (by rcases kt' with k | k <;> omega)
      · exact absurd h'.1 (by rcases kt' with k | k <;> omega)
      · exact absurd h'.1 (by rcases kt' with k | k <;> omega)
    · exact absurd h.1 (by rcases kt with k | k <;> omega)
    · exact absurd h.1 (by rcases kt with k | k <;> omega)
    · exact absurd h.1 (by rcases kt with k | k <;> omega)
end Go.Proofs.YtloloifngbmibaaGreatDoor
set_option linter.unusedVariables false
set_option linter.unusedSimpArgs false
set_option maxRecDepth 4000
namespace Go.Proofs.YtloloifngbmibaaGreatDoor
open Go.RowKit Go.Extern.Stop Go.Stop

theorem eql_istr {P : Program} (w : World) {t tx : TypeId} {ms : Array (String × TypeId)} (a b : ByteArray)
    (ht : P.underlying t = some (.interface ms)) (hc : (P.info? tx).map (·.comparable) = some true) (hx : P.underlying tx = some .string) :
    ∃ r : Bool, (binOp .eql t (.iface tx (.string a)) (.iface tx (.string b))).run P w = .ok (.bool r) w ∧ (r = true → a = b) := by
  cases hi : P.info? tx with
  | none => simp [hi] at hc
  | some i =>
    have hcc : i.comparable = true := by simpa [hi] using hc
    have h : ∀ d : Nat, (Op.equalIn (d + 2) t (.iface tx (.string a)) (.iface tx (.string b))).run P w = .ok (a == b) w := fun d => by
      simp [Op.equalIn, run_underlying ht, run_underlying hx, typeInfo, hi, hcc]
    refine ⟨a == b, ?_, fun h => by
      cases a
      cases b
      have h2 : _ = _ := eq_of_beq (α := Array UInt8) h
      exact congrArg _ h2⟩
    simp only [binOp]
    simp [Op.equal, Op.maxDepth, h 9998]

/-- The language's Equal of a string: its quick way. -/
theorem eq_str {P : Prop} (a : ByteArray) (v' : Value) (w : World) (h : ∃ r : Bool, (binOp .eql 64 (.iface 149 (.string a)) v').run Tryz.prog w = .ok (.bool r) w ∧ (r = true → P)) :
    Calls Tryz.prog 119 #[.iface 149 (.string a), v'] w (CmpOut P w) := by
  have has : ∀ (W : World) (v : Value), (Instr.typeAssert (.iface 149 v) 64 149 true).run Tryz.prog W = .ok (.tuple #[v, .bool true]) W := fun _ _ => by kernel_rfl
  obtain ⟨r, h1, h2⟩ := h
  have HR := Lib.hid h2
  clear h2
  go_enter Tryz.func119, Tryz.ntmps119
  go_wp2
  go_ret2
  exact CmpOut.mk' HR.out (Below.refl _ _)

theorem eq_oth {P : Prop} {T : Nat} {v v' : Value} {w : World} (hG : GL w) (ha : ∀ W : World, (Instr.typeAssert (.iface T v) 64 149 true).run Tryz.prog W = .ok (.tuple #[.string ⟨#[]⟩, .bool false]) W) (h : CDc P (.iface T v) v' 10 w) :
    Calls Tryz.prog 119 #[.iface T v, v'] w (CmpOut P w) := by
  have HE := Lib.hid (ed_any h)
  have c0 := hG.2
  clear h hG
  go_enter Tryz.func119, Tryz.ntmps119
  go_wp2_with fail
  refine HE.out.mono ?_
  rintro e w1 ⟨r, rfl, hr, hb⟩
  have HR := Lib.hid (And.intro hr hb)
  clear hr hb c0
  go_wp2
  go_ret2
  exact CmpOut.mk' HR.out.1 HR.out.2

theorem eqS_any {d : Nat} {M M' : Nat} {t u : Tr} {v v' : Value} {w : World} (h : SVal M d t w v) (h' : SVal M' d u w v') (hM : M ≤ w.heap.size) (hM' : M' ≤ w.heap.size) (g : Good d t) (g' : Good d u) (kt : KeyT d t) (kt' : KeyT d u) (hd : d ≤ 9) (hG : GL w) :
    Calls Tryz.prog 119 #[v, v'] w (CmpOut (canon d t = canon d u) w) := by
  have hcd := cd_any d h h' hM hM' g g' kt kt' (n := 10) (by omega) (by decide) hG
  have hf : SVF M t w v ∨ ∃ A n c, v = .iface 101 (.slice A n c) := by
    cases d with
    | zero => exact .inl h
    | succ d =>
      rcases h with h | ⟨_, A, c, ys, rfl, _⟩ | h | h | h
      · exact .inl h
      · exact .inr ⟨_, _, _, rfl⟩
      · exact absurd h.1 (by rcases kt with k | k <;> omega)
      · exact absurd h.1 (by rcases kt with k | k <;> omega)
      · exact absurd h.1 (by rcases kt with k | k <;> omega)
  have hf' : SVF M' u w v' ∨ ∃ A n c, v' = .iface 101 (.slice A n c) := by
    cases d with
    | zero => exact .inl h'
    | succ d =>
      rcases h' with h' | ⟨_, A, c, ys, rfl, _⟩ | h' | h' | h'
      · exact .inl h'
      · exact .inr ⟨_, _, _, rfl⟩
      · exact absurd h'.1 (by rcases kt' with k | k <;> omega)
      · exact absurd h'.1 (by rcases kt' with k | k <;> omega)
      · exact absurd h'.1 (by rcases kt' with k | k <;> omega)
  rcases hf with hf | ⟨A, n, c, rfl⟩
  · cases hf with
    | none hk => exact eq_oth hG (fun W => by kernel_rfl) hcd
    | bool hk => exact eq_oth hG (fun W => by kernel_rfl) hcd
    | int x hk hs =>
      obtain ⟨s1, a1, rfl⟩ := (hs.si hM).shape
      exact eq_oth hG (fun W => by kernel_rfl) hcd
    | flt hk => exact eq_oth hG (fun W => by kernel_rfl) hcd
    | byt hk => exact eq_oth hG (fun W => by kernel_rfl) hcd
    | str hk =>
      have hno : ∀ (T : Nat) (x : Value), T ≠ 149 → v' = .iface T x → Calls Tryz.prog 119 #[.iface 149 (.string t.text), v'] w (CmpOut (canon d t = canon d u) w) := by
        rintro T x hT rfl
        exact eq_str t.text _ w ⟨false, run_eql_iface_types _ T _ x Tryz.underlying64 (Ne.symm hT) w, (fun h => nomatch h)⟩
      rcases hf' with hf' | ⟨A, n, c, rfl⟩
      · cases hf' with
        | none hk' => exact hno _ _ (by decide) rfl
        | bool hk' => exact hno _ _ (by decide) rfl
        | int x hk' hs' => exact hno _ _ (by decide) rfl
        | flt hk' => exact hno _ _ (by decide) rfl
        | byt hk' => exact hno _ _ (by decide) rfl
        | str hk' =>
          obtain ⟨r, h1, h2⟩ := eql_istr w t.text u.text Tryz.underlying64 (by kernel_rfl) Tryz.underlying149
          refine eq_str t.text _ w ⟨r, h1, fun h => ?_⟩
          have e := h2 h
          cases d <;> (show canonH t _ = canonH u _; unfold canonH; rw [if_neg (by omega), if_neg (by omega), if_neg (by omega), if_pos hk, if_neg (by omega), if_neg (by omega), if_neg (by omega), if_pos hk', e])
      · exact hno _ _ (by decide) rfl
  · exact eq_oth hG (fun W => by kernel_rfl) hcd
end Go.Proofs.YtloloifngbmibaaGreatDoor
