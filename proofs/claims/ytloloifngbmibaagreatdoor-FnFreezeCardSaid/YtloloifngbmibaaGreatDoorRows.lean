/-
  NARROWER THAN 'FOR EVERY INPUT', by the rows' own cells (each row's printed sentence says how): FnAsInt: loops, laid · FnFreeze: loops, laid.
  DERIVED. THE GIVEN ROWS OF THIS SEAT. 2 by the template 'for every input the law returns true; each argument reads behind the call as it read before'; 0 by the template 'total and deterministic' (their statements: YtloloifngbmibaaGreatDoorTotals.lean).
  GIVEN WITH THE SEED: the statements are not yours to turn. If you find one false, say at which input.
  Laid BY PROGRAM, IN A SANDBOX (cutbox-rows.mjs): the forced cells as the released guide's own fill.sh prints them over the translation be2aa62a6f24c52c… (all of the seat's roots in one cut). By AI agents, Wed Nov 11 2026. No macro, syntax, notation, axiom, sorry.
-/
import Derived.Test.YtloloifngbmibaaGreatDoorChecked
import GoSem.Claim
import GoSem.ClaimJoined
import GoSem.ClaimMapViews
import Derived.JoinedTies
import Derived.KernelRfl
namespace Go.Proofs.YtloloifngbmibaaGreatDoor
/- THE CELL 'sum', in the pinned program and in every row, IS THE sha256 OF THE DUMP (.gsa) THAT YtloloifngbmibaaGreatDoorProg.lean LOADS. Nothing in Lean hashes anything: it is a label: what it is worth is what the hold of that sum in a sandbox is worth. -/
noncomputable def Tryz.pinned : Pinned := { name := "ytloloifngbmibaagreatdoor", sum := "be2aa62a6f24c52c1518801439f9f7a8df419510c4db7fe0741a3067ebb05ded", checked := Tryz.checked }
namespace Rows
def none {H : Type} : Left H := { results := [], args := [] }

/- WHAT THE LISTED PACKAGE-LEVEL VARIABLES READ AS WHEN THE CALL BEGINS. Each datum BY PROGRAM (the guide's laid-datum.mjs) off the statement by which the dump's own 'gosem.cut.vars' lays the variable. In a bare row this is a premise. The card (YtloloifngbmibaaGreatDoorCards.lean) ties it to the program's text. -/
def laid_given_example_pub_fusee_pub_bigall_divRecursiveThreshold {H : Type} : DataW H := .lit (.int .i64 40)
def laid_given_example_pub_fusee_pub_bigall_karatsubaThreshold {H : Type} : DataW H := .lit (.int .i64 40)
def laid_given_example_pub_fusee_pub_bigall_basicSqrThreshold {H : Type} : DataW H := .lit (.int .i64 12)
def laid_given_example_pub_fusee_pub_bigall_karatsubaSqrThreshold {H : Type} : DataW H := .lit (.int .i64 80)
def laid_given_example_pub_fusee_pub_starlark_starlark_CompareLimit {H : Type} : DataW H := .lit (.int .i64 10)

/-- 'laws.FnAsInt': WHATEVER THE INPUT: true; the input reads as it did. -/
def fnAsIntSpec : ChangeSpec := { name := "fnAsInt", vars := ["given.example/pub-fusee/pub/starlark/starlark.CompareLimit", "given.example/pub-fusee/pub/bigall.divRecursiveThreshold", "given.example/pub-fusee/pub/bigall.karatsubaThreshold", "given.example/pub-fusee/pub/bigall.basicSqrThreshold", "given.example/pub-fusee/pub/bigall.karatsubaSqrThreshold"], fn := fun _ => fun
  | [d1, d2, d3, g1, g2, g3, g4, g5] => { results := [.lit (.bool true)], args := [d1, d2, d3], vars := [g1, g2, g3, g4, g5] }
  | _ => none }
def fnAsIntRow : OpenClaim := { program := "ytloloifngbmibaagreatdoor", sum := "be2aa62a6f24c52c1518801439f9f7a8df419510c4db7fe0741a3067ebb05ded", func := "given.example/pub-fusee/laws.FnAsInt", spec := "fnAsInt", inPlace := ["math.Float64frombits", "math.Float64bits", "math/bits.Add64", "math/bits.Sub64"], unfollowed := true, recurses := true, named := ["given.example/pub-fusee/pub/starlark/starlark.CompareLimit", "given.example/pub-fusee/pub/bigall.divRecursiveThreshold", "given.example/pub-fusee/pub/bigall.karatsubaThreshold", "given.example/pub-fusee/pub/bigall.basicSqrThreshold", "given.example/pub-fusee/pub/bigall.karatsubaSqrThreshold"], loops := true, apart := false, laid := [("given.example/pub-fusee/pub/bigall.divRecursiveThreshold", laid_given_example_pub_fusee_pub_bigall_divRecursiveThreshold), ("given.example/pub-fusee/pub/bigall.karatsubaThreshold", laid_given_example_pub_fusee_pub_bigall_karatsubaThreshold), ("given.example/pub-fusee/pub/bigall.basicSqrThreshold", laid_given_example_pub_fusee_pub_bigall_basicSqrThreshold), ("given.example/pub-fusee/pub/bigall.karatsubaSqrThreshold", laid_given_example_pub_fusee_pub_bigall_karatsubaSqrThreshold), ("given.example/pub-fusee/pub/starlark/starlark.CompareLimit", laid_given_example_pub_fusee_pub_starlark_starlark_CompareLimit)] }
def FnAsIntSaid : Prop := fnAsIntRow.holds Tryz.pinned (OpenSpec.ofChange fnAsIntSpec)

/-- ITS FALSE NEIGHBOUR: 'it returns false'. Refute it at one input. -/
def fnAsIntWrong : ChangeSpec := { name := "fnAsInt", vars := ["given.example/pub-fusee/pub/starlark/starlark.CompareLimit", "given.example/pub-fusee/pub/bigall.divRecursiveThreshold", "given.example/pub-fusee/pub/bigall.karatsubaThreshold", "given.example/pub-fusee/pub/bigall.basicSqrThreshold", "given.example/pub-fusee/pub/bigall.karatsubaSqrThreshold"], fn := fun _ => fun
  | [d1, d2, d3, g1, g2, g3, g4, g5] => { results := [.lit (.bool false)], args := [d1, d2, d3], vars := [g1, g2, g3, g4, g5] }
  | _ => none }
def FnAsIntWrongFalsely : Prop := fnAsIntRow.holds Tryz.pinned (OpenSpec.ofChange fnAsIntWrong)

/-- 'laws.FnFreeze': WHATEVER THE INPUT: true; the input reads as it did. -/
def fnFreezeSpec : ChangeSpec := { name := "fnFreeze", vars := ["given.example/pub-fusee/pub/starlark/starlark.CompareLimit", "given.example/pub-fusee/pub/bigall.divRecursiveThreshold", "given.example/pub-fusee/pub/bigall.karatsubaThreshold", "given.example/pub-fusee/pub/bigall.basicSqrThreshold", "given.example/pub-fusee/pub/bigall.karatsubaSqrThreshold"], fn := fun _ => fun
  | [d1, d2, d3, d4, d5, g1, g2, g3, g4, g5] => { results := [.lit (.bool true)], args := [d1, d2, d3, d4, d5], vars := [g1, g2, g3, g4, g5] }
  | _ => none }
def fnFreezeRow : OpenClaim := { program := "ytloloifngbmibaagreatdoor", sum := "be2aa62a6f24c52c1518801439f9f7a8df419510c4db7fe0741a3067ebb05ded", func := "given.example/pub-fusee/laws.FnFreeze", spec := "fnFreeze", inPlace := ["math.Float64frombits", "math.Float64bits", "math/bits.Add64", "math/bits.Sub64"], unfollowed := true, recurses := true, named := ["given.example/pub-fusee/pub/starlark/starlark.CompareLimit", "given.example/pub-fusee/pub/bigall.divRecursiveThreshold", "given.example/pub-fusee/pub/bigall.karatsubaThreshold", "given.example/pub-fusee/pub/bigall.basicSqrThreshold", "given.example/pub-fusee/pub/bigall.karatsubaSqrThreshold"], loops := true, apart := false, laid := [("given.example/pub-fusee/pub/bigall.divRecursiveThreshold", laid_given_example_pub_fusee_pub_bigall_divRecursiveThreshold), ("given.example/pub-fusee/pub/bigall.karatsubaThreshold", laid_given_example_pub_fusee_pub_bigall_karatsubaThreshold), ("given.example/pub-fusee/pub/bigall.basicSqrThreshold", laid_given_example_pub_fusee_pub_bigall_basicSqrThreshold), ("given.example/pub-fusee/pub/bigall.karatsubaSqrThreshold", laid_given_example_pub_fusee_pub_bigall_karatsubaSqrThreshold), ("given.example/pub-fusee/pub/starlark/starlark.CompareLimit", laid_given_example_pub_fusee_pub_starlark_starlark_CompareLimit)] }
def FnFreezeSaid : Prop := fnFreezeRow.holds Tryz.pinned (OpenSpec.ofChange fnFreezeSpec)

/-- ITS FALSE NEIGHBOUR: 'it returns false'. Refute it at one input. -/
def fnFreezeWrong : ChangeSpec := { name := "fnFreeze", vars := ["given.example/pub-fusee/pub/starlark/starlark.CompareLimit", "given.example/pub-fusee/pub/bigall.divRecursiveThreshold", "given.example/pub-fusee/pub/bigall.karatsubaThreshold", "given.example/pub-fusee/pub/bigall.basicSqrThreshold", "given.example/pub-fusee/pub/bigall.karatsubaSqrThreshold"], fn := fun _ => fun
  | [d1, d2, d3, d4, d5, g1, g2, g3, g4, g5] => { results := [.lit (.bool false)], args := [d1, d2, d3, d4, d5], vars := [g1, g2, g3, g4, g5] }
  | _ => none }
def FnFreezeWrongFalsely : Prop := fnFreezeRow.holds Tryz.pinned (OpenSpec.ofChange fnFreezeWrong)

/- THE SECOND FORM. 'bulk': how many values and letters a reading holds, each counted each time it is reached (what is shared counts as often as it is met; a slice's spare places count too). A statement '..UptoSaid' is the law's where the arguments, and the package variables that the reading takes, are together of bulk at most 1048576: NARROWER than '..Said'. Prove '..Said' where nothing that the law and all that it calls make is longer than what came in: it says more and counts as full. Else prove '..UptoSaid'. A law counts once. -/
mutual
def uptoBulk {H : Type} : DataW H → Nat
  | .lit (.string bytes) => bytes.length + 1
  | .lit _ => 1
  | .nil => 1
  | .ptr d => uptoBulk d + 1
  | .slice elems spare => uptoBulkAll elems + uptoBulkAll spare + 1
  | .agg parts => uptoBulkAll parts + 1
  | .iface _ d => uptoBulk d + 1
  | .map entries => uptoBulkEntries entries + 1
  | .held _ => 1
def uptoBulkAll {H : Type} : List (DataW H) → Nat
  | [] => 0
  | d :: r => uptoBulk d + uptoBulkAll r
def uptoBulkEntries {H : Type} : List (Lit × DataW H) → Nat
  | [] => 0
  | x :: r => uptoBulkEntry x + uptoBulkEntries r
def uptoBulkEntry {H : Type} : Lit × DataW H → Nat
  | (.string bytes, d) => bytes.length + uptoBulk d + 1
  | (_, d) => uptoBulk d + 1
 end
def uptoSmall : (H : Type) → List (DataW H) → Bool := fun _ ds => decide (uptoBulkAll ds ≤ 1048576)
def OpenSpec.upto (s : _root_.Go.ChangeSpec) : _root_.Go.OpenSpec := { _root_.Go.OpenSpec.ofChange s with cond := some uptoSmall }

/-- 'laws.FnAsInt', WHERE WHAT IT READS IS OF BULK AT MOST 1048576: true; the input reads as it did. -/
def fnAsIntUptoRow : OpenClaim := { program := "ytloloifngbmibaagreatdoor", sum := "be2aa62a6f24c52c1518801439f9f7a8df419510c4db7fe0741a3067ebb05ded", func := "given.example/pub-fusee/laws.FnAsInt", spec := "fnAsInt", inPlace := ["math.Float64frombits", "math.Float64bits", "math/bits.Add64", "math/bits.Sub64"], unfollowed := true, recurses := true, named := ["given.example/pub-fusee/pub/starlark/starlark.CompareLimit", "given.example/pub-fusee/pub/bigall.divRecursiveThreshold", "given.example/pub-fusee/pub/bigall.karatsubaThreshold", "given.example/pub-fusee/pub/bigall.basicSqrThreshold", "given.example/pub-fusee/pub/bigall.karatsubaSqrThreshold"], loops := true, apart := false, laid := [("given.example/pub-fusee/pub/bigall.divRecursiveThreshold", laid_given_example_pub_fusee_pub_bigall_divRecursiveThreshold), ("given.example/pub-fusee/pub/bigall.karatsubaThreshold", laid_given_example_pub_fusee_pub_bigall_karatsubaThreshold), ("given.example/pub-fusee/pub/bigall.basicSqrThreshold", laid_given_example_pub_fusee_pub_bigall_basicSqrThreshold), ("given.example/pub-fusee/pub/bigall.karatsubaSqrThreshold", laid_given_example_pub_fusee_pub_bigall_karatsubaSqrThreshold), ("given.example/pub-fusee/pub/starlark/starlark.CompareLimit", laid_given_example_pub_fusee_pub_starlark_starlark_CompareLimit)], narrowed := true }
def FnAsIntUptoSaid : Prop := fnAsIntUptoRow.holds Tryz.pinned (OpenSpec.upto fnAsIntSpec)

/-- 'laws.FnFreeze', WHERE WHAT IT READS IS OF BULK AT MOST 1048576: true; the input reads as it did. -/
def fnFreezeUptoRow : OpenClaim := { program := "ytloloifngbmibaagreatdoor", sum := "be2aa62a6f24c52c1518801439f9f7a8df419510c4db7fe0741a3067ebb05ded", func := "given.example/pub-fusee/laws.FnFreeze", spec := "fnFreeze", inPlace := ["math.Float64frombits", "math.Float64bits", "math/bits.Add64", "math/bits.Sub64"], unfollowed := true, recurses := true, named := ["given.example/pub-fusee/pub/starlark/starlark.CompareLimit", "given.example/pub-fusee/pub/bigall.divRecursiveThreshold", "given.example/pub-fusee/pub/bigall.karatsubaThreshold", "given.example/pub-fusee/pub/bigall.basicSqrThreshold", "given.example/pub-fusee/pub/bigall.karatsubaSqrThreshold"], loops := true, apart := false, laid := [("given.example/pub-fusee/pub/bigall.divRecursiveThreshold", laid_given_example_pub_fusee_pub_bigall_divRecursiveThreshold), ("given.example/pub-fusee/pub/bigall.karatsubaThreshold", laid_given_example_pub_fusee_pub_bigall_karatsubaThreshold), ("given.example/pub-fusee/pub/bigall.basicSqrThreshold", laid_given_example_pub_fusee_pub_bigall_basicSqrThreshold), ("given.example/pub-fusee/pub/bigall.karatsubaSqrThreshold", laid_given_example_pub_fusee_pub_bigall_karatsubaSqrThreshold), ("given.example/pub-fusee/pub/starlark/starlark.CompareLimit", laid_given_example_pub_fusee_pub_starlark_starlark_CompareLimit)], narrowed := true }
def FnFreezeUptoSaid : Prop := fnFreezeUptoRow.holds Tryz.pinned (OpenSpec.upto fnFreezeSpec)

end Rows
end Go.Proofs.YtloloifngbmibaaGreatDoor
