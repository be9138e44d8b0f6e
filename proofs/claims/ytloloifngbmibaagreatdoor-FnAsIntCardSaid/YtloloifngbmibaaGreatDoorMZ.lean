/- FnAsInt returns true for every Val, every kind and every number that stood there before, and leaves all memory that was there before as it was; the tied card. -/
import Derived.Test.YtloloifngbmibaaGreatDoorCards
import Derived.Test.YtloloifngbmibaaGreatDoorTie
import Derived.Test.YtloloifngbmibaaGreatDoorM48
import Derived.Test.YtloloifngbmibaaGreatDoorM49
import Derived.Test.YtloloifngbmibaaGreatDoorM50
import Derived.Carry
import Derived.LaidSub
import Derived.WalkKit
import Derived.ProofKit
import Derived.OpenShut
import Derived.Deep.DeepHandedRow
import Derived.Lib.LaidTab
import Derived.Lay
namespace Go.Proofs.YtloloifngbmibaaGreatDoor.fnAsInt
open Go.ChangeShapes Go.WideShapes Go.ChangeAt Go.RowKit
set_option linter.unusedVariables false

theorem own : ownKnob Tryz.prog.godebug = none := by kernel_rfl
theorem laidOut : laidOutB Tryz.prog = true := by kernel_rfl
theorem gKarat : Tryz.prog.globalNamed "given.example/pub-fusee/pub/bigall.karatsubaThreshold" = some 2 := by kernel_rfl
theorem gLimit : Tryz.prog.globalNamed "given.example/pub-fusee/pub/starlark/starlark.CompareLimit" = some 1 := by kernel_rfl
theorem tKarat : (Tryz.prog.globals[2]?).map (·.type) = some 3 := by kernel_rfl
theorem tLimit : (Tryz.prog.globals[1]?).map (·.type) = some 3 := by kernel_rfl
theorem varsRead : varsOk Tryz.prog Rows.fnAsIntSpec.vars = true := by kernel_rfl

/-- What the row's list gives: the two thresholds. -/
theorem limits {W : World} (h : laidMetH Tryz.prog Rows.fnAsIntRow.laid W) : GL W := by
  have h1 := laidMetH.filter (fun x => x.1 == "given.example/pub-fusee/pub/bigall.karatsubaThreshold") h
  have h2 := laidMetH.filter (fun x => x.1 == "given.example/pub-fusee/pub/starlark/starlark.CompareLimit") h
  have e1 : (Rows.fnAsIntRow.laid.filter fun x => x.1 == "given.example/pub-fusee/pub/bigall.karatsubaThreshold") = [("given.example/pub-fusee/pub/bigall.karatsubaThreshold", .lit (.int .i64 40))] := by kernel_rfl
  have e2 : (Rows.fnAsIntRow.laid.filter fun x => x.1 == "given.example/pub-fusee/pub/starlark/starlark.CompareLimit") = [("given.example/pub-fusee/pub/starlark/starlark.CompareLimit", .lit (.int .i64 10))] := by kernel_rfl
  rw [e1] at h1
  rw [e2] at h2
  exact ⟨laid_int (rest := []) gKarat tKarat Tryz.underlying3 h1, laid_int (rest := []) gLimit tLimit Tryz.underlying3 h2⟩

set_option maxRecDepth 100000 in
theorem contract (H : Type) (enc : TypeId × Value → H) (W : World) (base : Nat) (args : Array Value) (ds gs : List (DataW H)) (before : List MemPlace)
    (hval : ∀ (j : Nat) t v, Tryz.f3.params[j]? = some t → args[j]? = some v → Value.okWide Tryz.prog W .any base t v)
    (hW : DataW.Whole enc Tryz.prog Tryz.f3.params.toList Rows.fnAsIntSpec.vars false W args.toList ds gs before) (hL : laidMetH Tryz.prog Rows.fnAsIntRow.laid W) :
    Calls Tryz.prog 3 args W fun e W' => ∃ v, e = .returned v ∧ Rows.fnAsIntSpec.post enc Tryz.prog Tryz.f3 false true false false W args v W' := by
  have hW' := hW
  obtain ⟨p, q, hA0, hV, rfl, hfz, hnd⟩ := hW
  have hA : DataW.TrodAll enc Tryz.prog W 0 (fun _ => true) true Tryz.f3.params.toList args.toList ds p := hA0
  rw [Tryz.params3] at hA hval
  obtain ⟨v0, vs0, d0, ds0, p0, q0, hargs, rfl, rfl, h0, r0⟩ := trodAll_cons hA
  obtain ⟨v1, vs1, d1, ds1, p1, q1, rfl, rfl, rfl, h1, r1⟩ := trodAll_cons r0
  obtain ⟨v2, vs2, d2, ds2, p2, q2, rfl, rfl, rfl, h2, r2⟩ := trodAll_cons r1
  obtain ⟨rfl, rfl, rfl⟩ := trodAll_nil r2
  obtain rfl : args = #[v0, v1, v2] := by cases args; simp_all
  have hgl := vars_len hV
  obtain ⟨g1, g2, g3, g4, g5, rfl⟩ : ∃ g1 g2 g3 g4 g5, gs = [g1, g2, g3, g4, g5] := by
    match gs, hgl with
    | [g1, g2, g3, g4, g5], _ => exact ⟨g1, g2, g3, g4, g5, rfl⟩
  have h0k := h0
  obtain ⟨t, x, rfl, hx, hin⟩ := open_valV 3 (hval 0 26 v0 rfl rfl) h0
  obtain ⟨a1, rfl, rfl, rfl, w1⟩ := open_int Tryz.underlying5 (hval 1 5 v1 rfl rfl) h1
  obtain ⟨a2, rfl, rfl, rfl, w2⟩ := open_int Tryz.underlying5 (hval 2 5 v2 rfl rfl) h2
  clear hA0
  simp only [List.append_nil] at hW'
  have hlt : ∀ y ∈ p0 ++ q, y.block < W.heap.size := fun y hy => hW'.lt y (by simpa using hy)
  have hb1 := bounds_u8 w1
  have hb2 := bounds_u8 w2
  refine (fnAsInt_any hx hin (limits hL) a1 a2 (by omega) (by omega) (by omega) (by omega)).mono fun e W' ⟨he, hg⟩ => ?_
  subst he
  exact ⟨_, rfl, post_of_below (pa := p0) (pv := q) hW' (fun _ _ _ => (trodAll_cons_mk (shut_bool Tryz.underlying4 _) trodAll_mk0)) (fun sp hsp => by
      have := trodAll_cons_mk (WideElems.Trod_stays laidOut (by kernel_rfl) (of_decide_eq_true (by kernel_rfl)) h0k (fun y hy => hg.same (hlt y (List.mem_append_left _ hy))) (fun y hy => hsp y (by simp [hy]))) (trodAll_cons_mk (shut_int Tryz.underlying5 w1) (trodAll_cons_mk (shut_int Tryz.underlying5 w2) trodAll_mk0))
      simp only [List.append_nil] at this
      exact this) (fun sp hsp => vars_stay laidOut hg varsRead (fun y hy => hsp y (by simp [hy])) hV) (by simp)
    hg (ok_one (by kernel_rfl) rfl (okWide_bool_mk Tryz.underlying4 _))⟩

/-- A world for the witness. -/
noncomputable def laidWorld (os : Os) : World := World.laidAll Tryz.prog os Rows.fnAsIntRow.laid
/-- Its arguments. -/
def zeros : Array Value := #[.agg #[.int .i64 0, .bool false, .slice none 0 0, .int .u64 0, .string ⟨#[]⟩, .slice none 0 0], .int .u8 0, .int .u8 0]
theorem laid_met (os : Os) : laidMet Tryz.prog Rows.fnAsIntRow.laid ((laidWorld os).forCall (fun _ _ => 0) ⟨#[], zeros, []⟩).memory :=
  laidMet_laidAll _ (by kernel_rfl) (by kernel_rfl)
theorem reads (os : Os) {H : Type} (enc : TypeId × Value → H) : ∃ places, DataW.whole enc Tryz.prog ((laidWorld os).forCall (fun _ _ => 0) ⟨#[], zeros, []⟩).memory Tryz.f3.params.toList Rows.fnAsIntSpec.vars false zeros.toList 8 =
    some ([.agg [.lit (.int .i64 0), .lit (.bool false), .nil, .lit (.int .u64 0), .lit (.string []), .nil], .lit (.int .u8 0), .lit (.int .u8 0)], [.lit (.int .i64 10), .lit (.int .i64 40), .lit (.int .i64 40), .lit (.int .i64 12), .lit (.int .i64 80)], places) :=
  ⟨((DataW.whole enc Tryz.prog ((laidWorld os).forCall (fun _ _ => 0) ⟨#[], zeros, []⟩).memory Tryz.f3.params.toList Rows.fnAsIntSpec.vars false zeros.toList 8).map fun x => x.2.2).getD [], by kernel_rfl⟩

set_option maxRecDepth 100000 in
theorem lifted (os : Os) (started : os.Started) (H : Type) (enc : TypeId × Value → H) (F : Stop.Interp) :
    ReturnsInHanded {} Tryz.checked os 3 .any ((OpenSpec.ofChange Rows.fnAsIntSpec).preRow enc Tryz.prog Tryz.f3 Rows.fnAsIntRow.domain false Rows.fnAsIntRow.laid) (((OpenSpec.ofChange Rows.fnAsIntSpec).at F).post enc Tryz.prog Tryz.f3 false true false false) := by
  obtain ⟨places, hx⟩ := reads os enc
  refine returnsInHanded_of_row (C := Tryz.checked) (s := OpenSpec.ofChange Rows.fnAsIntSpec) own started (by kernel_rfl) Tryz.func3
    (witness_row_at (enc := enc) (C := Tryz.checked) false (laidWorld os) zeros rfl (by kernel_rfl) (by kernel_rfl) (by kernel_rfl)
      (OpenSpec.preRow_of_cond 8 hx (by kernel_rfl) (fun k hk => by cases hk) (by kernel_rfl) (laid_met os))) ?_
  intro W base args ds gs before hval hW _ _ _ hL _ _
  exact contract H enc W base args ds gs before hval hW hL

theorem wrapper : Tryz.f3.isWrapper Tryz.pinned.checked.prog Rows.fnAsIntRow.wrapper Rows.fnAsIntRow.mainSum := by
  unfold Func.isWrapper
  first | (rw [if_pos (by decide +kernel)]; kernel_rfl) | (rw [if_neg (by decide +kernel)]; exact ⟨rfl, rfl⟩)
theorem said : Rows.FnAsIntSaid :=
  OpenClaim.holds_of_cond 3 Tryz.f3 rfl rfl rfl rfl rfl rfl rfl ⟨rfl, rfl, rfl, rfl, rfl⟩ rfl rfl rfl rfl rfl (by kernel_rfl) Tryz.func3 closed
    (of_decide_eq_true (by kernel_rfl)) wrapper
    (fun os started H enc _ F => by rw [OpenClaim.pre_eq_preRow]; exact lifted os started H enc F)

theorem plain (f : FuncId) (fn : Func) (hf : Tryz.pinned.checked.prog.funcNamed "given.example/pub-fusee/laws.FnAsInt" = some f) (hfn : Tryz.pinned.checked.prog.funcs[f]? = some fn) :
    true = Tryz.pinned.checked.prog.looks [] ∧ ∀ (j : Nat) t, fn.params[j]? = some t → Tryz.pinned.checked.prog.wantsStandIn t = false := by
  obtain rfl : f = 3 := Option.some.inj ((show Tryz.prog.funcNamed "given.example/pub-fusee/laws.FnAsInt" = some 3 by kernel_rfl).symm.trans hf) |>.symm
  obtain rfl : fn = Tryz.f3 := (Option.some.inj (Tryz.func3.symm.trans hfn)).symm
  refine ⟨by kernel_rfl, fun j t ht => ?_⟩
  rw [Tryz.params3] at ht
  have : t = 26 ∨ t = 5 := by simpa using Array.mem_of_getElem? ht
  rcases this with rfl | rfl
  · exact (show Tryz.prog.wantsStandIn 26 = false by kernel_rfl)
  · exact (show Tryz.prog.wantsStandIn 5 = false by kernel_rfl)

/-- ████ THE CARD ████ -/
theorem proved : Rows.FnAsIntCardSaid :=
  Claim7.holds_tied_plain_at .later [] _ _ _ _ said (fun _ h => by cases h) (by kernel_rfl) (fun _ h => by cases h) fnAsInt_row_tie rfl ⟨rfl, rfl⟩ (by kernel_rfl) rfl plain (by kernel_rfl)
#print axioms proved
end Go.Proofs.YtloloifngbmibaaGreatDoor.fnAsInt
