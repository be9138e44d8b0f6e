/- FnFreeze returns true for every Val, every list of Tries, every place and every Try, frozen once or twice, and leaves all memory that was there before as it was; the tied card. -/
import Derived.Test.YtloloifngbmibaaGreatDoorCards
import Derived.Test.YtloloifngbmibaaGreatDoorTie
import Derived.Test.YtloloifngbmibaaGreatDoorM39
import Derived.Test.YtloloifngbmibaaGreatDoorM40
import Derived.Test.YtloloifngbmibaaGreatDoorM41
import Derived.Carry
import Derived.LaidSub
import Derived.WalkKit
import Derived.ProofKit
import Derived.OpenShut
import Derived.Deep.DeepHandedRow
import Derived.Lib.LaidTab
import Derived.Lay
namespace Go.Proofs.YtloloifngbmibaaGreatDoor.fnFreeze
open Go.ChangeShapes Go.WideShapes Go.ChangeAt Go.RowKit
set_option linter.unusedVariables false

theorem own : ownKnob Tryz.prog.godebug = none := by kernel_rfl
theorem laidOut : laidOutB Tryz.prog = true := by kernel_rfl
theorem gKarat : Tryz.prog.globalNamed "given.example/pub-fusee/pub/bigall.karatsubaThreshold" = some 2 := by kernel_rfl
theorem gLimit : Tryz.prog.globalNamed "given.example/pub-fusee/pub/starlark/starlark.CompareLimit" = some 1 := by kernel_rfl
theorem tKarat : (Tryz.prog.globals[2]?).map (·.type) = some 3 := by kernel_rfl
theorem tLimit : (Tryz.prog.globals[1]?).map (·.type) = some 3 := by kernel_rfl
theorem varsRead : varsOk Tryz.prog Rows.fnFreezeSpec.vars = true := by kernel_rfl

/-- What the row's list gives: the two thresholds. -/
theorem limits {W : World} (h : laidMetH Tryz.prog Rows.fnFreezeRow.laid W) : GL W := by
  have h1 := laidMetH.filter (fun x => x.1 == "given.example/pub-fusee/pub/bigall.karatsubaThreshold") h
  have h2 := laidMetH.filter (fun x => x.1 == "given.example/pub-fusee/pub/starlark/starlark.CompareLimit") h
  have e1 : (Rows.fnFreezeRow.laid.filter fun x => x.1 == "given.example/pub-fusee/pub/bigall.karatsubaThreshold") = [("given.example/pub-fusee/pub/bigall.karatsubaThreshold", .lit (.int .i64 40))] := by kernel_rfl
  have e2 : (Rows.fnFreezeRow.laid.filter fun x => x.1 == "given.example/pub-fusee/pub/starlark/starlark.CompareLimit") = [("given.example/pub-fusee/pub/starlark/starlark.CompareLimit", .lit (.int .i64 10))] := by kernel_rfl
  rw [e1] at h1
  rw [e2] at h2
  exact ⟨laid_int (rest := []) gKarat tKarat Tryz.underlying3 h1, laid_int (rest := []) gLimit tLimit Tryz.underlying3 h2⟩

set_option maxRecDepth 100000 in
theorem contract (H : Type) (enc : TypeId × Value → H) (W : World) (base : Nat) (args : Array Value) (ds gs : List (DataW H)) (before : List MemPlace)
    (hval : ∀ (j : Nat) t v, Tryz.f4.params[j]? = some t → args[j]? = some v → Value.okWide Tryz.prog W .any base t v)
    (hW : DataW.Whole enc Tryz.prog Tryz.f4.params.toList Rows.fnFreezeSpec.vars false W args.toList ds gs before) (hL : laidMetH Tryz.prog Rows.fnFreezeRow.laid W) :
    Calls Tryz.prog 4 args W fun e W' => ∃ v, e = .returned v ∧ Rows.fnFreezeSpec.post enc Tryz.prog Tryz.f4 false true false false W args v W' := by
  have hW' := hW
  obtain ⟨p, q, hA0, hV, rfl, hfz, hnd⟩ := hW
  have hA : DataW.TrodAll enc Tryz.prog W 0 (fun _ => true) true Tryz.f4.params.toList args.toList ds p := hA0
  rw [Tryz.params4] at hA hval
  obtain ⟨v0, vs0, d0, ds0, p0, q0, hargs, rfl, rfl, h0, r0⟩ := trodAll_cons hA
  obtain ⟨v1, vs1, d1, ds1, p1, q1, rfl, rfl, rfl, h1, r1⟩ := trodAll_cons r0
  obtain ⟨v2, vs2, d2, ds2, p2, q2, rfl, rfl, rfl, h2, r2⟩ := trodAll_cons r1
  obtain ⟨v3, vs3, d3, ds3, p3, q3, rfl, rfl, rfl, h3, r3⟩ := trodAll_cons r2
  obtain ⟨v4, vs4, d4, ds4, p4, q4, rfl, rfl, rfl, h4, r4⟩ := trodAll_cons r3
  obtain ⟨rfl, rfl, rfl⟩ := trodAll_nil r4
  obtain rfl : args = #[v0, v1, v2, v3, v4] := by cases args; simp_all
  have hgl := vars_len hV
  obtain ⟨g1, g2, g3, g4, g5, rfl⟩ : ∃ g1 g2 g3 g4 g5, gs = [g1, g2, g3, g4, g5] := by
    match gs, hgl with
    | [g1, g2, g3, g4, g5], _ => exact ⟨g1, g2, g3, g4, g5, rfl⟩
  have h0k := h0
  have h2k := h2
  have h4k := h4
  obtain ⟨t, x, rfl, hx, hin⟩ := open_valV 3 (hval 0 26 v0 rfl rfl) h0
  obtain ⟨a1, rfl, rfl, rfl⟩ := open_bool Tryz.underlying4 (hval 1 4 v1 rfl rfl) h1
  obtain ⟨A, n, c, rfl, hnc, hn, hT⟩ := open_tries (hval 2 42 v2 rfl rfl) h2
  obtain ⟨a3, rfl, rfl, rfl, w3⟩ := open_int Tryz.underlying5 (hval 3 5 v3 rfl rfl) h3
  obtain ⟨u, y, rfl, hk, hki⟩ := open_tryV (hval 4 44 v4 rfl rfl) h4
  clear hA0
  simp only [List.append_nil, List.nil_append] at hW'
  have hlt : ∀ z, z ∈ p0 ∨ z ∈ p2 ∨ z ∈ p4 ∨ z ∈ q → z.block < W.heap.size := fun z hz => hW'.lt z (by simpa [or_assoc] using hz)
  have hb3 := bounds_u8 w3
  obtain ⟨m, rfl⟩ := Int.eq_ofNat_of_zero_le (show 0 ≤ a3 by omega)
  refine (fnFreeze_any a1 hx hin hnc hT hk hki (limits hL) (at_ := m) (by omega)).mono fun e W' ⟨he, hg⟩ => ?_
  subst he
  exact ⟨_, rfl, post_of_below (pa := p0 ++ (p2 ++ p4)) (pv := q) hW' (fun _ _ _ => (trodAll_cons_mk (shut_bool Tryz.underlying4 _) trodAll_mk0)) (fun sp hsp => by
      have := trodAll_cons_mk (WideElems.Trod_stays laidOut (by kernel_rfl) (of_decide_eq_true (by kernel_rfl)) h0k (fun z hz => hg.same (hlt z (.inl hz))) (fun z hz => hsp z (by simp [hz]))) (trodAll_cons_mk (shut_bool Tryz.underlying4 a1) (trodAll_cons_mk (WideElems.Trod_stays laidOut (by kernel_rfl) (of_decide_eq_true (by kernel_rfl)) h2k (fun z hz => hg.same (hlt z (.inr (.inl hz)))) (fun z hz => hsp z (by simp [hz]))) (trodAll_cons_mk (shut_int Tryz.underlying5 w3) (trodAll_cons_mk (WideElems.Trod_stays laidOut (by kernel_rfl) (of_decide_eq_true (by kernel_rfl)) h4k (fun z hz => hg.same (hlt z (.inr (.inr (.inl hz))))) (fun z hz => hsp z (by simp [hz]))) trodAll_mk0))))
      simp only [List.append_nil, List.nil_append] at this
      exact this) (fun sp hsp => vars_stay laidOut hg varsRead (fun z hz => hsp z (by simp [hz])) hV) (by simp)
    hg (ok_one (by kernel_rfl) rfl (okWide_bool_mk Tryz.underlying4 _))⟩

/-- A world for the witness. -/
noncomputable def laidWorld (os : Os) : World := World.laidAll Tryz.prog os Rows.fnFreezeRow.laid
/-- Its arguments. -/
def zeros : Array Value := #[.agg #[.int .i64 0, .bool false, .slice none 0 0, .int .u64 0, .string ⟨#[]⟩, .slice none 0 0], .bool false, .slice none 0 0, .int .u8 0, .agg #[.int .i64 0, .int .i64 0, .int .i64 0, .bool false, .slice none 0 0, .int .u64 0, .string ⟨#[]⟩, .slice none 0 0]]
theorem laid_met (os : Os) : laidMet Tryz.prog Rows.fnFreezeRow.laid ((laidWorld os).forCall (fun _ _ => 0) ⟨#[], zeros, []⟩).memory :=
  laidMet_laidAll _ (by kernel_rfl) (by kernel_rfl)
theorem reads (os : Os) {H : Type} (enc : TypeId × Value → H) : ∃ places, DataW.whole enc Tryz.prog ((laidWorld os).forCall (fun _ _ => 0) ⟨#[], zeros, []⟩).memory Tryz.f4.params.toList Rows.fnFreezeSpec.vars false zeros.toList 8 =
    some ([.agg [.lit (.int .i64 0), .lit (.bool false), .nil, .lit (.int .u64 0), .lit (.string []), .nil], .lit (.bool false), .nil, .lit (.int .u8 0), .agg [.lit (.int .i64 0), .lit (.int .i64 0), .agg [.lit (.int .i64 0), .lit (.bool false), .nil, .lit (.int .u64 0), .lit (.string []), .nil]]], [.lit (.int .i64 10), .lit (.int .i64 40), .lit (.int .i64 40), .lit (.int .i64 12), .lit (.int .i64 80)], places) :=
  ⟨((DataW.whole enc Tryz.prog ((laidWorld os).forCall (fun _ _ => 0) ⟨#[], zeros, []⟩).memory Tryz.f4.params.toList Rows.fnFreezeSpec.vars false zeros.toList 8).map fun x => x.2.2).getD [], by kernel_rfl⟩

set_option maxRecDepth 100000 in
theorem lifted (os : Os) (started : os.Started) (H : Type) (enc : TypeId × Value → H) (F : Stop.Interp) :
    ReturnsInHanded {} Tryz.checked os 4 .any ((OpenSpec.ofChange Rows.fnFreezeSpec).preRow enc Tryz.prog Tryz.f4 Rows.fnFreezeRow.domain false Rows.fnFreezeRow.laid) (((OpenSpec.ofChange Rows.fnFreezeSpec).at F).post enc Tryz.prog Tryz.f4 false true false false) := by
  obtain ⟨places, hx⟩ := reads os enc
  refine returnsInHanded_of_row (C := Tryz.checked) (s := OpenSpec.ofChange Rows.fnFreezeSpec) own started (by kernel_rfl) Tryz.func4
    (witness_row_at (enc := enc) (C := Tryz.checked) false (laidWorld os) zeros rfl (by kernel_rfl) (by kernel_rfl) (by kernel_rfl)
      (OpenSpec.preRow_of_cond 8 hx (by kernel_rfl) (fun k hk => by cases hk) (by kernel_rfl) (laid_met os))) ?_
  intro W base args ds gs before hval hW _ _ _ hL _ _
  exact contract H enc W base args ds gs before hval hW hL

theorem wrapper : Tryz.f4.isWrapper Tryz.pinned.checked.prog Rows.fnFreezeRow.wrapper Rows.fnFreezeRow.mainSum := by
  unfold Func.isWrapper
  first | (rw [if_pos (by decide +kernel)]; kernel_rfl) | (rw [if_neg (by decide +kernel)]; exact ⟨rfl, rfl⟩)
theorem said : Rows.FnFreezeSaid :=
  OpenClaim.holds_of_cond 4 Tryz.f4 rfl rfl rfl rfl rfl rfl rfl ⟨rfl, rfl, rfl, rfl, rfl⟩ rfl rfl rfl rfl rfl (by kernel_rfl) Tryz.func4 closed
    (of_decide_eq_true (by kernel_rfl)) wrapper
    (fun os started H enc _ F => by rw [OpenClaim.pre_eq_preRow]; exact lifted os started H enc F)

theorem plain (f : FuncId) (fn : Func) (hf : Tryz.pinned.checked.prog.funcNamed "given.example/pub-fusee/laws.FnFreeze" = some f) (hfn : Tryz.pinned.checked.prog.funcs[f]? = some fn) :
    true = Tryz.pinned.checked.prog.looks [] ∧ ∀ (j : Nat) t, fn.params[j]? = some t → Tryz.pinned.checked.prog.wantsStandIn t = false := by
  obtain rfl : f = 4 := Option.some.inj ((show Tryz.prog.funcNamed "given.example/pub-fusee/laws.FnFreeze" = some 4 by kernel_rfl).symm.trans hf) |>.symm
  obtain rfl : fn = Tryz.f4 := (Option.some.inj (Tryz.func4.symm.trans hfn)).symm
  refine ⟨by kernel_rfl, fun j t ht => ?_⟩
  rw [Tryz.params4] at ht
  have : t = 26 ∨ t = 4 ∨ t = 42 ∨ t = 5 ∨ t = 44 := by simpa using Array.mem_of_getElem? ht
  rcases this with rfl | rfl | rfl | rfl | rfl
  · exact (show Tryz.prog.wantsStandIn 26 = false by kernel_rfl)
  · exact (show Tryz.prog.wantsStandIn 4 = false by kernel_rfl)
  · exact (show Tryz.prog.wantsStandIn 42 = false by kernel_rfl)
  · exact (show Tryz.prog.wantsStandIn 5 = false by kernel_rfl)
  · exact (show Tryz.prog.wantsStandIn 44 = false by kernel_rfl)

/-- ████ THE CARD ████ -/
theorem proved : Rows.FnFreezeCardSaid :=
  Claim7.holds_tied_plain_at .later [] _ _ _ _ said (fun _ h => by cases h) (by kernel_rfl) (fun _ h => by cases h) fnFreeze_row_tie rfl ⟨rfl, rfl⟩ (by kernel_rfl) rfl plain (by kernel_rfl)
#print axioms proved
end Go.Proofs.YtloloifngbmibaaGreatDoor.fnFreeze
