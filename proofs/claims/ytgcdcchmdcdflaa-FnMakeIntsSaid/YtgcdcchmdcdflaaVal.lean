/- Walks of the reference's bytesOf, Small, IntVal. -/
import Derived.Test.YtgcdcchmdcdflaaCmp
import Derived.Deep.RegionLaw
set_option linter.unusedVariables false
namespace Go.Proofs.Ytgcdcchmdcdflaa
open Go.RowKit

theorem bytesOf_any (x : Int) (h0 : 0 ≤ x) (h1 : x < 18446744073709551616) (w : World) :
    Calls Try.prog 14 #[.int .u64 x] w fun e w' => e = .returned (.slice (some ⟨w.heap.size, 0, none⟩) 8 8) ∧ Blk w' w.heap.size 5 (ints .u8 (be8 x)).toArray ∧ Below w.heap.size w w' := by
  have HX := Lib.hid (And.intro h0 h1)
  have hmk : ∀ w, (Instr.makeSlice 23 (.int .i64 8) (.int .i64 8)).run Try.prog w = .ok (.slice (some ⟨w.heap.size, 0, none⟩) 8 8) (w.alloc (.cells #[.int .u8 0, .int .u8 0, .int .u8 0, .int .u8 0, .int .u8 0, .int .u8 0, .int .u8 0, .int .u8 0] 5)) := fun _ => by kernel_rfl
  clear h0 h1
  have hnew := Lib.hid (Blk.new w 5 (ints .u8 [0, 0, 0, 0, 0, 0, 0, 0]).toArray)
  have hbel := Lib.hid ((Below.refl w.heap.size w).alloc (Nat.le_refl _) (.cells (ints .u8 [0, 0, 0, 0, 0, 0, 0, 0]).toArray 5))
  go_enter Try.func14, Try.ntmps14
  go_wp2
  go_loopw [0, 4] (fun d i wr => ∃ (q : Nat) (cp : List Int), q ≤ 8 ∧ i = .int .i64 ((q : Int) - 1) ∧ d = .int .u64 (shb x (8 - q)) ∧ Hid (cp.length = 8) ∧ Hid (cp.drop q = (be8 x).drop q) ∧ Hid (Blk wr w.heap.size 5 (ints .u8 cp).toArray) ∧ Hid (Below w.heap.size w wr)) (fun _ i _ => (intOf i + 1).toNat)
  case atStart => exact ⟨8, [0, 0, 0, 0, 0, 0, 0, 0], by omega, by simp, rfl, rfl, by show _ = _; rfl, hnew, hbel⟩
  case round =>
    obtain ⟨q, cp, hq, rfl, rfl, hcpl, hcpd, hbp, hgp⟩ := hrel
    cases q with
    | succ q =>
      have hbd := shb_bd x HX.out.1 HX.out.2 (7 - q)
      have hi : q < cp.length := by rw [hcpl.out]; omega
      have f0 := hbp.out.frozen q
      have c0 := (hbp.out.cell q).trans (show _ = some (Value.int .u8 (cp[q]'hi)) by simp [ints, hi])
      rw [show ((q + 1 : Nat) : Int) - 1 = (q : Int) by omega, show 8 - (q + 1) = 7 - q by omega]
      go_wp2
      go_roundw
      case rel =>
        refine ⟨q, cp.set q (shb x (7 - q) % 256), by omega, rfl, ?_, ?_, ?_, ?_, hgp.out.setCell (Nat.le_refl _) _⟩
        · rw [show 8 - q = 7 - q + 1 by omega]
          rfl
        · show _ = _
          rw [List.length_set]
          exact hcpl.out
        · show _ = _
          have hs := be8_step x (7 - q) (by omega)
          rw [show 8 - (7 - q + 1) = q by omega, show 8 - (7 - q) = q + 1 by omega] at hs
          rw [hs, ← hcpd.out, List.drop_eq_getElem_cons (by rw [List.length_set]; exact hi), List.getElem_set_self, List.drop_set_of_lt (by omega)]
        · have := hbp.out.set q (.int .u8 (shb x (7 - q) % 256))
          show Blk _ _ _ _
          simpa [ints, List.map_set] using this
      case measure => simp [intOf]
    | zero =>
      have hcp : cp = be8 x := by simpa using hcpd.out
      subst hcp
      go_wp2
      go_ret
      exact ⟨rfl, hbp.out, hgp.out⟩

theorem spw_neg (x : Int) (h0 : x < 0) (h1 : -9223372036854775808 ≤ x) : IntKind.u64.wrap (-IntKind.u64.wrap x) = -x := by
  simp only [IntKind.wrap_u64]
  omega

theorem small_any (x : Int) (h0 : -9223372036854775808 ≤ x) (h1 : x ≤ 9223372036854775807) (w : World) :
    Calls Try.prog 6 #[.int .i64 x] w fun e w' => ∃ v, e = .returned v ∧ SpI w' (Nw w w') v (sgn2 (decide (x < 0)) (strip (be8 (x.natAbs : Int)))) (strip (be8 (x.natAbs : Int))) ∧ Below w.heap.size w w' := by
  obtain ⟨u, hu⟩ : ∃ u : Int, u = (x.natAbs : Int) := ⟨_, rfl⟩
  have hu0 : 0 ≤ u ∧ u < 18446744073709551616 := by omega
  rw [← hu]
  have HU := Lib.hid hu0
  by_cases hx : x < 0
  · have hw : IntKind.u64.wrap (-IntKind.u64.wrap x) = u := by rw [spw_neg x hx h0]; omega
    have HW := Lib.hid hw
    have d0 := dec_yes hx
    clear hw hu0 hu
    go_enter Try.func6, Try.ntmps6
    go_wp2_with fail
    rw [HW.out]
    refine (bytesOf_any u HU.out.1 HU.out.2 _).mono ?_
    rintro e w1 ⟨rfl, hb, hbe⟩
    go_wp2_with fail
    refine (of_any (fun k => k = w.heap.size + 1) true _ (be8 u) (by rw [be8_len]; omega) w1 ⟨_, _, rfl, Nat.le_refl _, Rd.of_blk (ys := []) (by simpa using hb) rfl⟩ (fun k hk => by have := hb.lt; simp at this; omega)).mono ?_
    rintro e w2 ⟨v', rfl, hv, hb2⟩
    obtain ⟨mv, rfl, hmv⟩ := id hv
    obtain ⟨A, c, rfl, hlc, hr⟩ := hmv
    have hW1 := below_up hbe hb2
    have hrow := (Blk.new w 31 #[.bool false, .slice none 0 0]).below hW1 (by simp)
    have hfin := hv.put (w := w) (g := w.heap.size) (u0 := .bool (sgn2 true (strip (be8 u)))) (u1 := .slice A (strip (be8 u)).length c) (by have := hb.lt; simp at this; omega) (by have := hb.lt; simp at this; omega)
    have hbb := below_up ((Below.refl _ _).alloc (Nat.le_refl _) _) hW1
    have c0 := hrow.cell 0
    have c1 := hrow.cell 1
    have f0 := hrow.frozen 0
    have f1 := hrow.frozen 1
    have hlt := hrow.lt
    simp at c0 c1
    clear hv hr hW1 hbe hb2 hb
    go_wp2
    refine bodyPost_ret (v := .agg #[.bool (sgn2 true (strip (be8 u))), .slice A (strip (be8 u)).length c]) (by simp [results, Try.results6, go_sem, c0, c1]) rfl ⟨_, rfl, ?_, (hbb.setCell (Nat.le_refl _) _).setCell (Nat.le_refl _) _⟩
    rw [d0]
    exact hfin
  · have d0 := dec_no hx
    obtain rfl : u = x := by omega
    clear hu0 hu
    have g0 : 0 ≤ u := by omega
    go_enter Try.func6, Try.ntmps6
    go_wp2_with fail
    refine (bytesOf_any u HU.out.1 HU.out.2 _).mono ?_
    rintro e w1 ⟨rfl, hb, hbe⟩
    go_wp2_with fail
    refine (of_any (fun k => k = w.heap.size + 1) false _ (be8 u) (by rw [be8_len]; omega) w1 ⟨_, _, rfl, Nat.le_refl _, Rd.of_blk (ys := []) (by simpa using hb) rfl⟩ (fun k hk => by have := hb.lt; simp at this; omega)).mono ?_
    rintro e w2 ⟨v', rfl, hv, hb2⟩
    obtain ⟨mv, rfl, hmv⟩ := id hv
    obtain ⟨A, c, rfl, hlc, hr⟩ := hmv
    have hW1 := below_up hbe hb2
    have hrow := (Blk.new w 31 #[.bool false, .slice none 0 0]).below hW1 (by simp)
    have hfin := hv.put (w := w) (g := w.heap.size) (u0 := .bool (sgn2 false (strip (be8 u)))) (u1 := .slice A (strip (be8 u)).length c) (by have := hb.lt; simp at this; omega) (by have := hb.lt; simp at this; omega)
    have hbb := below_up ((Below.refl _ _).alloc (Nat.le_refl _) _) hW1
    have c0 := hrow.cell 0
    have c1 := hrow.cell 1
    have f0 := hrow.frozen 0
    have f1 := hrow.frozen 1
    have hlt := hrow.lt
    simp at c0 c1
    clear hv hr hW1 hbe hb2 hb
    go_wp2
    refine bodyPost_ret (v := .agg #[.bool (sgn2 false (strip (be8 u))), .slice A (strip (be8 u)).length c]) (by simp [results, Try.results6, go_sem, c0, c1]) rfl ⟨_, rfl, ?_, (hbb.setCell (Nat.le_refl _) _).setCell (Nat.le_refl _) _⟩
    rw [d0]
    exact hfin

theorem own_empty (w : World) (g : Nat) (hg : g = w.heap.size) (base : Nat) (hb : base ≤ w.heap.size) (t : TypeId) (size : Nat) : (w.alloc (.cells #[] t)).ownsRow base t size (.slice (some ⟨g, 0, none⟩) 0 0) 0 [] := by
  subst hg
  exact World.ownsRow_made w #[] 0 hb (by unfold maxLen; omega) (by simp)

theorem Rd.but {w : World} {S : Nat → Prop} {A : Option Addr} {xs : List Value} {g : Nat} (h : Rd w S A xs) (hne : A = none ∨ ∃ a, A = some a ∧ a.block ≠ g) : Rd w (fun k => S k ∧ k ≠ g) A xs := fun hn => by
  obtain ⟨b, o, e, hb, hc⟩ := h hn
  refine ⟨b, o, e, ⟨hb, ?_⟩, hc⟩
  rcases hne with h1 | ⟨a, h1, h2⟩
  · rw [e] at h1
    cases h1
  · rw [e] at h1
    injection h1 with h1
    subst h1
    exact h2
/-- A row of bytes is no block of another type. -/
theorem own_typed' {w : World} {base n m c g : Nat} {e t : TypeId} {size : Nat} {A : Option Addr} {xs : List Value} {cs : Array Value} (h : w.ownsRow base e size (.slice A m c) n xs) (hb : Blk w g t cs) (hne : e ≠ t) : A = none ∨ ∃ a, A = some a ∧ a.block ≠ g := by
  rcases h.2 with ⟨h1, _⟩ | ⟨g', cap, cur, h1, _, hh, _⟩
  · injection h1 with h1
    exact .inl h1
  · injection h1 with h1
    refine .inr ⟨_, h1, ?_⟩
    intro h2
    have h2 : g' = g := h2
    subst h2
    unfold Blk at hb
    rw [hb] at hh
    injection hh with hh
    injection hh with _ hh
    exact hne hh.symm

theorem intVal_any (S : Nat → Prop) (neg : Bool) (v : Value) (l : List Int) (hn : l.length ≤ 140737488355328) (w : World) (h : SlV w S .u8 v l) (hS : ∀ k, S k → k < w.heap.size) :
    Calls Try.prog 5 #[.agg #[.bool neg, v]] w fun e w' => ∃ mv, e = .returned (.agg #[.int .i64 2, .bool neg, mv, .int .u64 0, .string { data := #[] }, .slice none 0 0]) ∧ SlV w' (Nw w w') .u8 mv l ∧ Below w.heap.size w w' := by
  obtain ⟨A, c, rfl, hlc, hr⟩ := h
  have HR : Hid (∀ W : World, Below w.heap.size w W → Rd W S A (ints .u8 l)) := fun W hW => hr.keep (still_below hW hS)
  have HN := Lib.hid hn
  clear hr hS hn hlc
  go_enter Try.func5, Try.ntmps5
  go_wp2
  obtain ⟨W, hWe⟩ : ∃ W : World, W = (((w.alloc (.cells #[.bool neg, .slice A l.length c] 31)).alloc (.cells #[.int .i64 0, .bool false, .slice none 0 0, .int .u64 0, .string { data := #[] }, .slice none 0 0] 26)).alloc (.cells #[] 5)).drew := ⟨_, rfl⟩
  have hWb : Below w.heap.size w W := by rw [hWe]; exact ((((Below.refl _ _).alloc (Nat.le_refl _) _).alloc (by simp) _).alloc (by simp; omega) _).drew
  have hWo : W.ownsRow w.heap.size 5 1 (.slice (some ⟨w.heap.size + 1 + 1, 0, none⟩) 0 0) 0 [] := by
    rw [hWe]
    exact own_empty ((w.alloc (.cells #[.bool neg, .slice A l.length c] 31)).alloc (.cells #[.int .i64 0, .bool false, .slice none 0 0, .int .u64 0, .string { data := #[] }, .slice none 0 0] 26)) _ (by simp) _ (by simp; omega) _ _
  have hWr : Blk W (w.heap.size + 1) 26 #[.int .i64 0, .bool false, .slice none 0 0, .int .u64 0, .string { data := #[] }, .slice none 0 0] := by
    rw [hWe]
    have := (Blk.new (w.alloc (.cells #[.bool neg, .slice A l.length c] 31)) 26 #[.int .i64 0, .bool false, .slice none 0 0, .int .u64 0, .string { data := #[] }, .slice none 0 0]).alloc (.cells #[] 5)
    simpa using this.drew
  have hWq : Blk W w.heap.size 31 #[.bool neg, .slice A l.length c] := by
    rw [hWe]
    exact (((Blk.new w 31 #[.bool neg, .slice A l.length c]).alloc _).alloc _).drew
  have HW : Hid (W = _ ∧ Below w.heap.size w W ∧ _ ∧ _ ∧ _) := ⟨hWe, hWb, hWo, hWr, hWq⟩
  clear hWe hWb hWo hWr hWq
  go_region_law (obtain ⟨hWe, hWb, hWo, hWr, hWq⟩ := HW.out; refine step_append_rd _ rfl _ _ 23 rfl w.heap.size 5 (.int .u8 0) 1 1 Try.underlying23 info_u8 rfl (by decide) (.slice (some ⟨w.heap.size + 1 + 1, 0, none⟩) 0 0) 0 [] rfl (by rw [← hWe]; exact hWo) S A l.length c (ints .u8 l) rfl (by rw [ints_length, Nat.mul_one]) (by rw [← hWe]; exact HR.out _ hWb) (ints_one _ _) (by have := HN.out; unfold maxLen; omega) (by have := HN.out; omega) (by rw [← hWe]; exact hWb.size) ?_; intro v2 w2 ho hg hrow; rw [← hWe] at hg; rw [Nat.zero_add, List.nil_append] at ho; have hs := own_sl ho; obtain ⟨A2, c2, rfl, hlc2, hr2⟩ := hs; have hb2 : Below w.heap.size w w2 := hWb.grown hg hWb.size (fun k hk => by simp [Value.ownBlock] at hk; omega); have hrow2 : Blk w2 (w.heap.size + 1) 26 _ := hWr.keep (hg.block _ hWr.lt (by simp [Value.ownBlock])); have hne : A2 = none ∨ ∃ a2, A2 = some a2 ∧ a2.block ≠ w.heap.size + 1 := (by have ht := own_typed' ho hrow2 (by decide); exact ht); have hr3 := hr2.but hne; clear hr2 hne; have hrowq : Blk w2 w.heap.size 31 _ := hWq.keep (hg.block _ hWq.lt (by simp [Value.ownBlock]; omega)); have q0 := hrowq.cell 0; simp at q0; clear hWe hWb hWo hWr hWq ho hg hrow; have c0 := hrow2.cell 0; have c1 := hrow2.cell 1; have c2' := hrow2.cell 2; have c3 := hrow2.cell 3; have c4 := hrow2.cell 4; have c5 := hrow2.cell 5; have f0 := hrow2.frozen 0; have f1 := hrow2.frozen 1; have f2 := hrow2.frozen 2; have f3 := hrow2.frozen 3; have f4 := hrow2.frozen 4; have f5 := hrow2.frozen 5; have hlt := hrow2.lt; simp at c0 c1 c2' c3 c4 c5)
  all_goals
    go_wp2
    refine bodyPost_ret (v := .agg #[.int .i64 2, .bool neg, .slice A2 l.length c2, .int .u64 0, .string { data := #[] }, .slice none 0 0]) (by simp [results, Try.results5, go_sem, c0, c1, c2', c3, c4, c5]) rfl ⟨_, rfl, ?_, ?_⟩
    · have hS : ∀ k, (w.heap.size ≤ k ∧ k < w2.heap.size) ∧ k ≠ w.heap.size + 1 → k ≠ w.heap.size + 1 := fun k hk => hk.2
      refine sl_done hr3 hlc2 rfl ((((((Still.refl _ _).set hS _).set hS _).set hS _).set hS _).set hS _ |>.set hS _) ?_
      exact fun k hk => ⟨hk.1.1, by simpa using hk.1.2⟩
    · exact (((((hb2.setCell (by simp) _).setCell (by simp) _).setCell (by simp) _).setCell (by simp) _).setCell (by simp) _).setCell (by simp) _
end Go.Proofs.Ytgcdcchmdcdflaa
