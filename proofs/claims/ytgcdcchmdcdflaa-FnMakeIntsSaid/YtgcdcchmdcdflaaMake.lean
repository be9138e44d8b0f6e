/- Walks: MakeInt, MakeInt64, MakeUint, MakeUint64. -/
import Derived.Test.YtgcdcchmdcdflaaNum
set_option linter.unusedVariables false
namespace Go.Proofs.Ytgcdcchmdcdflaa
open Go.RowKit

theorem makeSmall_any (x : Int) (w : World) :
    Calls Try.prog 24 #[.int .i64 x] w fun e w' => e = .returned (.agg #[.int .i64 x, .pointer none]) ∧ w.alloc (.cells #[.int .i64 x, .pointer none] 42) = w' := by
  go_enter Try.func24, Try.ntmps24
  go_wp2
  exact bodyPost_ret (v := .agg #[.int .i64 x, .pointer none]) (by simp [results, Try.results24, go_sem]) rfl ⟨rfl, rfl⟩

theorem makeBig_any (a : Option Addr) (w : World) :
    Calls Try.prog 25 #[.pointer a] w fun e w' => e = .returned (.agg #[.int .i64 0, .pointer a]) ∧ w.alloc (.cells #[.int .i64 0, .pointer a] 42) = w' := by
  go_enter Try.func25, Try.ntmps25
  go_wp2
  exact bodyPost_ret (v := .agg #[.int .i64 0, .pointer a]) (by simp [results, Try.results25, go_sem]) rfl ⟨rfl, rfl⟩

/-- A new int of the package. -/
def NewI (w : World) (v : Value) (neg : Bool) (xs : List Int) (w' : World) : Prop :=
  ∃ s a, v = .agg #[.int .i64 s, .pointer a] ∧ Below w.heap.size w w' ∧ BigOf w' (Nw w w') s a neg xs
theorem NewI.late {w W w' : World} {v : Value} {neg : Bool} {xs : List Int} (h : NewI W v neg xs w') (hb : Below w.heap.size w W) : NewI w v neg xs w' := by
  obtain ⟨s, a, h1, h2, h3⟩ := h
  exact ⟨s, a, h1, below_up hb h2, h3.mono (fun k hk => nw_late hb hk)⟩
/-- Its value is stored into a block that was there before. -/
theorem NewI.put {w w' : World} {s : Int} {a : Option Addr} {g : Nat} {neg : Bool} {xs : List Int} (h : NewI (w.alloc (.cells #[.int .i64 0, .pointer none] 42)) (.agg #[.int .i64 s, .pointer a]) neg xs w') (hg : g = w.heap.size) :
    NewI w (.agg #[.int .i64 s, .pointer a]) neg xs ((w'.setCell ⟨g, 0, none⟩ (.int .i64 s)).setCell ⟨g, 1, none⟩ (.pointer a)) := by
  subst hg
  obtain ⟨s', a', h1, h2, h3⟩ := h
  obtain ⟨rfl, rfl⟩ : s = s' ∧ a = a' := by simpa using h1
  have hb : Below w.heap.size w w' := below_up ((Below.refl _ _).alloc (Nat.le_refl _) _) h2
  refine ⟨_, _, rfl, (hb.setCell (Nat.le_refl _) _).setCell (Nat.le_refl _) _, ?_⟩
  have hne : ∀ k, Nw (w.alloc (.cells #[.int .i64 0, .pointer none] 42)) w' k → k ≠ w.heap.size := fun k hk => by have := hk.1; simp at this; omega
  refine (h3.keep (((Still.refl _ w').set (p := ⟨w.heap.size, 0, none⟩) hne _).set (p := ⟨w.heap.size, 1, none⟩) hne _)).mono ?_
  exact fun k hk => ⟨by have := hk.1; simp at this; omega, by simpa using hk.2⟩
theorem NewBig.of {w w' : World} {b : Nat} {neg : Bool} {xs : List Int} (h : NewBig w b neg xs w') (h1 : xs.length ≤ 4294967296) : BigOf w' (Nw w w') 0 (some ⟨b, 0, none⟩) neg xs := by
  have hb := h.big
  obtain ⟨_, _, v, hv, _⟩ := h
  exact BigOf.big w' (Nw w w') b neg xs h1 _ _ hv hb (fun k hk => hk.2)
theorem absW_len (x : Int) : (absW x).length ≤ 1 := by
  unfold absW
  split <;> simp

theorem makeInt64_any (x : Int) (h0 : -9223372036854775808 ≤ x) (h1 : x ≤ 9223372036854775807) (w : World) :
    Calls Try.prog 11 #[.int .i64 x] w fun e w' => ∃ v, e = .returned v ∧ NewI w v (decide (x < 0)) (absW x) w' := by
  by_cases hs : -2147483648 ≤ x ∧ x ≤ 2147483647
  · have d0 := dec_yes hs.1
    have d1 := dec_yes hs.2
    obtain ⟨g0, g1⟩ := hs
    go_enter Try.func11, Try.ntmps11
    go_wp2_with (go_at_call 24; refine (makeSmall_any _ _).mono ?_; rintro e w' ⟨rfl, rfl⟩)
    refine bodyPost_ret (v := .agg #[.int .i64 x, .pointer none]) (by simp [results, Try.results11, go_sem]) rfl ⟨_, rfl, _, _, rfl, ((Below.refl _ _).alloc (Nat.le_refl _) _).alloc (by simp) _, BigOf.small _ x h0 h1 _⟩
  · have key : ∀ (W : World) (b : Nat) (w1 : World), W = w.alloc (.cells #[.int .i64 0, .pointer none] 42) → NewBig W b (decide (x < 0)) (absW x) w1 →
        Blk w1 w.heap.size 42 #[.int .i64 0, .pointer none] ∧ NewI (w.alloc (.cells #[.int .i64 0, .pointer none] 42)) (.agg #[.int .i64 0, .pointer (some ⟨b, 0, none⟩)]) (decide (x < 0)) (absW x) (w1.alloc (.cells #[.int .i64 0, .pointer (some ⟨b, 0, none⟩)] 42)) := by
      rintro W b w1 rfl hb
      refine ⟨(Blk.new w 42 #[.int .i64 0, .pointer none]).below hb.1 (by simp), _, _, rfl, hb.1.alloc hb.1.size _, ?_⟩
      exact ((hb.of (Nat.le_trans (absW_len x) (by omega))).keep ((Still.refl _ _).alloc (fun k hk => hk.2) _)).mono (fun k hk => ⟨hk.1, by have := hk.2; simp; omega⟩)
    have HK := Lib.hid key
    clear key
    by_cases hl : x < -2147483648
    · have d0 := dec_no (show ¬ -2147483648 ≤ x by omega)
      clear hs
      go_enter Try.func11, Try.ntmps11
      go_wp2_with (go_at_call 26; refine (newInt_any x h0 h1 _).mono ?_; rintro e w1 ⟨b, rfl, hb⟩; obtain ⟨hrow, hfin⟩ := HK.out _ b w1 rfl hb; clear hb; have c0 := hrow.cell 0; have c1 := hrow.cell 1; have f0 := hrow.frozen 0; have f1 := hrow.frozen 1; have hlt := hrow.lt; simp at c0 c1)
      refine (makeBig_any _ _).mono ?_
      rintro e w' ⟨rfl, rfl⟩
      go_wp2
      refine bodyPost_ret (v := .agg #[.int .i64 0, .pointer (some ⟨b, 0, none⟩)]) (by simp [results, Try.results11, go_sem, c0, c1, hlt]) rfl ⟨_, rfl, ?_⟩
      have := hfin.put rfl
      rwa [World.setCell_alloc_past _ _ _ _ hlt, World.setCell_alloc_past _ _ _ _ (by simpa using hlt)] at this
    · have d0 := dec_yes (show -2147483648 ≤ x by omega)
      have d1 := dec_no (show ¬ x ≤ 2147483647 by omega)
      have e0 : -2147483648 ≤ x := by omega
      have e1 : ¬ x ≤ 2147483647 := by omega
      clear hs
      go_enter Try.func11, Try.ntmps11
      go_wp2_with (go_at_call 26; refine (newInt_any x h0 h1 _).mono ?_; rintro e w1 ⟨b, rfl, hb⟩; obtain ⟨hrow, hfin⟩ := HK.out _ b w1 rfl hb; clear hb; have c0 := hrow.cell 0; have c1 := hrow.cell 1; have f0 := hrow.frozen 0; have f1 := hrow.frozen 1; have hlt := hrow.lt; simp at c0 c1)
      refine (makeBig_any _ _).mono ?_
      rintro e w' ⟨rfl, rfl⟩
      go_wp2
      refine bodyPost_ret (v := .agg #[.int .i64 0, .pointer (some ⟨b, 0, none⟩)]) (by simp [results, Try.results11, go_sem, c0, c1, hlt]) rfl ⟨_, rfl, ?_⟩
      have := hfin.put rfl
      rwa [World.setCell_alloc_past _ _ _ _ hlt, World.setCell_alloc_past _ _ _ _ (by simpa using hlt)] at this

theorem makeInt_any (x : Int) (h0 : -9223372036854775808 ≤ x) (h1 : x ≤ 9223372036854775807) (w : World) :
    Calls Try.prog 10 #[.int .i64 x] w fun e w' => ∃ v, e = .returned v ∧ NewI w v (decide (x < 0)) (absW x) w' := by
  go_enter Try.func10, Try.ntmps10
  go_wp2_with (go_at_call 11; refine (makeInt64_any x h0 h1 _).mono ?_; rintro e w1 ⟨v, rfl, hv⟩; obtain ⟨s, a, rfl, hb, _⟩ := id hv; have hrow := (Blk.new w 42 #[.int .i64 0, .pointer none]).below hb (by simp); have hfin := hv.put rfl; clear hv hb; have c0 := hrow.cell 0; have c1 := hrow.cell 1; have f0 := hrow.frozen 0; have f1 := hrow.frozen 1; have hlt := hrow.lt; simp at c0 c1)
  exact bodyPost_ret (v := .agg #[.int .i64 s, .pointer a]) (by simp [results, Try.results10, go_sem, c0, c1]) rfl ⟨_, rfl, hfin⟩

/-- 'new(big.Int).SetUint64(x)', behind the new. -/
theorem setU_new (x : Int) (hx : ¬ x = 0) (h0 : 0 ≤ x) (h1 : x ≤ 18446744073709551615) (W : World) (g : Nat) (hg : g = W.heap.size) :
    Calls Try.prog 27 #[.pointer (some ⟨g, 0, none⟩), .int .u64 x] (W.alloc (.cells #[.bool false, .slice none 0 0] 63)) fun e w' => e = .returned (.pointer (some ⟨g, 0, none⟩)) ∧ NewBig W g false (absW x) w' := by
  subst hg
  have hbn := Blk.new W 63 #[.bool false, .slice none 0 0]
  refine (setU_pos x hx h0 h1 (W.alloc (.cells #[.bool false, .slice none 0 0] 63)) W.heap.size 0 (by simp) (.bool false) (by rw [hbn.cell]; rfl) (by rw [hbn.cell]; rfl) (hbn.frozen 0) (hbn.frozen 1)).mono ?_
  rintro e w' ⟨he, rfl⟩
  refine ⟨he, (((((Below.refl _ _).alloc (Nat.le_refl _) _).setCell (Nat.le_refl _) _).setCell (Nat.le_refl _) _).alloc (by simp) _), Nat.le_refl _, _, (((hbn.set 1 _).set 0 _).alloc _), .inr ⟨W.heap.size + 1, [], by omega, by omega, ?_, ?_⟩⟩
  · have e1 : (x.natAbs : Int) = x := by omega
    simp [absW, hx]
  · have := Blk.new (((W.alloc (.cells #[.bool false, .slice none 0 0] 63)).setCell ⟨W.heap.size, 1, none⟩ (.slice (some ⟨(W.alloc (.cells #[.bool false, .slice none 0 0] 63)).heap.size, 0, none⟩) 1 1)).setCell ⟨W.heap.size, 0, none⟩ (.bool false)) 71 #[.int .u64 x]
    have e1 : (x.natAbs : Int) = x := by omega
    simpa [absW, hx, ints, e1] using this

theorem makeUint64_any (x : Int) (h0 : 0 ≤ x) (h1 : x ≤ 18446744073709551615) (w : World) :
    Calls Try.prog 13 #[.int .u64 x] w fun e w' => ∃ v, e = .returned v ∧ NewI w v false (absW x) w' := by
  by_cases hs : x ≤ 2147483647
  · have d0 := dec_yes hs
    go_enter Try.func13, Try.ntmps13
    go_wp2_with (go_at_call 24; refine (makeSmall_any _ _).mono ?_; rintro e w' ⟨rfl, rfl⟩)
    refine bodyPost_ret (v := .agg #[.int .i64 x, .pointer none]) (by simp [results, Try.results13, go_sem]) rfl ⟨_, rfl, _, _, rfl, ((Below.refl _ _).alloc (Nat.le_refl _) _).alloc (by simp) _, ?_⟩
    have := BigOf.small (Nw w ((w.alloc (.cells #[.int .i64 x, .pointer none] 42)).alloc (.cells #[.int .i64 x, .pointer none] 42))) x (by omega) (by omega) ((w.alloc (.cells #[.int .i64 x, .pointer none] 42)).alloc (.cells #[.int .i64 x, .pointer none] 42))
    rwa [dec_no (show ¬ x < 0 by omega)] at this
  · have d0 := dec_no hs
    have hx : ¬ x = 0 := by omega
    have HX := Lib.hid hx
    clear hx hs
    go_enter Try.func13, Try.ntmps13
    go_wp2_with fail
    refine (setU_new x HX.out h0 h1 _ _ (by simp)).mono ?_
    rintro e w1 ⟨rfl, hb⟩
    have hrow := (Blk.new w 42 #[.int .i64 0, .pointer none]).below hb.1 (by simp)
    have hfin : NewI (w.alloc (.cells #[.int .i64 0, .pointer none] 42)) (.agg #[.int .i64 0, .pointer (some ⟨w.heap.size + 1, 0, none⟩)]) false (absW x) (w1.alloc (.cells #[.int .i64 0, .pointer (some ⟨w.heap.size + 1, 0, none⟩)] 42)) :=
      ⟨_, _, rfl, hb.1.alloc hb.1.size _, ((hb.of (Nat.le_trans (absW_len x) (by omega))).keep ((Still.refl _ _).alloc (fun k hk => hk.2) _)).mono (fun k hk => ⟨hk.1, by have := hk.2; simp; omega⟩)⟩
    clear hb
    have c0 := hrow.cell 0
    have c1 := hrow.cell 1
    have f0 := hrow.frozen 0
    have f1 := hrow.frozen 1
    have hlt := hrow.lt
    simp at c0 c1
    go_wp2_with fail
    refine (makeBig_any _ _).mono ?_
    rintro e w' ⟨rfl, rfl⟩
    go_wp2
    refine bodyPost_ret (v := .agg #[.int .i64 0, .pointer (some ⟨w.heap.size + 1, 0, none⟩)]) (by simp [results, Try.results13, go_sem, c0, c1, hlt]) rfl ⟨_, rfl, ?_⟩
    have := hfin.put rfl
    rwa [World.setCell_alloc_past _ _ _ _ hlt, World.setCell_alloc_past _ _ _ _ (by simpa using hlt)] at this

theorem makeUint_any (x : Int) (h0 : 0 ≤ x) (h1 : x ≤ 18446744073709551615) (w : World) :
    Calls Try.prog 12 #[.int .u64 x] w fun e w' => ∃ v, e = .returned v ∧ NewI w v false (absW x) w' := by
  go_enter Try.func12, Try.ntmps12
  go_wp2_with (go_at_call 13; refine (makeUint64_any x h0 h1 _).mono ?_; rintro e w1 ⟨v, rfl, hv⟩; obtain ⟨s, a, rfl, hb, _⟩ := id hv; have hrow := (Blk.new w 42 #[.int .i64 0, .pointer none]).below hb (by simp); have hfin := hv.put rfl; clear hv hb; have c0 := hrow.cell 0; have c1 := hrow.cell 1; have f0 := hrow.frozen 0; have f1 := hrow.frozen 1; have hlt := hrow.lt; simp at c0 c1)
  exact bodyPost_ret (v := .agg #[.int .i64 s, .pointer a]) (by simp [results, Try.results12, go_sem, c0, c1]) rfl ⟨_, rfl, hfin⟩
end Go.Proofs.Ytgcdcchmdcdflaa
