/- Walks: MakeInt, MakeInt64, MakeUint, MakeUint64. The package's ints: isSmall, MakeBigInt, whole. Walks of the reference's bytesOf, Small, IntVal. Walk of the reference's Same at two Vals of the kind Int that are told alike. -/
import Derived.Test.YtloloifngbmibaaGreatDoorM06
import Derived.Test.YtloloifngbmibaaGreatDoorM13
import Derived.Test.YtloloifngbmibaaGreatDoorM03
import Derived.Deep.RegionLaw
set_option linter.unusedVariables false
set_option maxRecDepth 4000
namespace Go.Proofs.YtloloifngbmibaaGreatDoor
open Go.RowKit

theorem makeSmall_any (x : Int) (w : World) :
    Calls Tryz.prog 94 #[.int .i64 x] w fun e w' => e = .returned (.agg #[.int .i64 x, .pointer none]) ∧ w.alloc (.cells #[.int .i64 x, .pointer none] 117) = w' := by
  go_enter Tryz.func94, Tryz.ntmps94
  go_wp2
  exact bodyPost_ret (v := .agg #[.int .i64 x, .pointer none]) (by simp [results, Tryz.results94, go_sem]) rfl ⟨rfl, rfl⟩

theorem makeBig_any (a : Option Addr) (w : World) :
    Calls Tryz.prog 95 #[.pointer a] w fun e w' => e = .returned (.agg #[.int .i64 0, .pointer a]) ∧ w.alloc (.cells #[.int .i64 0, .pointer a] 117) = w' := by
  go_enter Tryz.func95, Tryz.ntmps95
  go_wp2
  exact bodyPost_ret (v := .agg #[.int .i64 0, .pointer a]) (by simp [results, Tryz.results95, go_sem]) rfl ⟨rfl, rfl⟩

/-- A new int of the package. -/
def NewI (w : World) (v : Value) (neg : Bool) (xs : List Int) (w' : World) : Prop :=
  ∃ s a, v = .agg #[.int .i64 s, .pointer a] ∧ Below w.heap.size w w' ∧ BigOf w' (Nw w w') s a neg xs
theorem NewI.late {w W w' : World} {v : Value} {neg : Bool} {xs : List Int} (h : NewI W v neg xs w') (hb : Below w.heap.size w W) : NewI w v neg xs w' := by
  obtain ⟨s, a, h1, h2, h3⟩ := h
  exact ⟨s, a, h1, below_up hb h2, h3.mono (fun k hk => nw_late hb hk)⟩
/-- Its value is stored into a block that was there before. -/
theorem NewI.put {w w' : World} {s : Int} {a : Option Addr} {g : Nat} {neg : Bool} {xs : List Int} (h : NewI (w.alloc (.cells #[.int .i64 0, .pointer none] 117)) (.agg #[.int .i64 s, .pointer a]) neg xs w') (hg : g = w.heap.size) :
    NewI w (.agg #[.int .i64 s, .pointer a]) neg xs ((w'.setCell ⟨g, 0, none⟩ (.int .i64 s)).setCell ⟨g, 1, none⟩ (.pointer a)) := by
  subst hg
  obtain ⟨s', a', h1, h2, h3⟩ := h
  obtain ⟨rfl, rfl⟩ : s = s' ∧ a = a' := by simpa using h1
  have hb : Below w.heap.size w w' := below_up ((Below.refl _ _).alloc (Nat.le_refl _) _) h2
  refine ⟨_, _, rfl, (hb.setCell (Nat.le_refl _) _).setCell (Nat.le_refl _) _, ?_⟩
  have hne : ∀ k, Nw (w.alloc (.cells #[.int .i64 0, .pointer none] 117)) w' k → k ≠ w.heap.size := fun k hk => by have := hk.1; simp at this; omega
  refine (h3.keep (((Still.refl _ w').set (p := ⟨w.heap.size, 0, none⟩) hne _).set (p := ⟨w.heap.size, 1, none⟩) hne _)).mono ?_
  exact fun k hk => ⟨by have := hk.1; simp at this; omega, by simpa using hk.2⟩
theorem NewBig.of {w w' : World} {b : Nat} {neg : Bool} {xs : List Int} (h : NewBig w b neg xs w') (h1 : xs.length ≤ 4294967296) : BigOf w' (Nw w w') 0 (some ⟨b, 0, none⟩) neg xs := by
  have hb := h.big
  obtain ⟨_, _, v, hv, _⟩ := h
  exact BigOf.big w' (Nw w w') b neg xs h1 _ _ hv hb (fun k hk => hk.2)
theorem absW_len (x : Int) : (absW x).length ≤ 1 := by
  unfold absW
  split <;> simp

theorem makeInt64_any (x : Int) (h0 : -9223372036854775808 ≤ x) (h1 : x ≤ 9223372036854775807) (w : World) :
    Calls Tryz.prog 61 #[.int .i64 x] w fun e w' => ∃ v, e = .returned v ∧ NewI w v (decide (x < 0)) (absW x) w' := by
  by_cases hs : -2147483648 ≤ x ∧ x ≤ 2147483647
  · have d0 := dec_yes hs.1
    have d1 := dec_yes hs.2
    obtain ⟨g0, g1⟩ := hs
    go_enter Tryz.func61, Tryz.ntmps61
    go_wp2_with (go_at_call 94; refine (makeSmall_any _ _).mono ?_; rintro e w' ⟨rfl, rfl⟩)
    refine bodyPost_ret (v := .agg #[.int .i64 x, .pointer none]) (by simp [results, Tryz.results61, go_sem]) rfl ⟨_, rfl, _, _, rfl, ((Below.refl _ _).alloc (Nat.le_refl _) _).alloc (by simp) _, BigOf.small _ x h0 h1 _⟩
  · have key : ∀ (W : World) (b : Nat) (w1 : World), W = w.alloc (.cells #[.int .i64 0, .pointer none] 117) → NewBig W b (decide (x < 0)) (absW x) w1 →
        Blk w1 w.heap.size 117 #[.int .i64 0, .pointer none] ∧ NewI (w.alloc (.cells #[.int .i64 0, .pointer none] 117)) (.agg #[.int .i64 0, .pointer (some ⟨b, 0, none⟩)]) (decide (x < 0)) (absW x) (w1.alloc (.cells #[.int .i64 0, .pointer (some ⟨b, 0, none⟩)] 117)) := by
      rintro W b w1 rfl hb
      refine ⟨(Blk.new w 117 #[.int .i64 0, .pointer none]).below hb.1 (by simp), _, _, rfl, hb.1.alloc hb.1.size _, ?_⟩
      exact ((hb.of (Nat.le_trans (absW_len x) (by omega))).keep ((Still.refl _ _).alloc (fun k hk => hk.2) _)).mono (fun k hk => ⟨hk.1, by have := hk.2; simp; omega⟩)
    have HK := Lib.hid key
    clear key
    by_cases hl : x < -2147483648
    · have d0 := dec_no (show ¬ -2147483648 ≤ x by omega)
      clear hs
      go_enter Tryz.func61, Tryz.ntmps61
      go_wp2_with (go_at_call 96; refine (newInt_any x h0 h1 _).mono ?_; rintro e w1 ⟨b, rfl, hb⟩; obtain ⟨hrow, hfin⟩ := HK.out _ b w1 rfl hb; clear hb; have c0 := hrow.cell 0; have c1 := hrow.cell 1; have f0 := hrow.frozen 0; have f1 := hrow.frozen 1; have hlt := hrow.lt; simp at c0 c1)
      refine (makeBig_any _ _).mono ?_
      rintro e w' ⟨rfl, rfl⟩
      go_wp2
      refine bodyPost_ret (v := .agg #[.int .i64 0, .pointer (some ⟨b, 0, none⟩)]) (by simp [results, Tryz.results61, go_sem, c0, c1, hlt]) rfl ⟨_, rfl, ?_⟩
      have := hfin.put rfl
      rwa [World.setCell_alloc_past _ _ _ _ hlt, World.setCell_alloc_past _ _ _ _ (by simpa using hlt)] at this
    · have d0 := dec_yes (show -2147483648 ≤ x by omega)
      have d1 := dec_no (show ¬ x ≤ 2147483647 by omega)
      have e0 : -2147483648 ≤ x := by omega
      have e1 : ¬ x ≤ 2147483647 := by omega
      clear hs
      go_enter Tryz.func61, Tryz.ntmps61
      go_wp2_with (go_at_call 96; refine (newInt_any x h0 h1 _).mono ?_; rintro e w1 ⟨b, rfl, hb⟩; obtain ⟨hrow, hfin⟩ := HK.out _ b w1 rfl hb; clear hb; have c0 := hrow.cell 0; have c1 := hrow.cell 1; have f0 := hrow.frozen 0; have f1 := hrow.frozen 1; have hlt := hrow.lt; simp at c0 c1)
      refine (makeBig_any _ _).mono ?_
      rintro e w' ⟨rfl, rfl⟩
      go_wp2
      refine bodyPost_ret (v := .agg #[.int .i64 0, .pointer (some ⟨b, 0, none⟩)]) (by simp [results, Tryz.results61, go_sem, c0, c1, hlt]) rfl ⟨_, rfl, ?_⟩
      have := hfin.put rfl
      rwa [World.setCell_alloc_past _ _ _ _ hlt, World.setCell_alloc_past _ _ _ _ (by simpa using hlt)] at this

/-- 'new(big.Int).SetUint64(x)', behind the new. -/
theorem setU_new (x : Int) (hx : ¬ x = 0) (h0 : 0 ≤ x) (h1 : x ≤ 18446744073709551615) (W : World) (g : Nat) (hg : g = W.heap.size) :
    Calls Tryz.prog 97 #[.pointer (some ⟨g, 0, none⟩), .int .u64 x] (W.alloc (.cells #[.bool false, .slice none 0 0] 189)) fun e w' => e = .returned (.pointer (some ⟨g, 0, none⟩)) ∧ NewBig W g false (absW x) w' := by
  subst hg
  have hbn := Blk.new W 189 #[.bool false, .slice none 0 0]
  refine (setU_pos x hx h0 h1 (W.alloc (.cells #[.bool false, .slice none 0 0] 189)) W.heap.size 0 (by simp) (.bool false) (by rw [hbn.cell]; rfl) (by rw [hbn.cell]; rfl) (hbn.frozen 0) (hbn.frozen 1)).mono ?_
  rintro e w' ⟨he, rfl⟩
  refine ⟨he, (((((Below.refl _ _).alloc (Nat.le_refl _) _).setCell (Nat.le_refl _) _).setCell (Nat.le_refl _) _).alloc (by simp) _), Nat.le_refl _, _, (((hbn.set 1 _).set 0 _).alloc _), .inr ⟨W.heap.size + 1, [], by omega, by omega, ?_, ?_⟩⟩
  · have e1 : (x.natAbs : Int) = x := by omega
    simp [absW, hx]
  · have := Blk.new (((W.alloc (.cells #[.bool false, .slice none 0 0] 189)).setCell ⟨W.heap.size, 1, none⟩ (.slice (some ⟨(W.alloc (.cells #[.bool false, .slice none 0 0] 189)).heap.size, 0, none⟩) 1 1)).setCell ⟨W.heap.size, 0, none⟩ (.bool false)) 236 #[.int .u64 x]
    have e1 : (x.natAbs : Int) = x := by omega
    simpa [absW, hx, ints, e1] using this

theorem makeUint64_any (x : Int) (h0 : 0 ≤ x) (h1 : x ≤ 18446744073709551615) (w : World) :
    Calls Tryz.prog 62 #[.int .u64 x] w fun e w' => ∃ v, e = .returned v ∧ NewI w v false (absW x) w' := by
  by_cases hs : x ≤ 2147483647
  · have d0 := dec_yes hs
    go_enter Tryz.func62, Tryz.ntmps62
    go_wp2_with (go_at_call 94; refine (makeSmall_any _ _).mono ?_; rintro e w' ⟨rfl, rfl⟩)
    refine bodyPost_ret (v := .agg #[.int .i64 x, .pointer none]) (by simp [results, Tryz.results62, go_sem]) rfl ⟨_, rfl, _, _, rfl, ((Below.refl _ _).alloc (Nat.le_refl _) _).alloc (by simp) _, ?_⟩
    have := BigOf.small (Nw w ((w.alloc (.cells #[.int .i64 x, .pointer none] 117)).alloc (.cells #[.int .i64 x, .pointer none] 117))) x (by omega) (by omega) ((w.alloc (.cells #[.int .i64 x, .pointer none] 117)).alloc (.cells #[.int .i64 x, .pointer none] 117))
    rwa [dec_no (show ¬ x < 0 by omega)] at this
  · have d0 := dec_no hs
    have hx : ¬ x = 0 := by omega
    have HX := Lib.hid hx
    clear hx hs
    go_enter Tryz.func62, Tryz.ntmps62
    go_wp2_with fail
    refine (setU_new x HX.out h0 h1 _ _ (by simp)).mono ?_
    rintro e w1 ⟨rfl, hb⟩
    have hrow := (Blk.new w 117 #[.int .i64 0, .pointer none]).below hb.1 (by simp)
    have hfin : NewI (w.alloc (.cells #[.int .i64 0, .pointer none] 117)) (.agg #[.int .i64 0, .pointer (some ⟨w.heap.size + 1, 0, none⟩)]) false (absW x) (w1.alloc (.cells #[.int .i64 0, .pointer (some ⟨w.heap.size + 1, 0, none⟩)] 117)) :=
      ⟨_, _, rfl, hb.1.alloc hb.1.size _, ((hb.of (Nat.le_trans (absW_len x) (by omega))).keep ((Still.refl _ _).alloc (fun k hk => hk.2) _)).mono (fun k hk => ⟨hk.1, by have := hk.2; simp; omega⟩)⟩
    clear hb
    have c0 := hrow.cell 0
    have c1 := hrow.cell 1
    have f0 := hrow.frozen 0
    have f1 := hrow.frozen 1
    have hlt := hrow.lt
    simp at c0 c1
    go_wp2_with fail
    refine (makeBig_any _ _).mono ?_
    rintro e w' ⟨rfl, rfl⟩
    go_wp2
    refine bodyPost_ret (v := .agg #[.int .i64 0, .pointer (some ⟨w.heap.size + 1, 0, none⟩)]) (by simp [results, Tryz.results62, go_sem, c0, c1, hlt]) rfl ⟨_, rfl, ?_⟩
    have := hfin.put rfl
    rwa [World.setCell_alloc_past _ _ _ _ hlt, World.setCell_alloc_past _ _ _ _ (by simpa using hlt)] at this
end Go.Proofs.YtloloifngbmibaaGreatDoor
set_option linter.unusedVariables false
set_option linter.unusedSimpArgs false
set_option maxRecDepth 4000
namespace Go.Proofs.YtloloifngbmibaaGreatDoor
open Go.RowKit

/-- An int of the package, worth x, in blocks from B on. -/
def SI (B : Nat) (v : Value) (x : Int) (W : World) : Prop :=
  (v = .agg #[.int .i64 x, .pointer none] ∧ -2147483648 ≤ x ∧ x ≤ 2147483647) ∨
  ∃ (b : Nat) (neg : Bool) (ws : List Int) (u : Value), v = .agg #[.int .i64 0, .pointer (some ⟨b, 0, none⟩)] ∧ Blk W b 189 #[.bool neg, u] ∧ SlV W (fun k => B ≤ k ∧ k < W.heap.size) .u64 u ws ∧ B ≤ b ∧ WL ws ∧ Nrm ws ∧ 0 < ws.length ∧ ws.length ≤ 30 ∧ wv neg ws = x
theorem SI.up {B : Nat} {v : Value} {x : Int} {W W' : World} (h : SI B v x W) (hb : Below W.heap.size W W') : SI B v x W' := by
  rcases h with h | ⟨b, neg, ws, u, h1, h2, h3, h4⟩
  · exact .inl h
  · exact .inr ⟨b, neg, ws, u, h1, h2.below hb h2.lt, (h3.keep (still_below hb (fun k hk => hk.2))).mono (fun k hk => ⟨hk.1, Nat.lt_of_lt_of_le hk.2 hb.size⟩), h4⟩
theorem SI.low {B B' : Nat} {v : Value} {x : Int} {W : World} (h : SI B v x W) (hB : B' ≤ B) : SI B' v x W := by
  rcases h with h | ⟨b, neg, ws, u, h1, h2, h3, h4, h5⟩
  · exact .inl h
  · exact .inr ⟨b, neg, ws, u, h1, h2, h3.mono (fun k hk => ⟨Nat.le_trans hB hk.1, hk.2⟩), Nat.le_trans hB h4, h5⟩
theorem SI.set {B : Nat} {v : Value} {x : Int} {W : World} (h : SI B v x W) {p : Addr} (hp : p.block < B) (y : Value) : SI B v x (W.setCell p y) := by
  rcases h with h | ⟨b, neg, ws, u, h1, h2, h3, h4, h5⟩
  · exact .inl h
  · exact .inr ⟨b, neg, ws, u, h1, h2.far (by omega) y, (h3.keep ((Still.refl _ W).set (fun k hk => by have := hk.1; omega) y)).mono (fun k hk => ⟨hk.1, by simpa using hk.2⟩), h4, h5⟩
theorem NewBig.si {w W : World} {b : Nat} {neg : Bool} {ws : List Int} (h : NewBig w b neg ws W) (hw : WL ws) (hn : Nrm ws) (h0 : 0 < ws.length) (h1 : ws.length ≤ 30) : SI w.heap.size (.agg #[.int .i64 0, .pointer (some ⟨b, 0, none⟩)]) (wv neg ws) W := by
  obtain ⟨v, hS, c0, c1, hv⟩ := h.big
  obtain ⟨hb, hle, u, hB, hu⟩ := h
  have e1 := hB.cell 1
  simp at e1
  rw [Nat.zero_add, e1] at c1
  injection c1 with c1
  subst c1
  exact .inr ⟨b, neg, ws, _, rfl, hB, hv.mono (fun k hk => ⟨hk.1, hk.2⟩), hle, hw, hn, h0, h1, rfl⟩

theorem isSmall_any (S : Nat → Prop) (b o : Nat) (neg : Bool) (ws : List Int) (hn : ws.length ≤ 1000000) (hw : WL ws) (hr : Nrm ws) (w : World) (h : BigV w S b o neg ws) :
    Calls Tryz.prog 125 #[.pointer (some ⟨b, o, none⟩)] w fun e w' => ∃ r : Bool, e = .returned (.bool r) ∧ (r = true → -2147483648 ≤ wv neg ws ∧ wv neg ws ≤ 2147483647) ∧ (r = false → ws ≠ []) ∧ w' = w := by
  have HC := Lib.hid (bitLenI S b o neg ws hn hw hr w h)
  have HI := Lib.hid (int64_any S b o neg ws hw w h)
  have H0 := Lib.hid (nv_nonneg hw)
  obtain ⟨y, hy⟩ : ∃ y, y = IntKind.i64.wrap (wv neg ws) := ⟨_, rfl⟩
  rw [← hy] at HI
  have HY := Lib.hid hy
  clear h hn hr hw hy
  go_enter Tryz.func125, Tryz.ntmps125
  go_wp2_with fail
  refine HC.out.mono ?_
  rintro e w1 ⟨r, rfl, ⟨l0, l1, l2⟩, rfl⟩
  have HL := Lib.hid (And.intro l0 (And.intro l1 l2))
  clear l0 l1 l2 HC
  by_cases h1 : r < 32
  · have d1 : (r : Int) < 32 := by omega
    go_wp2
    go_ret
    refine ⟨true, rfl, fun _ => ?_, (fun h => nomatch h), rfl⟩
    have hp : 2 ^ r ≤ 2147483648 := Nat.pow_le_pow_right (n := 2) (j := 31) (by decide) (by omega)
    have h2 : (2 : Int) ^ r = ((2 ^ r : Nat) : Int) := by simp
    have := HL.out.2.1
    have := H0.out
    unfold wv
    split <;> omega
  · have hne : Hid (ws ≠ []) := Lib.hid (fun h => by have := HL.out.1 h; omega)
    by_cases h2 : r = 32
    · subst h2
      by_cases h3 : y = -2147483648
      · subst h3
        go_wp2_with (refine HI.out.mono ?_; rintro e w2 ⟨rfl, rfl⟩)
        go_ret
        refine ⟨true, rfl, fun _ => ?_, (fun h => nomatch h), rfl⟩
        have h5 := HL.out.2.1
        have h6 := H0.out
        have h4 := HY.out
        rw [IntKind.wrap_i64] at h4
        unfold wv at h4 ⊢
        split <;> simp_all <;> omega
      · have e3 := beq_no h3
        go_wp2_with (refine HI.out.mono ?_; rintro e w2 ⟨rfl, rfl⟩)
        go_ret
        exact ⟨false, rfl, (fun h => nomatch h), fun _ => hne.out, rfl⟩
    · have e3 : ((r : Int) == 32) = false := beq_no (by omega)
      have e4 : 32 ≤ (r : Int) := by omega
      go_wp2
      go_ret
      exact ⟨_, rfl, fun h => absurd (of_decide_eq_true h) (Int.not_lt.2 e4), fun _ => hne.out, rfl⟩

theorem wv_nv {neg : Bool} {ws l : List Int} (h : nv ws = bv l) : wv neg ws = iv neg l := by
  unfold wv iv
  rw [h]

theorem makeBigInt_any (S : Nat → Prop) (b : Nat) (neg : Bool) (u : Value) (ws : List Int) (hn : ws.length ≤ 30) (hw : WL ws) (hr : Nrm ws) (w : World) (hb : Blk w b 189 #[.bool neg, u]) (hu : SlV w S .u64 u ws) (hS : ∀ k, S k → k < w.heap.size) :
    Calls Tryz.prog 110 #[.pointer (some ⟨b, 0, none⟩)] w fun e w' => ∃ v, e = .returned v ∧ SI w.heap.size v (wv neg ws) w' ∧ Below w.heap.size w w' := by
  have hB : ∀ W, Below w.heap.size w W → BigV W (fun k => k < w.heap.size) b 0 neg ws := fun W hW =>
    (BigV.of_blk hb hb.lt (hu.mono hS)).keep (still_below hW (fun k hk => hk))
  have HC := Lib.hid (fun W hW => isSmall_any _ b 0 neg ws (by omega) hw hr W (hB W hW))
  have HI := Lib.hid (fun W hW => int64_any _ b 0 neg ws hw W (hB W hW))
  have HS := Lib.hid (fun W (hW : Below w.heap.size w W) => big_set_new W (fun k => k < w.heap.size) b 0 neg ws (by omega) (Nat.lt_of_lt_of_le hb.lt hW.size) _ _ (hb.below hW hb.lt) (hB W hW))
  have HW := Lib.hid (And.intro hw (And.intro hr hn))
  obtain ⟨x, hxe⟩ : ∃ x, x = wv neg ws := ⟨_, rfl⟩
  rw [← hxe] at HC HI ⊢
  have HXE := Lib.hid hxe
  clear hB hn hw hr hb hu hS hxe
  have h1 : Below w.heap.size w (w.alloc (.cells #[.int .i64 0, .pointer none] 117)) := (Below.refl _ _).alloc (Nat.le_refl _) _
  have HB1 := Lib.hid h1
  have HRW := Lib.hid (Blk.new w 117 #[.int .i64 0, .pointer none])
  clear h1
  go_enter Tryz.func110, Tryz.ntmps110
  go_wp2_with fail
  refine (HC.out _ HB1.out).mono ?_
  rintro e w1 ⟨r, rfl, hr1, hr2, rfl⟩
  have HR1 := Lib.hid hr1
  have HR2 := Lib.hid hr2
  clear hr1 hr2 HC
  cases r
  · have HS1 := HS.out _ HB1.out
    rw [show (w.alloc (.cells #[.int .i64 0, .pointer none] 117)).heap.size = w.heap.size + 1 by simp] at HS1
    replace HS1 := Lib.hid HS1
    clear HS
    go_wp2_with fail
    refine HS1.out.mono ?_
    rintro e w2 ⟨b2, rfl, hnb⟩
    have hrow := HRW.out.below hnb.1 (by simp)
    have hsi := hnb.si HW.out.1 HW.out.2.1 (List.length_pos_iff.2 (HR2.out trivial)) HW.out.2.2
    rw [← HXE.out] at hsi
    have HSI := Lib.hid hsi
    have HBL := Lib.hid (below_up HB1.out hnb.1)
    have c0 := hrow.cell 0
    have c1 := hrow.cell 1
    have f0 := hrow.frozen 0
    have f1 := hrow.frozen 1
    have hlt := hrow.lt
    simp at c0 c1
    clear hrow hsi hnb HS1 HI HB1 HRW
    go_wp2_with fail
    refine (makeBig_any _ _).mono ?_
    rintro e w3 ⟨rfl, rfl⟩
    go_wp2
    refine bodyPost_ret (v := .agg #[.int .i64 0, .pointer (some ⟨b2, 0, none⟩)]) (by simp [results, Tryz.results110, go_sem, c0, c1, hlt]) rfl ⟨_, rfl, ?_, ?_⟩
    · refine SI.low (B := w.heap.size + 1) ?_ (Nat.le_succ _)
      have h1 := HSI.out
      rw [show (w.alloc (.cells #[.int .i64 0, .pointer none] 117)).heap.size = w.heap.size + 1 by simp] at h1
      exact ((h1.set (p := ⟨w.heap.size, 0, none⟩) (Nat.lt_succ_self _) _).set (p := ⟨w.heap.size, 1, none⟩) (Nat.lt_succ_self _) _).up (below_al (Below.refl _ _) _)
    · exact below_al ((HBL.out.setCell (p := ⟨w.heap.size, 0, none⟩) (Nat.le_refl _) _).setCell (p := ⟨w.heap.size, 1, none⟩) (Nat.le_refl _) _) _
  · have hx := HR1.out rfl
    have hw : IntKind.i64.wrap x = x := by rw [IntKind.wrap_i64]; omega
    rw [hw] at HI
    have HX := Lib.hid hx
    clear hx hw HS HRW HR1
    go_wp2_with fail
    refine (HI.out _ HB1.out).mono ?_
    rintro e w2 ⟨rfl, rfl⟩
    go_wp2_with fail
    refine (makeSmall_any _ _).mono ?_
    rintro e w3 ⟨rfl, rfl⟩
    go_wp2
    refine bodyPost_ret (v := .agg #[.int .i64 x, .pointer none]) (by simp [results, Tryz.results110, go_sem]) rfl ⟨_, rfl, .inl ⟨rfl, HX.out⟩, ?_⟩
    exact below_al (below_al (Below.refl _ _) _) _
end Go.Proofs.YtloloifngbmibaaGreatDoor
set_option linter.unusedVariables false
set_option maxRecDepth 4000
namespace Go.Proofs.YtloloifngbmibaaGreatDoor
open Go.RowKit

theorem bytesOf_any (x : Int) (h0 : 0 ≤ x) (h1 : x < 18446744073709551616) (w : World) :
    Calls Tryz.prog 24 #[.int .u64 x] w fun e w' => e = .returned (.slice (some ⟨w.heap.size, 0, none⟩) 8 8) ∧ Blk w' w.heap.size 5 (ints .u8 (be8 x)).toArray ∧ Below w.heap.size w w' := by
  have HX := Lib.hid (And.intro h0 h1)
  have hmk : ∀ w, (Instr.makeSlice 22 (.int .i64 8) (.int .i64 8)).run Tryz.prog w = .ok (.slice (some ⟨w.heap.size, 0, none⟩) 8 8) (w.alloc (.cells #[.int .u8 0, .int .u8 0, .int .u8 0, .int .u8 0, .int .u8 0, .int .u8 0, .int .u8 0, .int .u8 0] 5)) := fun _ => by kernel_rfl
  clear h0 h1
  have hnew := Lib.hid (Blk.new w 5 (ints .u8 [0, 0, 0, 0, 0, 0, 0, 0]).toArray)
  have hbel := Lib.hid ((Below.refl w.heap.size w).alloc (Nat.le_refl _) (.cells (ints .u8 [0, 0, 0, 0, 0, 0, 0, 0]).toArray 5))
  go_enter Tryz.func24, Tryz.ntmps24
  go_wp2
  go_loopw [0, 4] (fun d i wr => ∃ (q : Nat) (cp : List Int), q ≤ 8 ∧ i = .int .i64 ((q : Int) - 1) ∧ d = .int .u64 (shb x (8 - q)) ∧ Hid (cp.length = 8) ∧ Hid (cp.drop q = (be8 x).drop q) ∧ Hid (Blk wr w.heap.size 5 (ints .u8 cp).toArray) ∧ Hid (Below w.heap.size w wr)) (fun _ i _ => (intOf i + 1).toNat)
  case atStart => exact ⟨8, [0, 0, 0, 0, 0, 0, 0, 0], by omega, by simp, rfl, rfl, by show _ = _; rfl, hnew, hbel⟩
  case round =>
    obtain ⟨q, cp, hq, rfl, rfl, hcpl, hcpd, hbp, hgp⟩ := hrel
    cases q with
    | succ q =>
      have hbd := shb_bd x HX.out.1 HX.out.2 (7 - q)
      have hi : q < cp.length := by rw [hcpl.out]; omega
      have f0 := hbp.out.frozen q
      have c0 := (hbp.out.cell q).trans (show _ = some (Value.int .u8 (cp[q]'hi)) by simp [ints, hi])
      rw [show ((q + 1 : Nat) : Int) - 1 = (q : Int) by omega, show 8 - (q + 1) = 7 - q by omega]
      go_wp2
      go_roundw
      case rel =>
        refine ⟨q, cp.set q (shb x (7 - q) % 256), by omega, rfl, ?_, ?_, ?_, ?_, hgp.out.setCell (Nat.le_refl _) _⟩
        · rw [show 8 - q = 7 - q + 1 by omega]
          rfl
        · show _ = _
          rw [List.length_set]
          exact hcpl.out
        · show _ = _
          have hs := be8_step x (7 - q) (by omega)
          rw [show 8 - (7 - q + 1) = q by omega, show 8 - (7 - q) = q + 1 by omega] at hs
          rw [hs, ← hcpd.out, List.drop_eq_getElem_cons (by rw [List.length_set]; exact hi), List.getElem_set_self, List.drop_set_of_lt (by omega)]
        · have := hbp.out.set q (.int .u8 (shb x (7 - q) % 256))
          show Blk _ _ _ _
          simpa [ints, List.map_set] using this
      case measure => simp [intOf]
    | zero =>
      have hcp : cp = be8 x := by simpa using hcpd.out
      subst hcp
      go_wp2
      go_ret
      exact ⟨rfl, hbp.out, hgp.out⟩

theorem spw_neg (x : Int) (h0 : x < 0) (h1 : -9223372036854775808 ≤ x) : IntKind.u64.wrap (-IntKind.u64.wrap x) = -x := by
  simp only [IntKind.wrap_u64]
  omega

theorem small_any (x : Int) (h0 : -9223372036854775808 ≤ x) (h1 : x ≤ 9223372036854775807) (w : World) :
    Calls Tryz.prog 8 #[.int .i64 x] w fun e w' => ∃ v, e = .returned v ∧ SpI w' (Nw w w') v (sgn2 (decide (x < 0)) (strip (be8 (x.natAbs : Int)))) (strip (be8 (x.natAbs : Int))) ∧ Below w.heap.size w w' := by
  obtain ⟨u, hu⟩ : ∃ u : Int, u = (x.natAbs : Int) := ⟨_, rfl⟩
  have hu0 : 0 ≤ u ∧ u < 18446744073709551616 := by omega
  rw [← hu]
  have HU := Lib.hid hu0
  by_cases hx : x < 0
  · have hw : IntKind.u64.wrap (-IntKind.u64.wrap x) = u := by rw [spw_neg x hx h0]; omega
    have HW := Lib.hid hw
    have d0 := dec_yes hx
    clear hw hu0 hu
    go_enter Tryz.func8, Tryz.ntmps8
    go_wp2_with fail
    rw [HW.out]
    refine (bytesOf_any u HU.out.1 HU.out.2 _).mono ?_
    rintro e w1 ⟨rfl, hb, hbe⟩
    go_wp2_with fail
    refine (of_any (fun k => k = w.heap.size + 1) true _ (be8 u) (by rw [be8_len]; omega) w1 ⟨_, _, rfl, Nat.le_refl _, Rd.of_blk (ys := []) (by simpa using hb) rfl⟩ (fun k hk => by have := hb.lt; simp at this; omega)).mono ?_
    rintro e w2 ⟨v', rfl, hv, hb2⟩
    obtain ⟨mv, rfl, hmv⟩ := id hv
    obtain ⟨A, c, rfl, hlc, hr⟩ := hmv
    have hW1 := below_up hbe hb2
    have hrow := (Blk.new w 32 #[.bool false, .slice none 0 0]).below hW1 (by simp)
    have hfin := hv.put (w := w) (g := w.heap.size) (u0 := .bool (sgn2 true (strip (be8 u)))) (u1 := .slice A (strip (be8 u)).length c) (by have := hb.lt; simp at this; omega) (by have := hb.lt; simp at this; omega)
    have hbb := below_up ((Below.refl _ _).alloc (Nat.le_refl _) _) hW1
    have c0 := hrow.cell 0
    have c1 := hrow.cell 1
    have f0 := hrow.frozen 0
    have f1 := hrow.frozen 1
    have hlt := hrow.lt
    simp at c0 c1
    clear hv hr hW1 hbe hb2 hb
    go_wp2
    refine bodyPost_ret (v := .agg #[.bool (sgn2 true (strip (be8 u))), .slice A (strip (be8 u)).length c]) (by simp [results, Tryz.results8, go_sem, c0, c1]) rfl ⟨_, rfl, ?_, (hbb.setCell (Nat.le_refl _) _).setCell (Nat.le_refl _) _⟩
    rw [d0]
    exact hfin
  · have d0 := dec_no hx
    obtain rfl : u = x := by omega
    clear hu0 hu
    have g0 : 0 ≤ u := by omega
    go_enter Tryz.func8, Tryz.ntmps8
    go_wp2_with fail
    refine (bytesOf_any u HU.out.1 HU.out.2 _).mono ?_
    rintro e w1 ⟨rfl, hb, hbe⟩
    go_wp2_with fail
    refine (of_any (fun k => k = w.heap.size + 1) false _ (be8 u) (by rw [be8_len]; omega) w1 ⟨_, _, rfl, Nat.le_refl _, Rd.of_blk (ys := []) (by simpa using hb) rfl⟩ (fun k hk => by have := hb.lt; simp at this; omega)).mono ?_
    rintro e w2 ⟨v', rfl, hv, hb2⟩
    obtain ⟨mv, rfl, hmv⟩ := id hv
    obtain ⟨A, c, rfl, hlc, hr⟩ := hmv
    have hW1 := below_up hbe hb2
    have hrow := (Blk.new w 32 #[.bool false, .slice none 0 0]).below hW1 (by simp)
    have hfin := hv.put (w := w) (g := w.heap.size) (u0 := .bool (sgn2 false (strip (be8 u)))) (u1 := .slice A (strip (be8 u)).length c) (by have := hb.lt; simp at this; omega) (by have := hb.lt; simp at this; omega)
    have hbb := below_up ((Below.refl _ _).alloc (Nat.le_refl _) _) hW1
    have c0 := hrow.cell 0
    have c1 := hrow.cell 1
    have f0 := hrow.frozen 0
    have f1 := hrow.frozen 1
    have hlt := hrow.lt
    simp at c0 c1
    clear hv hr hW1 hbe hb2 hb
    go_wp2
    refine bodyPost_ret (v := .agg #[.bool (sgn2 false (strip (be8 u))), .slice A (strip (be8 u)).length c]) (by simp [results, Tryz.results8, go_sem, c0, c1]) rfl ⟨_, rfl, ?_, (hbb.setCell (Nat.le_refl _) _).setCell (Nat.le_refl _) _⟩
    rw [d0]
    exact hfin

theorem own_empty (w : World) (g : Nat) (hg : g = w.heap.size) (base : Nat) (hb : base ≤ w.heap.size) (t : TypeId) (size : Nat) : (w.alloc (.cells #[] t)).ownsRow base t size (.slice (some ⟨g, 0, none⟩) 0 0) 0 [] := by
  subst hg
  exact World.ownsRow_made w #[] 0 hb (by unfold maxLen; omega) (by simp)

theorem Rd.but {w : World} {S : Nat → Prop} {A : Option Addr} {xs : List Value} {g : Nat} (h : Rd w S A xs) (hne : A = none ∨ ∃ a, A = some a ∧ a.block ≠ g) : Rd w (fun k => S k ∧ k ≠ g) A xs := fun hn => by
  obtain ⟨b, o, e, hb, hc⟩ := h hn
  refine ⟨b, o, e, ⟨hb, ?_⟩, hc⟩
  rcases hne with h1 | ⟨a, h1, h2⟩
  · rw [e] at h1
    cases h1
  · rw [e] at h1
    injection h1 with h1
    subst h1
    exact h2
/-- A row of bytes is no block of another type. -/
theorem own_typed' {w : World} {base n m c g : Nat} {e t : TypeId} {size : Nat} {A : Option Addr} {xs : List Value} {cs : Array Value} (h : w.ownsRow base e size (.slice A m c) n xs) (hb : Blk w g t cs) (hne : e ≠ t) : A = none ∨ ∃ a, A = some a ∧ a.block ≠ g := by
  rcases h.2 with ⟨h1, _⟩ | ⟨g', cap, cur, h1, _, hh, _⟩
  · injection h1 with h1
    exact .inl h1
  · injection h1 with h1
    refine .inr ⟨_, h1, ?_⟩
    intro h2
    have h2 : g' = g := h2
    subst h2
    unfold Blk at hb
    rw [hb] at hh
    injection hh with hh
    injection hh with _ hh
    exact hne hh.symm

theorem intVal_any (S : Nat → Prop) (neg : Bool) (v : Value) (l : List Int) (hn : l.length ≤ 140737488355328) (w : World) (h : SlV w S .u8 v l) (hS : ∀ k, S k → k < w.heap.size) :
    Calls Tryz.prog 43 #[.agg #[.bool neg, v]] w fun e w' => ∃ mv, e = .returned (.agg #[.int .i64 2, .bool neg, mv, .int .u64 0, .string { data := #[] }, .slice none 0 0]) ∧ SlV w' (Nw w w') .u8 mv l ∧ Below w.heap.size w w' := by
  obtain ⟨A, c, rfl, hlc, hr⟩ := h
  have HR : Hid (∀ W : World, Below w.heap.size w W → Rd W S A (ints .u8 l)) := fun W hW => hr.keep (still_below hW hS)
  have HN := Lib.hid hn
  clear hr hS hn hlc
  go_enter Tryz.func43, Tryz.ntmps43
  go_wp2
  obtain ⟨W, hWe⟩ : ∃ W : World, W = (((w.alloc (.cells #[.bool neg, .slice A l.length c] 32)).alloc (.cells #[.int .i64 0, .bool false, .slice none 0 0, .int .u64 0, .string { data := #[] }, .slice none 0 0] 26)).alloc (.cells #[] 5)).drew := ⟨_, rfl⟩
  have hWb : Below w.heap.size w W := by rw [hWe]; exact ((((Below.refl _ _).alloc (Nat.le_refl _) _).alloc (by simp) _).alloc (by simp; omega) _).drew
  have hWo : W.ownsRow w.heap.size 5 1 (.slice (some ⟨w.heap.size + 1 + 1, 0, none⟩) 0 0) 0 [] := by
    rw [hWe]
    exact own_empty ((w.alloc (.cells #[.bool neg, .slice A l.length c] 32)).alloc (.cells #[.int .i64 0, .bool false, .slice none 0 0, .int .u64 0, .string { data := #[] }, .slice none 0 0] 26)) _ (by simp) _ (by simp; omega) _ _
  have hWr : Blk W (w.heap.size + 1) 26 #[.int .i64 0, .bool false, .slice none 0 0, .int .u64 0, .string { data := #[] }, .slice none 0 0] := by
    rw [hWe]
    have := (Blk.new (w.alloc (.cells #[.bool neg, .slice A l.length c] 32)) 26 #[.int .i64 0, .bool false, .slice none 0 0, .int .u64 0, .string { data := #[] }, .slice none 0 0]).alloc (.cells #[] 5)
    simpa using this.drew
  have hWq : Blk W w.heap.size 32 #[.bool neg, .slice A l.length c] := by
    rw [hWe]
    exact (((Blk.new w 32 #[.bool neg, .slice A l.length c]).alloc _).alloc _).drew
  have HW : Hid (W = _ ∧ Below w.heap.size w W ∧ _ ∧ _ ∧ _) := ⟨hWe, hWb, hWo, hWr, hWq⟩
  clear hWe hWb hWo hWr hWq
  go_region_law (obtain ⟨hWe, hWb, hWo, hWr, hWq⟩ := HW.out; refine step_append_rd _ rfl _ _ 22 rfl w.heap.size 5 (.int .u8 0) 1 1 Tryz.underlying22 info_u8 rfl (by decide) (.slice (some ⟨w.heap.size + 1 + 1, 0, none⟩) 0 0) 0 [] rfl (by rw [← hWe]; exact hWo) S A l.length c (ints .u8 l) rfl (by rw [ints_length, Nat.mul_one]) (by rw [← hWe]; exact HR.out _ hWb) (ints_one _ _) (by have := HN.out; unfold maxLen; omega) (by have := HN.out; omega) (by rw [← hWe]; exact hWb.size) ?_; intro v2 w2 ho hg hrow; rw [← hWe] at hg; rw [Nat.zero_add, List.nil_append] at ho; have hs := own_sl ho; obtain ⟨A2, c2, rfl, hlc2, hr2⟩ := hs; have hb2 : Below w.heap.size w w2 := hWb.grown hg hWb.size (fun k hk => by simp [Value.ownBlock] at hk; omega); have hrow2 : Blk w2 (w.heap.size + 1) 26 _ := hWr.keep (hg.block _ hWr.lt (by simp [Value.ownBlock])); have hne : A2 = none ∨ ∃ a2, A2 = some a2 ∧ a2.block ≠ w.heap.size + 1 := (by have ht := own_typed' ho hrow2 (by decide); exact ht); have hr3 := hr2.but hne; clear hr2 hne; have hrowq : Blk w2 w.heap.size 32 _ := hWq.keep (hg.block _ hWq.lt (by simp [Value.ownBlock]; omega)); have q0 := hrowq.cell 0; simp at q0; clear hWe hWb hWo hWr hWq ho hg hrow; have c0 := hrow2.cell 0; have c1 := hrow2.cell 1; have c2' := hrow2.cell 2; have c3 := hrow2.cell 3; have c4 := hrow2.cell 4; have c5 := hrow2.cell 5; have f0 := hrow2.frozen 0; have f1 := hrow2.frozen 1; have f2 := hrow2.frozen 2; have f3 := hrow2.frozen 3; have f4 := hrow2.frozen 4; have f5 := hrow2.frozen 5; have hlt := hrow2.lt; simp at c0 c1 c2' c3 c4 c5)
  all_goals
    go_wp2
    refine bodyPost_ret (v := .agg #[.int .i64 2, .bool neg, .slice A2 l.length c2, .int .u64 0, .string { data := #[] }, .slice none 0 0]) (by simp [results, Tryz.results43, go_sem, c0, c1, c2', c3, c4, c5]) rfl ⟨_, rfl, ?_, ?_⟩
    · have hS : ∀ k, (w.heap.size ≤ k ∧ k < w2.heap.size) ∧ k ≠ w.heap.size + 1 → k ≠ w.heap.size + 1 := fun k hk => hk.2
      refine sl_done hr3 hlc2 rfl ((((((Still.refl _ _).set hS _).set hS _).set hS _).set hS _).set hS _ |>.set hS _) ?_
      exact fun k hk => ⟨hk.1.1, by simpa using hk.1.2⟩
    · exact (((((hb2.setCell (by simp) _).setCell (by simp) _).setCell (by simp) _).setCell (by simp) _).setCell (by simp) _).setCell (by simp) _
end Go.Proofs.YtloloifngbmibaaGreatDoor
set_option linter.unusedVariables false
set_option maxRecDepth 4000
namespace Go.Proofs.YtloloifngbmibaaGreatDoor
open Go.RowKit

/-- An integer of the reference that is there in a world. -/
def HSp (v : Value) (neg : Bool) (mag : List Int) (W : World) : Prop := ∃ S : Nat → Prop, SpI W S v neg mag ∧ ∀ k, S k → k < W.heap.size
theorem HSp.up {v : Value} {neg : Bool} {mag : List Int} {W W' : World} (hb : Below W.heap.size W W') (h : HSp v neg mag W) : HSp v neg mag W' := by
  obtain ⟨S, h1, h2⟩ := h
  exact ⟨S, h1.keep (still_below hb h2), fun k hk => Nat.lt_of_lt_of_le (h2 k hk) hb.size⟩
theorem cmp_held {v v' : Value} {n1 n2 : Bool} {a b : List Int} {W : World} (hn : a.length ≤ 9223372036854775807) (hn' : b.length ≤ 9223372036854775807) (h : HSp v n1 a W) (h' : HSp v' n2 b W) :
    Calls Tryz.prog 12 #[v, v'] W fun e w' => e = .returned (.int .i64 (cmpI n1 a n2 b)) ∧ Below W.heap.size W w' := by
  obtain ⟨S, h1, h2⟩ := h
  obtain ⟨S', h1', h2'⟩ := h'
  exact cmp_any S S' v v' n1 n2 a b hn hn' W h1 h1' h2 h2'

/-- The cells of two boxed Vals. -/
def Kin2 (w : World) (x0 x1 x2 x3 x4 x5 y0 y1 y2 y3 y4 y5 : Value) (W : World) : Prop :=
  Below w.heap.size w W ∧ W.cell? ⟨w.heap.size, 0, none⟩ = some x0 ∧ W.cell? ⟨w.heap.size, 1, none⟩ = some x1 ∧ W.cell? ⟨w.heap.size, 2, none⟩ = some x2 ∧ W.cell? ⟨w.heap.size, 3, none⟩ = some x3 ∧ W.cell? ⟨w.heap.size, 4, none⟩ = some x4 ∧ W.cell? ⟨w.heap.size, 5, none⟩ = some x5 ∧
    W.cell? ⟨w.heap.size + 1, 0, none⟩ = some y0 ∧ W.cell? ⟨w.heap.size + 1, 1, none⟩ = some y1 ∧ W.cell? ⟨w.heap.size + 1, 2, none⟩ = some y2 ∧ W.cell? ⟨w.heap.size + 1, 3, none⟩ = some y3 ∧ W.cell? ⟨w.heap.size + 1, 4, none⟩ = some y4 ∧ W.cell? ⟨w.heap.size + 1, 5, none⟩ = some y5
theorem Kin2.up {w W W' : World} {x0 x1 x2 x3 x4 x5 y0 y1 y2 y3 y4 y5 : Value} (hb : Below W.heap.size W W') (h : Kin2 w x0 x1 x2 x3 x4 x5 y0 y1 y2 y3 y4 y5 W) : Kin2 w x0 x1 x2 x3 x4 x5 y0 y1 y2 y3 y4 y5 W' := by
  obtain ⟨h0, h1, h2, h3, h4, h5, h6, h7, h8, h9, h10, h11, h12⟩ := h
  exact ⟨below_up h0 hb, cell_up hb h1, cell_up hb h2, cell_up hb h3, cell_up hb h4, cell_up hb h5, cell_up hb h6, cell_up hb h7, cell_up hb h8, cell_up hb h9, cell_up hb h10, cell_up hb h11, cell_up hb h12⟩
theorem Kin2.at_ {w : World} {x0 x1 x2 x3 x4 x5 y0 y1 y2 y3 y4 y5 : Value} {t : TypeId} : Kin2 w x0 x1 x2 x3 x4 x5 y0 y1 y2 y3 y4 y5 (((w.alloc (.cells #[x0, x1, x2, x3, x4, x5] t)).alloc (.cells #[y0, y1, y2, y3, y4, y5] t)).drew) :=
  ⟨(((Below.refl _ _).alloc (Nat.le_refl _) _).alloc (by simp) _).drew, by simp, by simp, by simp, by simp, by simp, by simp, by simp, by simp, by simp, by simp, by simp, by simp⟩

theorem same_int (S S' : Nat → Prop) (neg : Bool) (v v' : Value) (l : List Int) (hn : l.length ≤ 140737488355328) (w : World) (h : SlV w S .u8 v l) (h' : SlV w S' .u8 v' l) (hS : ∀ k, S k → k < w.heap.size) (hS' : ∀ k, S' k → k < w.heap.size) :
    Calls Tryz.prog 14 #[.agg #[.int .i64 2, .bool neg, v, .int .u64 0, .string { data := #[] }, .slice none 0 0], .agg #[.int .i64 2, .bool neg, v', .int .u64 0, .string { data := #[] }, .slice none 0 0]] w fun e w' => e = .returned (.bool true) ∧ Below w.heap.size w w' := by
  have HX : Hid (∀ W : World, Below w.heap.size w W → Calls Tryz.prog 11 #[.agg #[.int .i64 2, .bool neg, v, .int .u64 0, .string { data := #[] }, .slice none 0 0]] W fun e w' => ∃ v', e = .returned v' ∧ HSp v' (sgn2 neg (strip l)) (strip l) w' ∧ Below W.heap.size W w') :=
    fun W hW => (num_any S 2 neg v l 0 _ _ rfl hn W (h.keep (still_below hW hS)) (fun k hk => Nat.lt_of_lt_of_le (hS k hk) hW.size)).mono fun e w' ⟨v', he, hs, hb⟩ => ⟨v', he, ⟨_, hs, fun k hk => hk.2⟩, hb⟩
  have HY : Hid (∀ W : World, Below w.heap.size w W → Calls Tryz.prog 11 #[.agg #[.int .i64 2, .bool neg, v', .int .u64 0, .string { data := #[] }, .slice none 0 0]] W fun e w' => ∃ v', e = .returned v' ∧ HSp v' (sgn2 neg (strip l)) (strip l) w' ∧ Below W.heap.size W w') :=
    fun W hW => (num_any S' 2 neg v' l 0 _ _ rfl hn W (h'.keep (still_below hW hS')) (fun k hk => Nat.lt_of_lt_of_le (hS' k hk) hW.size)).mono fun e w' ⟨v', he, hs, hb⟩ => ⟨v', he, ⟨_, hs, fun k hk => hk.2⟩, hb⟩
  obtain ⟨A, c, rfl, _, _⟩ := h
  obtain ⟨A', c', rfl, _, _⟩ := h'
  have hc0 : cmpI (sgn2 neg (strip l)) (strip l) (sgn2 neg (strip l)) (strip l) = 0 := by
    simp [cmpI, ordL_self]
  have e0 := beq_yes hc0
  have hsl : (strip l).length ≤ 9223372036854775807 := by
    have : (strip l).length ≤ l.length := by simp [strip]
    omega
  have HSL := Lib.hid hsl
  have e1 : (neg == neg) = true := by cases neg <;> rfl
  have h0 : Hid (Kin2 w _ _ _ _ _ _ _ _ _ _ _ _ _) := Kin2.at_ (w := w) (t := 26) (x0 := .int .i64 2) (x1 := .bool neg) (x2 := .slice A l.length c) (x3 := .int .u64 0) (x4 := .string { data := #[] }) (x5 := .slice none 0 0) (y0 := .int .i64 2) (y1 := .bool neg) (y2 := .slice A' l.length c') (y3 := .int .u64 0) (y4 := .string { data := #[] }) (y5 := .slice none 0 0)
  have hstep := Lib.hid (fun W W' hb h => Kin2.up (w := w) (W := W) (W' := W') (x0 := .int .i64 2) (x1 := .bool neg) (x2 := .slice A l.length c) (x3 := .int .u64 0) (x4 := .string { data := #[] }) (x5 := .slice none 0 0) (y0 := .int .i64 2) (y1 := .bool neg) (y2 := .slice A' l.length c') (y3 := .int .u64 0) (y4 := .string { data := #[] }) (y5 := .slice none 0 0) hb h)
  clear hc0 hsl hS hS' hn
  go_enter Tryz.func14, Tryz.ntmps14
  go_wp2
  go_region_held3 (fun W => Below w.heap.size w W ∧ W.cell? ⟨w.heap.size, 0, none⟩ = some (.int .i64 2) ∧ W.cell? ⟨w.heap.size, 1, none⟩ = some (.bool neg) ∧ W.cell? ⟨w.heap.size, 2, none⟩ = some (.slice A l.length c) ∧ W.cell? ⟨w.heap.size, 3, none⟩ = some (.int .u64 0) ∧ W.cell? ⟨w.heap.size, 4, none⟩ = some (.string { data := #[] }) ∧ W.cell? ⟨w.heap.size, 5, none⟩ = some (.slice none 0 0) ∧
      W.cell? ⟨w.heap.size + 1, 0, none⟩ = some (.int .i64 2) ∧ W.cell? ⟨w.heap.size + 1, 1, none⟩ = some (.bool neg) ∧ W.cell? ⟨w.heap.size + 1, 2, none⟩ = some (.slice A' l.length c') ∧ W.cell? ⟨w.heap.size + 1, 3, none⟩ = some (.int .u64 0) ∧ W.cell? ⟨w.heap.size + 1, 4, none⟩ = some (.string { data := #[] }) ∧ W.cell? ⟨w.heap.size + 1, 5, none⟩ = some (.slice none 0 0))
    (first | exact h0.out | exact hstep.out _ _ ‹Below _ _ _› h0.out | exact hstep.out _ _ ‹Below _ _ _› (by assumption))
    (first
      | (go_at_call 11; (with_reducible refine (HX.out _ ?_).mono ?_); (first | exact h0.out.1 | exact (‹Below w.heap.size w _ ∧ _›).1); rintro e w' ⟨v1, rfl, hv, hb⟩)
      | (go_at_call 11; (with_reducible refine (HY.out _ ?_).mono ?_); (first | exact h0.out.1 | exact (‹Below w.heap.size w _ ∧ _›).1); rintro e w' ⟨v1, rfl, hv, hb⟩)
      | (go_at_call 12; refine (cmp_held (n1 := sgn2 neg (strip l)) (n2 := sgn2 neg (strip l)) (a := strip l) (b := strip l) HSL.out HSL.out (HSp.up ‹Below _ _ _› ‹HSp _ _ _ _›) ‹HSp _ _ _ _›).mono ?_; rintro e w' ⟨rfl, hb⟩))
  obtain ⟨hB, _⟩ := ‹Below w.heap.size w _ ∧ _›
  clear h0 hstep HX HY
  go_wp2
  go_ret
  exact ⟨rfl, hB⟩
end Go.Proofs.YtloloifngbmibaaGreatDoor
