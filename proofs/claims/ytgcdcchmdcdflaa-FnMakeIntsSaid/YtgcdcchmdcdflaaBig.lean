/- Walks of package bigall's Int: what NewInt, SetUint64, Set, Sign, Bytes make. -/
import Derived.Test.YtgcdcchmdcdflaaNat
set_option linter.unusedVariables false
namespace Go.Proofs.Ytgcdcchmdcdflaa
open Go.RowKit

theorem newInt_zero (w : World) :
    Calls Try.prog 26 #[.int .i64 0] w fun e w' => e = .returned (.pointer (some ⟨w.heap.size, 0, none⟩)) ∧ w.alloc (.cells #[.bool false, .slice none 0 0] 63) = w' := by
  go_enter Try.func26, Try.ntmps26
  go_wp2
  go_ret
  exact ⟨rfl, rfl⟩

theorem newInt_pos (x : Int) (h0 : 0 < x) (h1 : x ≤ 9223372036854775807) (w : World) :
    Calls Try.prog 26 #[.int .i64 x] w fun e w' => e = .returned (.pointer (some ⟨w.heap.size + 1, 0, none⟩)) ∧ (w.alloc (.cells #[.int .u64 x] 71)).alloc (.cells #[.bool false, .slice (some ⟨w.heap.size, 0, none⟩) 1 1] 63) = w' := by
  have hx0 := beq_no (show ¬ x = 0 by omega)
  have hx1 := dec_no (show ¬ x < 0 by omega)
  go_enter Try.func26, Try.ntmps26
  go_wp2
  go_ret
  exact ⟨rfl, rfl⟩
theorem wrap_neg (x : Int) (h0 : x < 0) (h1 : -9223372036854775808 ≤ x) : IntKind.u64.wrap (-IntKind.u64.wrap x) = -x := by
  simp only [IntKind.wrap_u64]
  omega

theorem newInt_neg (x : Int) (h0 : x < 0) (h1 : -9223372036854775808 ≤ x) (w : World) :
    Calls Try.prog 26 #[.int .i64 x] w fun e w' => e = .returned (.pointer (some ⟨w.heap.size + 1, 0, none⟩)) ∧ (w.alloc (.cells #[.int .u64 (-x)] 71)).alloc (.cells #[.bool true, .slice (some ⟨w.heap.size, 0, none⟩) 1 1] 63) = w' := by
  have hx0 := beq_no (show ¬ x = 0 by omega)
  have hx1 := dec_yes h0
  have hw := Lib.hid (wrap_neg x h0 h1)
  go_enter Try.func26, Try.ntmps26
  go_wp2
  go_ret
  exact ⟨rfl, by rw [hw.out]⟩

/-- The magnitude of a number of 64 bits. -/
def absW (x : Int) : List Int := if x = 0 then [] else [(x.natAbs : Int)]

/-- A big integer in memory: its sign, its magnitude's words. -/
def BigV (w : World) (S : Nat → Prop) (b o : Nat) (neg : Bool) (xs : List Int) : Prop :=
  ∃ v, S b ∧ w.cell? ⟨b, o, none⟩ = some (.bool neg) ∧ w.cell? ⟨b, o + 1, none⟩ = some v ∧ SlV w S .u64 v xs
theorem BigV.keep {w w' : World} {S : Nat → Prop} {b o : Nat} {neg : Bool} {xs : List Int} (h : BigV w S b o neg xs) (hk : Still S w w') : BigV w' S b o neg xs := by
  obtain ⟨v, h0, h1, h2, h3⟩ := h
  exact ⟨v, h0, (World.cell?_of_block (a := ⟨b, o, none⟩) (hk b h0)).trans h1, (World.cell?_of_block (a := ⟨b, o + 1, none⟩) (hk b h0)).trans h2, h3.keep hk⟩
theorem BigV.mono {w : World} {S S' : Nat → Prop} {b o : Nat} {neg : Bool} {xs : List Int} (h : BigV w S b o neg xs) (hs : ∀ k, S k → S' k) : BigV w S' b o neg xs := by
  obtain ⟨v, h0, h1, h2, h3⟩ := h
  exact ⟨v, hs _ h0, h1, h2, h3.mono hs⟩
theorem BigV.of_blk {w : World} {S : Nat → Prop} {g : Nat} {t : TypeId} {neg : Bool} {v : Value} {xs : List Int} (h : Blk w g t #[.bool neg, v]) (hS : S g) (hv : SlV w S .u64 v xs) : BigV w S g 0 neg xs :=
  ⟨v, hS, by rw [h.cell]; rfl, by rw [h.cell]; rfl, hv⟩

/-- A new Int, whose magnitude is nil or one new block. -/
def NewBig (w : World) (b : Nat) (neg : Bool) (xs : List Int) (w' : World) : Prop :=
  Below w.heap.size w w' ∧ w.heap.size ≤ b ∧ ∃ v, Blk w' b 63 #[.bool neg, v] ∧
    ((xs = [] ∧ v = .slice none 0 0) ∨ ∃ (g : Nat) (zs : List Int), w.heap.size ≤ g ∧ g ≠ b ∧ v = .slice (some ⟨g, 0, none⟩) xs.length (xs ++ zs).length ∧ Blk w' g 71 (ints .u64 (xs ++ zs)).toArray)
theorem NewBig.big {w w' : World} {b : Nat} {neg : Bool} {xs : List Int} (h : NewBig w b neg xs w') : BigV w' (Nw w w') b 0 neg xs := by
  obtain ⟨hb, h2, v, hv, h3⟩ := h
  refine BigV.of_blk hv ⟨h2, hv.lt⟩ ?_
  rcases h3 with ⟨rfl, rfl⟩ | ⟨g, zs, h4, h5, rfl, h6⟩
  · exact SlV.nil _ _ _
  · exact ⟨_, _, rfl, by simp, Rd.of_blk (by rw [← ints_append]; exact h6) ⟨h4, h6.lt⟩⟩

theorem newInt_any (x : Int) (h0 : -9223372036854775808 ≤ x) (h1 : x ≤ 9223372036854775807) (w : World) :
    Calls Try.prog 26 #[.int .i64 x] w fun e w' => ∃ b, e = .returned (.pointer (some ⟨b, 0, none⟩)) ∧ NewBig w b (decide (x < 0)) (absW x) w' := by
  by_cases hz : x = 0
  · subst hz
    exact (newInt_zero w).mono fun e w' ⟨he, hw⟩ => ⟨_, he, by rw [← hw]; exact (Below.refl _ _).alloc (Nat.le_refl _) _, Nat.le_refl _, _, by rw [← hw]; exact Blk.new _ _ _, .inl ⟨by simp [absW], rfl⟩⟩
  · have key : ∀ w', (w.alloc (.cells #[.int .u64 (x.natAbs : Int)] 71)).alloc (.cells #[.bool (decide (x < 0)), .slice (some ⟨w.heap.size, 0, none⟩) 1 1] 63) = w' → NewBig w (w.heap.size + 1) (decide (x < 0)) (absW x) w' := by
      intro w' hw
      refine ⟨by rw [← hw]; exact ((Below.refl _ _).alloc (Nat.le_refl _) _).alloc (by simp) _, by omega, .slice (some ⟨w.heap.size, 0, none⟩) 1 1, ?_, .inr ⟨w.heap.size, [], Nat.le_refl _, by omega, by simp [absW, hz], ?_⟩⟩
      · rw [← hw]
        have := Blk.new (w.alloc (.cells #[.int .u64 (x.natAbs : Int)] 71)) 63 #[.bool (decide (x < 0)), .slice (some ⟨w.heap.size, 0, none⟩) 1 1]
        simpa using this
      · rw [← hw]
        have := (Blk.new w 71 #[.int .u64 (x.natAbs : Int)]).alloc (.cells #[.bool (decide (x < 0)), .slice (some ⟨w.heap.size, 0, none⟩) 1 1] 63)
        simpa [absW, hz, ints] using this
    rcases Int.lt_or_gt_of_ne hz with hlt | hgt
    · refine (newInt_neg x hlt h0 w).mono fun e w' ⟨he, hw⟩ => ⟨_, he, key w' ?_⟩
      rw [← hw, show (x.natAbs : Int) = -x by omega, dec_yes hlt]
    · refine (newInt_pos x hgt h1 w).mono fun e w' ⟨he, hw⟩ => ⟨_, he, key w' ?_⟩
      rw [← hw, show (x.natAbs : Int) = x by omega, dec_no (show ¬ x < 0 by omega)]

theorem setU_zero (w : World) (b o : Nat) (u0 : Value) (c0 : w.cell? ⟨b, o, none⟩ = some u0) (c1 : w.cell? ⟨b, o + 1, none⟩ = some (.slice none 0 0)) (f0 : w.frozen? ⟨b, o, none⟩ = false) (f1 : w.frozen? ⟨b, o + 1, none⟩ = false) :
    Calls Try.prog 27 #[.pointer (some ⟨b, o, none⟩), .int .u64 0] w fun e w' => e = .returned (.pointer (some ⟨b, o, none⟩)) ∧ (w.setCell ⟨b, o + 1, none⟩ (.slice none 0 0)).setCell ⟨b, o, none⟩ (.bool false) = w' := by
  go_enter Try.func27, Try.ntmps27
  go_wp2_with (go_at_call 34; refine (setUint64_nil0 _).mono ?_; rintro e w' ⟨rfl, rfl⟩)
  go_ret
  exact ⟨rfl, rfl⟩

theorem setU_pos (x : Int) (hx : ¬ x = 0) (h0 : 0 ≤ x) (h1 : x ≤ 18446744073709551615) (w : World) (b o : Nat) (hb : b < w.heap.size) (u0 : Value) (c0 : w.cell? ⟨b, o, none⟩ = some u0) (c1 : w.cell? ⟨b, o + 1, none⟩ = some (.slice none 0 0)) (f0 : w.frozen? ⟨b, o, none⟩ = false) (f1 : w.frozen? ⟨b, o + 1, none⟩ = false) :
    Calls Try.prog 27 #[.pointer (some ⟨b, o, none⟩), .int .u64 x] w fun e w' => e = .returned (.pointer (some ⟨b, o, none⟩)) ∧
      ((w.setCell ⟨b, o + 1, none⟩ (.slice (some ⟨w.heap.size, 0, none⟩) 1 1)).setCell ⟨b, o, none⟩ (.bool false)).alloc (.cells #[.int .u64 x] 71) = w' := by
  have hx' := Lib.hid hx
  clear hx
  go_enter Try.func27, Try.ntmps27
  go_wp2_with (go_at_call 34; refine (setUint64_nil1 x hx'.out h0 h1 _).mono ?_; rintro e w' ⟨rfl, rfl⟩)
  go_ret
  exact ⟨rfl, rfl⟩

theorem big_set0 (w : World) (b b1 o1 : Nat) (neg : Bool) (hb : Blk w b 63 #[.bool false, .slice none 0 0]) (A : Option Addr) (c : Nat) (t1 : TypeId) (cs1 : Array Value) (hb1 : Blk w b1 t1 cs1) (hne : b ≠ b1)
    (x0 : w.cell? ⟨b1, o1, none⟩ = some (.bool neg)) (x1 : w.cell? ⟨b1, o1 + 1, none⟩ = some (.slice A 0 c)) :
    Calls Try.prog 32 #[.pointer (some ⟨b, 0, none⟩), .pointer (some ⟨b1, o1, none⟩)] w fun e w' => e = .returned (.pointer (some ⟨b, 0, none⟩)) ∧ Alk w' ((w.setCell ⟨b, 1, none⟩ (.slice none 0 0)).setCell ⟨b, 0, none⟩ (.bool neg)) := by
  have c0 := hb.cell 0
  have c1 := hb.cell 1
  have f0 := hb.frozen 0
  have f1 := hb.frozen 1
  simp at c0 c1
  have hn1 := neq_ptr_far (n := 1) w Try.underlying38 (by kernel_rfl) (by intro h; injection h; exact hne ‹_›) hb (a := ⟨b, 0, none⟩) (b := ⟨b1, o1, none⟩) hb1
  go_enter Try.func32, Try.ntmps32
  go_wp2
  go_region_with (go_at_call 36; refine (set_nil0 _ _ _).mono ?_; rintro e w' ⟨rfl, rfl⟩)
  all_goals
    clear hn1
    go_wp2
    go_ret
    exact ⟨rfl, rfl, rfl, rfl, rfl⟩

theorem big_setn (w : World) (S : Nat → Prop) (b b1 o1 : Nat) (neg : Bool) (xs : List Int) (h0 : 0 < xs.length) (h1 : xs.length ≤ 4294967296) (hb : Blk w b 63 #[.bool false, .slice none 0 0]) (A : Option Addr) (c : Nat) (t1 : TypeId) (cs1 : Array Value) (hb1 : Blk w b1 t1 cs1) (hne : b ≠ b1)
    (x0 : w.cell? ⟨b1, o1, none⟩ = some (.bool neg)) (x1 : w.cell? ⟨b1, o1 + 1, none⟩ = some (.slice A xs.length c)) (hr : Rd w S A (ints .u64 xs)) :
    Calls Try.prog 32 #[.pointer (some ⟨b, 0, none⟩), .pointer (some ⟨b1, o1, none⟩)] w fun e w' => e = .returned (.pointer (some ⟨b, 0, none⟩)) ∧
      ∃ zs : List Int, Alk w' (((w.setCell ⟨b, 1, none⟩ (.slice (some ⟨w.heap.size, 0, none⟩) xs.length (xs.length + zs.length))).setCell ⟨b, 0, none⟩ (.bool neg)).alloc (.cells (ints .u64 (xs ++ zs)).toArray 71)) := by
  have hlt := hb.lt
  have hlt1 := hb1.lt
  have c0 := hb.cell 0
  have c1 := hb.cell 1
  have f0 := hb.frozen 0
  have f1 := hb.frozen 1
  simp at c0 c1
  have hn1 := neq_ptr_far (n := 1) w Try.underlying38 (by kernel_rfl) (by intro h; injection h; exact hne ‹_›) hb (a := ⟨b, 0, none⟩) (b := ⟨b1, o1, none⟩) hb1
  have hr' : Hid (∀ W : World, W.heap = w.heap → Rd W S A (ints .u64 xs)) := fun W hW => hr.keep (fun k _ => by rw [hW])
  have H0 := Lib.hid h0
  have H1 := Lib.hid h1
  clear hr h0 h1
  go_enter Try.func32, Try.ntmps32
  go_wp2
  go_region_with (go_at_call 36; refine (set_nil S A c xs H0.out H1.out _ (by exact hr'.out _ rfl)).mono ?_; rintro e w' ⟨v, rfl, zs, rfl, rfl⟩)
  all_goals
    clear hn1
    go_wp2
    go_ret
    exact ⟨rfl, zs, rfl, rfl, rfl, rfl⟩
/-- 'new(big.Int).Set(x)', behind the new. -/
theorem big_set_new (w : World) (S : Nat → Prop) (b1 o1 : Nat) (neg : Bool) (xs : List Int) (h1 : xs.length ≤ 4294967296) (hlt : b1 < w.heap.size) (t1 : TypeId) (cs1 : Array Value) (hb1 : Blk w b1 t1 cs1) (hx : BigV w S b1 o1 neg xs) :
    Calls Try.prog 32 #[.pointer (some ⟨w.heap.size, 0, none⟩), .pointer (some ⟨b1, o1, none⟩)] (w.alloc (.cells #[.bool false, .slice none 0 0] 63)) fun e w' => ∃ b, e = .returned (.pointer (some ⟨b, 0, none⟩)) ∧ NewBig w b neg xs w' := by
  obtain ⟨v, _, x0, x1, A, c, rfl, hlc, hr⟩ := hx
  have hx0 := (World.cell?_alloc_lt w (.cells #[.bool false, .slice none 0 0] 63) ⟨b1, o1, none⟩ hlt).trans x0
  have hx1 := (World.cell?_alloc_lt w (.cells #[.bool false, .slice none 0 0] 63) ⟨b1, o1 + 1, none⟩ hlt).trans x1
  have hbn := Blk.new w 63 #[.bool false, .slice none 0 0]
  by_cases hn : xs = []
  · subst hn
    refine (big_set0 _ w.heap.size b1 o1 neg hbn A c t1 cs1 (hb1.alloc _) (by omega) hx0 hx1).mono fun e w' ⟨he, hw⟩ => ⟨_, he, ?_, Nat.le_refl _, _, hw.blk ((hbn.set 1 _).set 0 _), .inl ⟨rfl, rfl⟩⟩
    exact hw.below ((((Below.refl _ _).alloc (Nat.le_refl _) _).setCell (Nat.le_refl _) _).setCell (Nat.le_refl _) _)
  · have h0 : 0 < xs.length := List.length_pos_iff.2 hn
    refine (big_setn _ (fun k => k < w.heap.size) w.heap.size b1 o1 neg xs h0 h1 hbn A c t1 cs1 (hb1.alloc _) (by omega) hx0 hx1 ?_).mono ?_
    · intro hp
      obtain ⟨b, o, e, hb, hc⟩ := hr hp
      have hbl : b < w.heap.size := World.block_lt_of_cell? w ⟨b, o + 0, none⟩ (hc 0 _ (List.getElem?_eq_getElem hp))
      exact ⟨b, o, e, hbl, fun j u hu => (World.cell?_alloc_lt w _ ⟨b, o + j, none⟩ hbl).trans (hc j u hu)⟩
    · rintro e w' ⟨he, zs, hw⟩
      have hbe : Below w.heap.size w w' := hw.below (((((Below.refl _ _).alloc (Nat.le_refl _) _).setCell (Nat.le_refl _) _).setCell (Nat.le_refl _) _).alloc (by simp) _)
      refine ⟨_, he, hbe, Nat.le_refl _, _, hw.blk (((hbn.set 1 _).set 0 _).alloc _), .inr ⟨w.heap.size + 1, zs, by omega, by omega, ?_, ?_⟩⟩
      · simp
      · refine hw.blk ?_
        have := Blk.new (((w.alloc (.cells #[.bool false, .slice none 0 0] 63)).setCell ⟨w.heap.size, 1, none⟩ (.slice (some ⟨(w.alloc (.cells #[.bool false, .slice none 0 0] 63)).heap.size, 0, none⟩) xs.length (xs.length + zs.length))).setCell ⟨w.heap.size, 0, none⟩ (.bool neg)) 71 (ints .u64 (xs ++ zs)).toArray
        simpa using this
end Go.Proofs.Ytgcdcchmdcdflaa
