/- Walks of package bigall's Int: what NewInt, SetUint64, Set, Sign, Bytes make. Walks: Sign, Bytes, get, BigInt, MakeInt .. MakeUint64, impl.number. Walks of mulAddWW and mul into nothing. -/
import Derived.Test.YtloloifngbmibaaGreatDoorM05
import Derived.Test.YtloloifngbmibaaGreatDoorM02
import Derived.Deep.QuietTactic
import Derived.BigQuiet
set_option linter.unusedVariables false
set_option maxRecDepth 4000
namespace Go.Proofs.YtloloifngbmibaaGreatDoor
open Go.RowKit

theorem newInt_zero (w : World) :
    Calls Tryz.prog 96 #[.int .i64 0] w fun e w' => e = .returned (.pointer (some ⟨w.heap.size, 0, none⟩)) ∧ w.alloc (.cells #[.bool false, .slice none 0 0] 189) = w' := by
  go_enter Tryz.func96, Tryz.ntmps96
  go_wp2
  go_ret
  exact ⟨rfl, rfl⟩

theorem newInt_pos (x : Int) (h0 : 0 < x) (h1 : x ≤ 9223372036854775807) (w : World) :
    Calls Tryz.prog 96 #[.int .i64 x] w fun e w' => e = .returned (.pointer (some ⟨w.heap.size + 1, 0, none⟩)) ∧ (w.alloc (.cells #[.int .u64 x] 236)).alloc (.cells #[.bool false, .slice (some ⟨w.heap.size, 0, none⟩) 1 1] 189) = w' := by
  have hx0 := beq_no (show ¬ x = 0 by omega)
  have hx1 := dec_no (show ¬ x < 0 by omega)
  go_enter Tryz.func96, Tryz.ntmps96
  go_wp2
  go_ret
  exact ⟨rfl, rfl⟩
theorem wrap_neg (x : Int) (h0 : x < 0) (h1 : -9223372036854775808 ≤ x) : IntKind.u64.wrap (-IntKind.u64.wrap x) = -x := by
  simp only [IntKind.wrap_u64]
  omega

theorem newInt_neg (x : Int) (h0 : x < 0) (h1 : -9223372036854775808 ≤ x) (w : World) :
    Calls Tryz.prog 96 #[.int .i64 x] w fun e w' => e = .returned (.pointer (some ⟨w.heap.size + 1, 0, none⟩)) ∧ (w.alloc (.cells #[.int .u64 (-x)] 236)).alloc (.cells #[.bool true, .slice (some ⟨w.heap.size, 0, none⟩) 1 1] 189) = w' := by
  have hx0 := beq_no (show ¬ x = 0 by omega)
  have hx1 := dec_yes h0
  have hw := Lib.hid (wrap_neg x h0 h1)
  go_enter Tryz.func96, Tryz.ntmps96
  go_wp2
  go_ret
  exact ⟨rfl, by rw [hw.out]⟩

/-- The magnitude of a number of 64 bits. -/
def absW (x : Int) : List Int := if x = 0 then [] else [(x.natAbs : Int)]

/-- A big integer in memory: its sign, its magnitude's words. -/
def BigV (w : World) (S : Nat → Prop) (b o : Nat) (neg : Bool) (xs : List Int) : Prop :=
  ∃ v, S b ∧ w.cell? ⟨b, o, none⟩ = some (.bool neg) ∧ w.cell? ⟨b, o + 1, none⟩ = some v ∧ SlV w S .u64 v xs
theorem BigV.keep {w w' : World} {S : Nat → Prop} {b o : Nat} {neg : Bool} {xs : List Int} (h : BigV w S b o neg xs) (hk : Still S w w') : BigV w' S b o neg xs := by
  obtain ⟨v, h0, h1, h2, h3⟩ := h
  exact ⟨v, h0, (World.cell?_of_block (a := ⟨b, o, none⟩) (hk b h0)).trans h1, (World.cell?_of_block (a := ⟨b, o + 1, none⟩) (hk b h0)).trans h2, h3.keep hk⟩
theorem BigV.mono {w : World} {S S' : Nat → Prop} {b o : Nat} {neg : Bool} {xs : List Int} (h : BigV w S b o neg xs) (hs : ∀ k, S k → S' k) : BigV w S' b o neg xs := by
  obtain ⟨v, h0, h1, h2, h3⟩ := h
  exact ⟨v, hs _ h0, h1, h2, h3.mono hs⟩
theorem BigV.of_blk {w : World} {S : Nat → Prop} {g : Nat} {t : TypeId} {neg : Bool} {v : Value} {xs : List Int} (h : Blk w g t #[.bool neg, v]) (hS : S g) (hv : SlV w S .u64 v xs) : BigV w S g 0 neg xs :=
  ⟨v, hS, by rw [h.cell]; rfl, by rw [h.cell]; rfl, hv⟩

/-- A new Int, whose magnitude is nil or one new block. -/
def NewBig (w : World) (b : Nat) (neg : Bool) (xs : List Int) (w' : World) : Prop :=
  Below w.heap.size w w' ∧ w.heap.size ≤ b ∧ ∃ v, Blk w' b 189 #[.bool neg, v] ∧
    ((xs = [] ∧ v = .slice none 0 0) ∨ ∃ (g : Nat) (zs : List Int), w.heap.size ≤ g ∧ g ≠ b ∧ v = .slice (some ⟨g, 0, none⟩) xs.length (xs ++ zs).length ∧ Blk w' g 236 (ints .u64 (xs ++ zs)).toArray)
theorem NewBig.big {w w' : World} {b : Nat} {neg : Bool} {xs : List Int} (h : NewBig w b neg xs w') : BigV w' (Nw w w') b 0 neg xs := by
  obtain ⟨hb, h2, v, hv, h3⟩ := h
  refine BigV.of_blk hv ⟨h2, hv.lt⟩ ?_
  rcases h3 with ⟨rfl, rfl⟩ | ⟨g, zs, h4, h5, rfl, h6⟩
  · exact SlV.nil _ _ _
  · exact ⟨_, _, rfl, by simp, Rd.of_blk (by rw [← ints_append]; exact h6) ⟨h4, h6.lt⟩⟩

theorem newInt_any (x : Int) (h0 : -9223372036854775808 ≤ x) (h1 : x ≤ 9223372036854775807) (w : World) :
    Calls Tryz.prog 96 #[.int .i64 x] w fun e w' => ∃ b, e = .returned (.pointer (some ⟨b, 0, none⟩)) ∧ NewBig w b (decide (x < 0)) (absW x) w' := by
  by_cases hz : x = 0
  · subst hz
    exact (newInt_zero w).mono fun e w' ⟨he, hw⟩ => ⟨_, he, by rw [← hw]; exact (Below.refl _ _).alloc (Nat.le_refl _) _, Nat.le_refl _, _, by rw [← hw]; exact Blk.new _ _ _, .inl ⟨by simp [absW], rfl⟩⟩
  · have key : ∀ w', (w.alloc (.cells #[.int .u64 (x.natAbs : Int)] 236)).alloc (.cells #[.bool (decide (x < 0)), .slice (some ⟨w.heap.size, 0, none⟩) 1 1] 189) = w' → NewBig w (w.heap.size + 1) (decide (x < 0)) (absW x) w' := by
      intro w' hw
      refine ⟨by rw [← hw]; exact ((Below.refl _ _).alloc (Nat.le_refl _) _).alloc (by simp) _, by omega, .slice (some ⟨w.heap.size, 0, none⟩) 1 1, ?_, .inr ⟨w.heap.size, [], Nat.le_refl _, by omega, by simp [absW, hz], ?_⟩⟩
      · rw [← hw]
        have := Blk.new (w.alloc (.cells #[.int .u64 (x.natAbs : Int)] 236)) 189 #[.bool (decide (x < 0)), .slice (some ⟨w.heap.size, 0, none⟩) 1 1]
        simpa using this
      · rw [← hw]
        have := (Blk.new w 236 #[.int .u64 (x.natAbs : Int)]).alloc (.cells #[.bool (decide (x < 0)), .slice (some ⟨w.heap.size, 0, none⟩) 1 1] 189)
        simpa [absW, hz, ints] using this
    rcases Int.lt_or_gt_of_ne hz with hlt | hgt
    · refine (newInt_neg x hlt h0 w).mono fun e w' ⟨he, hw⟩ => ⟨_, he, key w' ?_⟩
      rw [← hw, show (x.natAbs : Int) = -x by omega, dec_yes hlt]
    · refine (newInt_pos x hgt h1 w).mono fun e w' ⟨he, hw⟩ => ⟨_, he, key w' ?_⟩
      rw [← hw, show (x.natAbs : Int) = x by omega, dec_no (show ¬ x < 0 by omega)]

theorem setU_zero (w : World) (b o : Nat) (u0 : Value) (c0 : w.cell? ⟨b, o, none⟩ = some u0) (c1 : w.cell? ⟨b, o + 1, none⟩ = some (.slice none 0 0)) (f0 : w.frozen? ⟨b, o, none⟩ = false) (f1 : w.frozen? ⟨b, o + 1, none⟩ = false) :
    Calls Tryz.prog 97 #[.pointer (some ⟨b, o, none⟩), .int .u64 0] w fun e w' => e = .returned (.pointer (some ⟨b, o, none⟩)) ∧ (w.setCell ⟨b, o + 1, none⟩ (.slice none 0 0)).setCell ⟨b, o, none⟩ (.bool false) = w' := by
  go_enter Tryz.func97, Tryz.ntmps97
  go_wp2_with (go_at_call 116; refine (setUint64_nil0 _).mono ?_; rintro e w' ⟨rfl, rfl⟩)
  go_ret
  exact ⟨rfl, rfl⟩

theorem setU_pos (x : Int) (hx : ¬ x = 0) (h0 : 0 ≤ x) (h1 : x ≤ 18446744073709551615) (w : World) (b o : Nat) (hb : b < w.heap.size) (u0 : Value) (c0 : w.cell? ⟨b, o, none⟩ = some u0) (c1 : w.cell? ⟨b, o + 1, none⟩ = some (.slice none 0 0)) (f0 : w.frozen? ⟨b, o, none⟩ = false) (f1 : w.frozen? ⟨b, o + 1, none⟩ = false) :
    Calls Tryz.prog 97 #[.pointer (some ⟨b, o, none⟩), .int .u64 x] w fun e w' => e = .returned (.pointer (some ⟨b, o, none⟩)) ∧
      ((w.setCell ⟨b, o + 1, none⟩ (.slice (some ⟨w.heap.size, 0, none⟩) 1 1)).setCell ⟨b, o, none⟩ (.bool false)).alloc (.cells #[.int .u64 x] 236) = w' := by
  have hx' := Lib.hid hx
  clear hx
  go_enter Tryz.func97, Tryz.ntmps97
  go_wp2_with (go_at_call 116; refine (setUint64_nil1 x hx'.out h0 h1 _).mono ?_; rintro e w' ⟨rfl, rfl⟩)
  go_ret
  exact ⟨rfl, rfl⟩

theorem big_set0 (w : World) (b b1 o1 : Nat) (neg : Bool) (hb : Blk w b 189 #[.bool false, .slice none 0 0]) (A : Option Addr) (c : Nat) (t1 : TypeId) (cs1 : Array Value) (hb1 : Blk w b1 t1 cs1) (hne : b ≠ b1)
    (x0 : w.cell? ⟨b1, o1, none⟩ = some (.bool neg)) (x1 : w.cell? ⟨b1, o1 + 1, none⟩ = some (.slice A 0 c)) :
    Calls Tryz.prog 114 #[.pointer (some ⟨b, 0, none⟩), .pointer (some ⟨b1, o1, none⟩)] w fun e w' => e = .returned (.pointer (some ⟨b, 0, none⟩)) ∧ Alk w' ((w.setCell ⟨b, 1, none⟩ (.slice none 0 0)).setCell ⟨b, 0, none⟩ (.bool neg)) := by
  have c0 := hb.cell 0
  have c1 := hb.cell 1
  have f0 := hb.frozen 0
  have f1 := hb.frozen 1
  simp at c0 c1
  have hn1 := neq_ptr_far (n := 1) w Tryz.underlying113 (by kernel_rfl) (by intro h; injection h; exact hne ‹_›) hb (a := ⟨b, 0, none⟩) (b := ⟨b1, o1, none⟩) hb1
  go_enter Tryz.func114, Tryz.ntmps114
  go_wp2
  go_region_with (go_at_call 132; refine (set_nil0 _ _ _).mono ?_; rintro e w' ⟨rfl, rfl⟩)
  all_goals
    clear hn1
    go_wp2
    go_ret
    exact ⟨rfl, rfl, rfl, rfl, rfl⟩

theorem big_setn (w : World) (S : Nat → Prop) (b b1 o1 : Nat) (neg : Bool) (xs : List Int) (h0 : 0 < xs.length) (h1 : xs.length ≤ 4294967296) (hb : Blk w b 189 #[.bool false, .slice none 0 0]) (A : Option Addr) (c : Nat) (t1 : TypeId) (cs1 : Array Value) (hb1 : Blk w b1 t1 cs1) (hne : b ≠ b1)
    (x0 : w.cell? ⟨b1, o1, none⟩ = some (.bool neg)) (x1 : w.cell? ⟨b1, o1 + 1, none⟩ = some (.slice A xs.length c)) (hr : Rd w S A (ints .u64 xs)) :
    Calls Tryz.prog 114 #[.pointer (some ⟨b, 0, none⟩), .pointer (some ⟨b1, o1, none⟩)] w fun e w' => e = .returned (.pointer (some ⟨b, 0, none⟩)) ∧
      ∃ zs : List Int, Alk w' (((w.setCell ⟨b, 1, none⟩ (.slice (some ⟨w.heap.size, 0, none⟩) xs.length (xs.length + zs.length))).setCell ⟨b, 0, none⟩ (.bool neg)).alloc (.cells (ints .u64 (xs ++ zs)).toArray 236)) := by
  have hlt := hb.lt
  have hlt1 := hb1.lt
  have c0 := hb.cell 0
  have c1 := hb.cell 1
  have f0 := hb.frozen 0
  have f1 := hb.frozen 1
  simp at c0 c1
  have hn1 := neq_ptr_far (n := 1) w Tryz.underlying113 (by kernel_rfl) (by intro h; injection h; exact hne ‹_›) hb (a := ⟨b, 0, none⟩) (b := ⟨b1, o1, none⟩) hb1
  have hr' : Hid (∀ W : World, W.heap = w.heap → Rd W S A (ints .u64 xs)) := fun W hW => hr.keep (fun k _ => by rw [hW])
  have H0 := Lib.hid h0
  have H1 := Lib.hid h1
  clear hr h0 h1
  go_enter Tryz.func114, Tryz.ntmps114
  go_wp2
  go_region_with (go_at_call 132; refine (set_nil S A c xs H0.out H1.out _ (by exact hr'.out _ rfl)).mono ?_; rintro e w' ⟨v, rfl, zs, rfl, rfl⟩)
  all_goals
    clear hn1
    go_wp2
    go_ret
    exact ⟨rfl, zs, rfl, rfl, rfl, rfl⟩
/-- 'new(big.Int).Set(x)', behind the new. -/
theorem big_set_new (w : World) (S : Nat → Prop) (b1 o1 : Nat) (neg : Bool) (xs : List Int) (h1 : xs.length ≤ 4294967296) (hlt : b1 < w.heap.size) (t1 : TypeId) (cs1 : Array Value) (hb1 : Blk w b1 t1 cs1) (hx : BigV w S b1 o1 neg xs) :
    Calls Tryz.prog 114 #[.pointer (some ⟨w.heap.size, 0, none⟩), .pointer (some ⟨b1, o1, none⟩)] (w.alloc (.cells #[.bool false, .slice none 0 0] 189)) fun e w' => ∃ b, e = .returned (.pointer (some ⟨b, 0, none⟩)) ∧ NewBig w b neg xs w' := by
  obtain ⟨v, _, x0, x1, A, c, rfl, hlc, hr⟩ := hx
  have hx0 := (World.cell?_alloc_lt w (.cells #[.bool false, .slice none 0 0] 189) ⟨b1, o1, none⟩ hlt).trans x0
  have hx1 := (World.cell?_alloc_lt w (.cells #[.bool false, .slice none 0 0] 189) ⟨b1, o1 + 1, none⟩ hlt).trans x1
  have hbn := Blk.new w 189 #[.bool false, .slice none 0 0]
  by_cases hn : xs = []
  · subst hn
    refine (big_set0 _ w.heap.size b1 o1 neg hbn A c t1 cs1 (hb1.alloc _) (by omega) hx0 hx1).mono fun e w' ⟨he, hw⟩ => ⟨_, he, ?_, Nat.le_refl _, _, hw.blk ((hbn.set 1 _).set 0 _), .inl ⟨rfl, rfl⟩⟩
    exact hw.below ((((Below.refl _ _).alloc (Nat.le_refl _) _).setCell (Nat.le_refl _) _).setCell (Nat.le_refl _) _)
  · have h0 : 0 < xs.length := List.length_pos_iff.2 hn
    refine (big_setn _ (fun k => k < w.heap.size) w.heap.size b1 o1 neg xs h0 h1 hbn A c t1 cs1 (hb1.alloc _) (by omega) hx0 hx1 ?_).mono ?_
    · intro hp
      obtain ⟨b, o, e, hb, hc⟩ := hr hp
      have hbl : b < w.heap.size := World.block_lt_of_cell? w ⟨b, o + 0, none⟩ (hc 0 _ (List.getElem?_eq_getElem hp))
      exact ⟨b, o, e, hbl, fun j u hu => (World.cell?_alloc_lt w _ ⟨b, o + j, none⟩ hbl).trans (hc j u hu)⟩
    · rintro e w' ⟨he, zs, hw⟩
      have hbe : Below w.heap.size w w' := hw.below (((((Below.refl _ _).alloc (Nat.le_refl _) _).setCell (Nat.le_refl _) _).setCell (Nat.le_refl _) _).alloc (by simp) _)
      refine ⟨_, he, hbe, Nat.le_refl _, _, hw.blk (((hbn.set 1 _).set 0 _).alloc _), .inr ⟨w.heap.size + 1, zs, by omega, by omega, ?_, ?_⟩⟩
      · simp
      · refine hw.blk ?_
        have := Blk.new (((w.alloc (.cells #[.bool false, .slice none 0 0] 189)).setCell ⟨w.heap.size, 1, none⟩ (.slice (some ⟨(w.alloc (.cells #[.bool false, .slice none 0 0] 189)).heap.size, 0, none⟩) xs.length (xs.length + zs.length))).setCell ⟨w.heap.size, 0, none⟩ (.bool neg)) 236 (ints .u64 (xs ++ zs)).toArray
        simpa using this
end Go.Proofs.YtloloifngbmibaaGreatDoor
set_option linter.unusedVariables false
set_option maxRecDepth 4000
namespace Go.Proofs.YtloloifngbmibaaGreatDoor
open Go.RowKit

/-- The sign of a big integer. -/
def sgB (neg : Bool) (xs : List Int) : Int := if xs.length = 0 then 0 else if neg then -1 else 1

theorem sign_any (w : World) (S : Nat → Prop) (b o : Nat) (neg : Bool) (xs : List Int) (h : BigV w S b o neg xs) :
    Calls Tryz.prog 92 #[.pointer (some ⟨b, o, none⟩)] w fun e w' => e = .returned (.int .i64 (sgB neg xs)) ∧ w = w' := by
  obtain ⟨v, _, x0, x1, A, c, rfl, hlc, hr⟩ := h
  by_cases hn : xs.length = 0
  · have hn1 : ((xs.length : Int) == 0) = true := by simp [hn]
    have hs : sgB neg xs = 0 := by simp [sgB, hn]
    rw [hs]
    clear hr hn hs
    go_enter Tryz.func92, Tryz.ntmps92
    go_wp2
    go_ret
    exact ⟨rfl, rfl⟩
  · have hn1 : ((xs.length : Int) == 0) = false := by simp; intro h; exact hn (by simp [h])
    cases neg with
    | true =>
      have hs : sgB true xs = -1 := by simp only [sgB, hn, if_false, if_true]
      rw [hs]
      clear hr hn hs
      go_enter Tryz.func92, Tryz.ntmps92
      go_wp2
      go_ret
      exact ⟨rfl, rfl⟩
    | false =>
      have hs : sgB false xs = 1 := by simp [sgB, hn]
      rw [hs]
      clear hr hn hs
      go_enter Tryz.func92, Tryz.ntmps92
      go_wp2
      go_ret
      exact ⟨rfl, rfl⟩

theorem info_byte : (Tryz.prog.info? 5).map (fun i => (i.zero, i.size, i.bytes)) = some (some (.int .u8 0), 1, 1) := by kernel_rfl

theorem slV_from {w : World} {S : Nat → Prop} {g z N : Nat} {t : TypeId} {l : List Int} (hb : Blk w g t (ints .u8 l).toArray) (hl : l.length = N) (hS : S g) :
    SlV w S .u8 (.slice (some ⟨g, z, none⟩) (N - z) (N - z)) (l.drop z) := by
  refine ⟨some ⟨g, z, none⟩, N - z, by rw [List.length_drop, hl], by rw [List.length_drop, hl]; exact Nat.le_refl _, ?_⟩
  rw [ints_drop]
  exact Rd.of_blk_from hb hS

theorem bigBytes_any (w : World) (S : Nat → Prop) (b o : Nat) (neg : Bool) (xs : List Int) (hn : xs.length ≤ 268435456) (hx : ∀ x ∈ xs, 0 ≤ x ∧ x < 18446744073709551616) (h : BigV w S b o neg xs) (hS : ∀ k, S k → k < w.heap.size) :
    Calls Tryz.prog 93 #[.pointer (some ⟨b, o, none⟩)] w fun e w' => ∃ v, e = .returned v ∧ SlV w' (Nw w w') .u8 v ((beB xs).drop (lz (beB xs))) ∧ Below w.heap.size w w' := by
  obtain ⟨v, hSb, x0, x1, A, c, rfl, hlc, hr⟩ := h
  obtain ⟨n, hn'⟩ : ∃ n, n = xs.length := ⟨_, rfl⟩
  rw [← hn'] at x1 hn
  have HR := Lib.hid hr
  have HX := Lib.hid hx
  have HS := Lib.hid hS
  have HN := Lib.hid hn'
  have hbl := hS b hSb
  clear hr hx hS hn' hlc
  obtain ⟨i0, hi, hz0, hz1, hz2⟩ := info_parts info_byte
  have hmk : ∀ w : World, (Instr.makeSlice 22 (.int .i64 ((n : Int) * 8)) (.int .i64 ((n : Int) * 8))).run Tryz.prog w = .ok (.slice (some ⟨w.heap.size, 0, none⟩) (8 * n) (8 * n)) (w.alloc (.cells (madeCells #[.int .u8 0] (8 * n)) 5)) := fun w => by
    have h := run_make (P := Tryz.prog) w 22 5 i0 (.int .u8 0) Tryz.underlying22 hi hz0 .i64 .i64 ((n : Int) * 8) ((n : Int) * 8) (by omega) (by omega) (by rw [hz2]; omega) (by omega)
    rw [hz1] at h
    have e : ((n : Int) * 8).toNat = 8 * n := by omega
    simpa [e, Value.cells] using h
  have hnew : ∀ w : World, Blk (w.alloc (.cells (madeCells #[.int .u8 0] (8 * n)) 5)) w.heap.size 5 (ints .u8 (List.replicate (8 * n) 0)).toArray := fun w => by
    have := Blk.new w 5 (madeCells #[.int .u8 0] (8 * n))
    rw [madeCells_one] at this ⊢
    simpa [ints] using this
  have hlz := lz_le (beB xs)
  rw [beB_len, ← HN.out] at hlz
  have HB : Hid (Calls Tryz.prog 115 #[.slice A n c, .slice (some ⟨w.heap.size, 0, none⟩) (8 * n) (8 * n)] (w.alloc (.cells (madeCells #[.int .u8 0] (8 * n)) 5)) fun e w' =>
      e = .returned (.int .i64 (lz (beB xs))) ∧ Blk w' w.heap.size 5 (ints .u8 (beB xs)).toArray ∧ (w.alloc (.cells (madeCells #[.int .u8 0] (8 * n)) 5)).grownBy w' (some w.heap.size)) := by
    have h := bytes_any S A c w.heap.size xs (List.replicate (8 * n) 0) (by rw [← HN.out]; exact hn) HX.out (w.alloc (.cells (madeCells #[.int .u8 0] (8 * n)) 5)) (HR.out.keep (fun k hk => Below.heap_alloc w _ k (HS.out k hk))) (fun k hk => Nat.ne_of_lt (HS.out k hk)) (by simp [HN.out]) (hnew w)
    rw [← HN.out] at h
    exact h
  clear hnew
  obtain ⟨z, hz⟩ : ∃ z, z = lz (beB xs) := ⟨_, rfl⟩
  rw [← hz] at hlz HB
  have HZ := Lib.hid hz
  clear hz
  go_enter Tryz.func93, Tryz.ntmps93
  go_wp2_with (go_at_call 115; refine HB.out.mono ?_; rintro e w' ⟨rfl, hb, hg⟩)
  all_goals
    have hl : (beB xs).length = 8 * n := by rw [beB_len, HN.out]
    have hbe : Below w.heap.size w w' := ((Below.refl _ _).alloc (Nat.le_refl _) _).grown hg (by simp) (fun k hk => by injection hk with hk; omega)
    have hfin := slV_from (S := Nw w w') (z := z) hb hl ⟨Nat.le_refl _, hb.lt⟩
    rw [HZ.out] at hfin
  · go_ret
    refine ⟨_, rfl, ?_, hbe⟩
    have e : (beB xs).drop (lz (beB xs)) = [] := List.drop_eq_nil_of_le (by rw [hl, ← HZ.out]; omega)
    rw [e]
    exact ⟨_, _, rfl, Nat.le_refl _, Rd.nil _ _ _⟩
  · go_ret
    rw [← HZ.out] at hfin ⊢
    exact ⟨_, rfl, hfin, hbe⟩
theorem get_any (s p : Value) (h1 : s.oneCell' = true) (h2 : p.oneCell' = true) (w : World) :
    Calls Tryz.prog 111 #[.agg #[s, p]] w fun e w' => e = .returned (.tuple #[s, p]) ∧ ∃ n, (w.alloc (.cells #[s, p] 117)).drewN n = w' := by
  go_enter Tryz.func111, Tryz.ntmps111
  go_wp2
  go_quiet (fail)
  go_wp2
  go_ret2
  exact ⟨rfl, _, rfl⟩

theorem NewBig.late {w W w' : World} {b : Nat} {neg : Bool} {xs : List Int} (h : NewBig W b neg xs w') (hb : Below w.heap.size w W) : NewBig w b neg xs w' := by
  obtain ⟨h1, h2, v, h3, h4⟩ := h
  refine ⟨below_up hb h1, Nat.le_trans hb.size h2, v, h3, ?_⟩
  rcases h4 with h4 | ⟨g, zs, h5, h6⟩
  · exact .inl h4
  · exact .inr ⟨g, zs, Nat.le_trans hb.size h5, h6⟩

theorem bigInt_small (s : Int) (h0 : -9223372036854775808 ≤ s) (h1 : s ≤ 9223372036854775807) (w : World) :
    Calls Tryz.prog 91 #[.agg #[.int .i64 s, .pointer none]] w fun e w' => ∃ b, e = .returned (.pointer (some ⟨b, 0, none⟩)) ∧ NewBig w b (decide (s < 0)) (absW s) w' := by
  go_enter Tryz.func91, Tryz.ntmps91
  go_wp2_with (first | (go_at_call 111; refine (get_any _ _ rfl rfl _).mono ?_; rintro e w' ⟨rfl, m, rfl⟩) | (go_at_call 96; refine (newInt_any s h0 h1 _).mono ?_; rintro e w' ⟨b, rfl, hb⟩))
  go_ret
  exact ⟨b, rfl, hb.late (below_drewN' (((Below.refl _ _).alloc (Nat.le_refl _) _).alloc (by simp) _) _)⟩

theorem bigInt_big (w : World) (S : Nat → Prop) (b : Nat) (neg : Bool) (xs : List Int) (h1 : xs.length ≤ 4294967296) (t1 : TypeId) (cs1 : Array Value) (hb1 : Blk w b t1 cs1) (hx : BigV w S b 0 neg xs) (hS : ∀ k, S k → k < w.heap.size) :
    Calls Tryz.prog 91 #[.agg #[.int .i64 0, .pointer (some ⟨b, 0, none⟩)]] w fun e w' => ∃ b, e = .returned (.pointer (some ⟨b, 0, none⟩)) ∧ NewBig w b neg xs w' := by
  have hlt := hb1.lt
  have HC : Hid (∀ (W : World) (g : Nat), Below w.heap.size w W → g = W.heap.size → Calls Tryz.prog 114 #[.pointer (some ⟨g, 0, none⟩), .pointer (some ⟨b, 0, none⟩)] (W.alloc (.cells #[.bool false, .slice none 0 0] 189)) fun e w' => ∃ b, e = .returned (.pointer (some ⟨b, 0, none⟩)) ∧ NewBig W b neg xs w') := fun W g hW hg => by
    subst hg
    exact big_set_new W S b 0 neg xs h1 (Nat.lt_of_lt_of_le hlt hW.size) t1 cs1 (hb1.below hW hlt) (hx.keep (still_below hW hS))
  have hne : ∀ W : World, (binOp .neq 113 (.pointer (some ⟨b, 0, none⟩)) (.pointer none)).run Tryz.prog W = .ok (.bool true) W := fun _ => by kernel_rfl
  clear hx hS hb1
  go_enter Tryz.func91, Tryz.ntmps91
  go_wp2_with (first | (go_at_call 111; refine (get_any _ _ rfl rfl _).mono ?_; rintro e w' ⟨rfl, m, rfl⟩))
  refine (HC.out _ _ (below_drewN' (((Below.refl _ _).alloc (Nat.le_refl _) _).alloc (by simp) _) _) (by simp)).mono ?_
  rintro e w' ⟨g, rfl, hb⟩
  have hb' := hb.late (below_drewN' (((Below.refl _ _).alloc (Nat.le_refl _) _).alloc (by simp) _) _)
  clear HC hb
  go_wp2
  go_ret
  exact ⟨g, rfl, hb'⟩
/-- What BigInt makes of a value, in each world in which the blocks of S stand as they do here. -/
def BigOf (w : World) (S : Nat → Prop) (s : Int) (a : Option Addr) (neg : Bool) (xs : List Int) : Prop :=
  ∀ W : World, Still S w W → Calls Tryz.prog 91 #[.agg #[.int .i64 s, .pointer a]] W fun e w' => ∃ b, e = .returned (.pointer (some ⟨b, 0, none⟩)) ∧ NewBig W b neg xs w'
theorem BigOf.small (S : Nat → Prop) (s : Int) (h0 : -9223372036854775808 ≤ s) (h1 : s ≤ 9223372036854775807) (w : World) : BigOf w S s none (decide (s < 0)) (absW s) :=
  fun W _ => bigInt_small s h0 h1 W
theorem BigOf.big (w : World) (S : Nat → Prop) (b : Nat) (neg : Bool) (xs : List Int) (h1 : xs.length ≤ 4294967296) (t1 : TypeId) (cs1 : Array Value) (hb1 : Blk w b t1 cs1) (hx : BigV w S b 0 neg xs) (hS : ∀ k, S k → k < w.heap.size) : BigOf w S 0 (some ⟨b, 0, none⟩) neg xs :=
  fun W hW => by
    obtain ⟨v, hSb, _⟩ := id hx
    exact bigInt_big W S b neg xs h1 t1 cs1 (hb1.keep (hW b hSb)) (hx.keep hW) (fun k hk => by
      have h := hW k hk
      rw [Array.getElem?_eq_getElem (hS k hk)] at h
      exact (Array.getElem?_eq_some_iff.1 h).1)
theorem BigOf.keep {w W : World} {S : Nat → Prop} {s : Int} {a : Option Addr} {neg : Bool} {xs : List Int} (h : BigOf w S s a neg xs) (hk : Still S w W) : BigOf W S s a neg xs := fun W' h' => h W' (hk.trans h')
theorem BigOf.mono {w : World} {S S' : Nat → Prop} {s : Int} {a : Option Addr} {neg : Bool} {xs : List Int} (h : BigOf w S s a neg xs) (hs : ∀ k, S k → S' k) : BigOf w S' s a neg xs := fun W' h' => h W' (h'.mono hs)

/-- A Val of the kind Int. -/
def ValI (w : World) (S : Nat → Prop) (v : Value) (neg : Bool) (mag : List Int) : Prop :=
  ∃ mv, v = .agg #[.int .i64 2, .bool neg, mv, .int .u64 0, .string { data := #[] }, .slice none 0 0] ∧ SlV w S .u8 mv mag

theorem number_any (w : World) (S : Nat → Prop) (s : Int) (a : Option Addr) (neg : Bool) (xs : List Int) (hn : xs.length ≤ 268435456) (hx : ∀ x ∈ xs, 0 ≤ x ∧ x < 18446744073709551616) (h : BigOf w S s a neg xs) (hS : ∀ k, S k → k < w.heap.size) :
    Calls Tryz.prog 60 #[.agg #[.int .i64 s, .pointer a]] w fun e w' => ∃ v, e = .returned v ∧ ValI w' (Nw w w') v (decide (sgB neg xs < 0)) ((beB xs).drop (lz (beB xs))) ∧ Below w.heap.size w w' := by
  have HX := Lib.hid hx
  have HN := Lib.hid hn
  have HB := Lib.hid (show ∀ W : World, Below w.heap.size w W → Calls Tryz.prog 91 #[.agg #[.int .i64 s, .pointer a]] W fun e w' => ∃ b, e = .returned (.pointer (some ⟨b, 0, none⟩)) ∧ NewBig W b neg xs w' from fun W hW => h W (still_below hW hS))
  clear hx hn h hS
  go_enter Tryz.func60, Tryz.ntmps60
  go_wp2_with fail
  refine (HB.out _ (((Below.refl _ _).alloc (Nat.le_refl _) _).alloc (by simp) _)).mono ?_
  rintro e w1 ⟨b, rfl, hb⟩
  have hb1 := hb.1
  have hrow := (Blk.new (w.alloc (.cells #[.int .i64 s, .pointer a] 117)) 26 #[.int .i64 0, .bool false, .slice none 0 0, .int .u64 0, .string { data := #[] }, .slice none 0 0]).below hb1 (by simp)
  rw [show (w.alloc (.cells #[.int .i64 s, .pointer a] 117)).heap.size = w.heap.size + 1 by simp] at hrow
  have hw1 : Below w.heap.size w w1 := below_up (((Below.refl _ _).alloc (Nat.le_refl _) _).alloc (by simp) _) hb1
  have hbig := hb.big
  clear HB hb hb1
  go_wp2_with fail
  refine (sign_any _ _ _ _ _ _ hbig).mono ?_
  rintro e w2 ⟨rfl, rfl⟩
  go_wp2_with fail
  refine (bigBytes_any _ _ _ _ _ _ HN.out HX.out hbig (fun k hk => hk.2)).mono ?_
  rintro e w2 ⟨mv, rfl, hv, hb2⟩
  have hrow2 := hrow.below hb2 hrow.lt
  have hw2 : Below w.heap.size w w2 := below_up hw1 hb2
  obtain ⟨A, c, rfl, hlc, hAc⟩ := hv
  have hg1 : w.heap.size + 1 < w1.heap.size := hrow.lt
  clear hrow hbig hb2
  have c0 := hrow2.cell 0
  have c1 := hrow2.cell 1
  have c2 := hrow2.cell 2
  have c3 := hrow2.cell 3
  have c4 := hrow2.cell 4
  have c5 := hrow2.cell 5
  have f0 := hrow2.frozen 0
  have f1 := hrow2.frozen 1
  have f2 := hrow2.frozen 2
  have f3 := hrow2.frozen 3
  have f4 := hrow2.frozen 4
  have f5 := hrow2.frozen 5
  simp at c0 c1 c2 c3 c4 c5
  go_wp2
  refine bodyPost_ret (v := .agg #[.int .i64 2, .bool (decide (sgB neg xs < 0)), .slice A ((beB xs).length - lz (beB xs)) c, .int .u64 0, .string { data := #[] }, .slice none 0 0]) (by simp [results, Tryz.results60, go_sem, c0, c1, c2, c3, c4, c5]) rfl ⟨_, rfl, ?_, ?_⟩
  · have hS : ∀ k, Nw w1 w2 k → k ≠ w.heap.size + 1 := fun k hk => by have := hk.1; omega
    refine ⟨_, rfl, sl_done hAc hlc (List.length_drop ..).symm ((((((Still.refl _ _).set hS _).set hS _).set hS _).set hS _).set hS _ |>.set hS _) ?_⟩
    exact fun k hk => ⟨Nat.le_trans hw1.size hk.1, by simpa using hk.2⟩
  · exact (((((hw2.setCell (by simp) _).setCell (by simp) _).setCell (by simp) _).setCell (by simp) _).setCell (by simp) _).setCell (by simp) _
end Go.Proofs.YtloloifngbmibaaGreatDoor
set_option linter.unusedVariables false
set_option maxRecDepth 4000
namespace Go.Proofs.YtloloifngbmibaaGreatDoor
open Go.RowKit

/-- A new magnitude. -/
def NewN (w : World) (v : Value) (ps : List Int) (w' : World) : Prop := SlV w' (Nw w w') .u64 v ps ∧ Below w.heap.size w w' ∧ WL ps ∧ Nrm ps
theorem NewN.nil (w : World) : NewN w (.slice none 0 0) [] w := ⟨SlV.nil _ _ _, Below.refl _ _, WL.nil, trivial⟩
theorem NewN.late {w W w' : World} {v : Value} {ps : List Int} (h : NewN W v ps w') (hb : Below w.heap.size w W) : NewN w v ps w' :=
  ⟨h.1.mono (fun k hk => nw_late hb hk), below_up hb h.2.1, h.2.2⟩
theorem WB.sl {W : World} {S : Nat → Prop} {g c : Nat} {P zs : List Int} (h : WB W g (P ++ zs)) (hS : S g) (hc : P.length ≤ c) : SlV W S .u64 (.slice (some ⟨g, 0, none⟩) (nrm P).length c) (nrm P) := by
  refine ⟨_, c, rfl, Nat.le_trans (nrm_le P) hc, ?_⟩
  have h1 : (P ++ zs).drop 0 = nrm P ++ (P.drop (nrm P).length ++ zs) := by
    rw [List.drop_zero, ← List.append_assoc]
    congr 1
    have := List.take_append_drop (nrm P).length P
    rw [← nrm_pre] at this
    exact this.symm
  exact (h.rd h1).mono (fun k hk => by rw [hk]; exact hS)
theorem NewN.of {w w' : World} {o : Obj} {c : Nat} {P zs : List Int} (h : WB w' w.heap.size (P ++ zs)) (hg : (w.alloc o).grownBy w' (some w.heap.size)) (hc : P.length ≤ c) (hP : WL P) : NewN w (.slice (some ⟨w.heap.size, 0, none⟩) (nrm P).length c) (nrm P) w' := by
  refine ⟨h.sl ⟨Nat.le_refl _, h.lt⟩ hc, ?_, hP.nrm, nrm_nrm P⟩
  exact ((Below.refl _ _).alloc (Nat.le_refl _) _).grown hg (by simp) (fun k hk => by injection hk with hk; omega)
theorem WB.made (w : World) (n : Nat) : WB (w.alloc (.cells (madeCells #[.int .u64 0] n) 236)) w.heap.size (List.replicate n 0) := by
  have := Blk.new w 236 (madeCells #[.int .u64 0] n)
  rw [madeCells_one] at this
  unfold WB
  rw [madeCells_one]
  simpa [ints] using this

theorem mulAddWW_nil (S : Nat → Prop) (A : Option Addr) (c : Nat) (y : Int) (xs : List Int) (hy : 0 ≤ y ∧ y < 18446744073709551616) (hn : xs.length ≤ 1000000) (hX : WL xs) (w : World) (hr : Rd w S A (ints .u64 xs)) (hS : ∀ k, S k → k < w.heap.size) :
    Calls Tryz.prog 171 #[.slice none 0 0, .slice A xs.length c, .int .u64 y, .int .u64 0] w fun e w' => ∃ v ps, e = .returned v ∧ NewN w v ps w' ∧ nv ps = nv xs * y := by
  by_cases h0 : xs.length = 0
  · have : xs = [] := List.eq_nil_of_length_eq_zero h0
    subst this
    clear hr hS hX
    go_enter Tryz.func171, Tryz.ntmps171
    go_wp2_with (go_at_call 133; refine (setWord_nil0 _).mono ?_; rintro e w' ⟨rfl, rfl⟩)
    go_ret
    exact ⟨_, [], rfl, NewN.nil _, by simp [nv]⟩
  · obtain ⟨m, hm'⟩ : ∃ m, m = xs.length := ⟨_, rfl⟩
    rw [← hm'] at hn h0 ⊢
    have e0 : ((m : Int) == 0) = false := beq_no (by omega)
    have HM := Lib.hid hm'
    have HX := Lib.hid hX
    have HR := Lib.hid hr
    have HS := Lib.hid hS
    clear hr hS hX hm'
    by_cases hy0 : y = 0
    · subst hy0
      clear h0
      go_enter Tryz.func171, Tryz.ntmps171
      go_wp2_with (go_at_call 133; refine (setWord_nil0 _).mono ?_; rintro e w' ⟨rfl, rfl⟩)
      go_ret
      exact ⟨_, [], rfl, NewN.nil _, by simp [nv]⟩
    · have e1 := beq_no hy0
      have HY := Lib.hid hy
      have HMK := Lib.hid (make_niln (m + 1) (by omega) (by omega) w)
      have HC : Hid (Calls Tryz.prog 183 #[.slice (some ⟨w.heap.size, 0, none⟩) m (m + 1 + 4), .slice A m c, .int .u64 y, .int .u64 0] (w.alloc (.cells (madeCells #[.int .u64 0] (m + 1 + 4)) 236)) fun e w' =>
          ∃ (o : List Int) (cy : Int), e = .returned (.int .u64 cy) ∧ Hid (o.length = m) ∧ Hid (WL o) ∧ Hid (0 ≤ cy ∧ cy < 18446744073709551616) ∧ Hid (nv o + 18446744073709551616 ^ m * cy = nv xs * y) ∧ Hid (WB w' w.heap.size (o ++ 0 :: List.replicate 4 0)) ∧ Hid ((w.alloc (.cells (madeCells #[.int .u64 0] (m + 1 + 4)) 236)).grownBy w' (some w.heap.size)) ∧ w'.cell? ⟨w.heap.size, m, none⟩ = some (.int .u64 0) ∧ w'.frozen? ⟨w.heap.size, m, none⟩ = false) := Lib.hid (by
        have hal := HR.out.keep (still_below (below_al (Below.refl w.heap.size w) (.cells (madeCells #[.int .u64 0] (m + 1 + 4)) 236)) HS.out)
        have h := mulAddVWW_top S A w.heap.size c (m + 1 + 4) y 0 xs (List.replicate (m + 1 + 4) 0) HY.out ⟨by omega, by omega⟩ (by rw [← HM.out]; omega) HX.out (by rw [List.length_replicate, ← HM.out]; omega) (w.alloc (.cells (madeCells #[.int .u64 0] (m + 1 + 4)) 236)) hal (fun k hk => by have := HS.out k hk; omega) (WB.made w _)
        rw [← HM.out] at h
        refine h.mono ?_
        rintro e w' ⟨o, cy, h1, h2, h3, h4, h5, h6, h7⟩
        rw [List.drop_replicate, show m + 1 + 4 - m = 4 + 1 by omega, List.replicate_succ] at h6
        refine ⟨o, cy, h1, Lib.hid h2, Lib.hid h3, Lib.hid h4, Lib.hid (by rw [h5]; omega), Lib.hid h6, Lib.hid h7, ?_, Blk.frozen h6 _⟩
        rw [h6.cell (by rw [List.length_append, h2]; simp), List.getElem?_append_right (by omega), h2]
        simp)
      have em : ((m + 1 : Nat) : Int) = (m : Int) + 1 := by omega
      rw [em] at HMK
      have b0 : m ≤ m + 1 + 4 := by omega
      clear h0 hy0 em
      go_enter Tryz.func171, Tryz.ntmps171
      go_wp2_with fail
      refine HMK.out.mono ?_
      rintro e w1 ⟨rfl, rfl⟩
      go_wp2_with fail
      refine HC.out.mono ?_
      rintro e w1 ⟨o, cy, rfl, h1, h2, h3, h4, h5, h6, c0, f0⟩
      have hB : WB (w1.setCell ⟨w.heap.size, m, none⟩ (.int .u64 cy)) w.heap.size (o ++ [cy] ++ List.replicate 4 0) := by
        have h := h5.out.set m cy
        have e := set_mid [] o (List.replicate 4 0) 0 cy m (by simp [h1.out])
        simp only [List.nil_append] at e
        rw [e] at h
        exact h
      have hlen : (o ++ [cy]).length = m + 1 := by simp [h1.out]
      have HNO := norm_any (fun k => k = w.heap.size) (some ⟨w.heap.size, 0, none⟩) (m + 1 + 4) (o ++ [cy]) (by omega) (by omega) (w1.setCell ⟨w.heap.size, m, none⟩ (.int .u64 cy)) (hB.rd (zs := List.replicate 4 0) (by simp))
      rw [hlen] at HNO
      have HNH := Lib.hid HNO
      have HB := Lib.hid hB
      have HL := Lib.hid hlen
      have hgl := h5.out.lt
      have b1 : m < m + 1 := by omega
      clear hB hlen HNO
      go_wp2_with fail
      refine HNH.out.mono ?_
      rintro e w2 ⟨rfl, rfl⟩
      go_wp2
      go_ret
      refine ⟨_, nrm (o ++ [cy]), rfl, NewN.of HB.out (only_set h6.out _ _) (by rw [HL.out]; omega) (h2.out.app (WL.one h3.out.1 h3.out.2)), ?_⟩
      rw [nv_nrm, nv_snoc, h1.out]
      exact h4.out

/-- mul into nothing, of a longer one by a shorter one. -/
theorem mul_ge (S S' : Nat → Prop) (A A' : Option Addr) (c c' : Nat) (stk : Value) (hstk : stk.oneCell' = true) (xs ys : List Int) (hn : xs.length ≤ 1000000) (hle : ys.length ≤ xs.length) (hk : ys.length < 40) (hX : WL xs) (hY : WL ys) (w : World) (hr : Rd w S A (ints .u64 xs)) (hr' : Rd w S' A' (ints .u64 ys)) (hS : ∀ k, S k → k < w.heap.size) (hS' : ∀ k, S' k → k < w.heap.size) (hG : w.cell? ⟨2, 0, none⟩ = some (.int .i64 40)) :
    Calls Tryz.prog 167 #[.slice none 0 0, stk, .slice A xs.length c, .slice A' ys.length c'] w fun e w' => ∃ v ps, e = .returned v ∧ NewN w v ps w' ∧ nv ps = nv xs * nv ys := by
  obtain ⟨m, hm'⟩ : ∃ m, m = xs.length := ⟨_, rfl⟩
  obtain ⟨n, hn'⟩ : ∃ n, n = ys.length := ⟨_, rfl⟩
  rw [← hm'] at hn hle ⊢
  rw [← hn'] at hle hk ⊢
  have HM := Lib.hid hm'
  have HN := Lib.hid hn'
  have HX := Lib.hid hX
  have HY := Lib.hid hY
  have HR := Lib.hid hr
  have HR' := Lib.hid hr'
  have HS := Lib.hid hS
  have HS' := Lib.hid hS'
  have e0 := dec_no (show ¬ (m : Int) < (n : Int) by omega)
  clear hr hS hX hm' hr' hS' hY hn'
  by_cases h0 : n = 0
  · subst h0
    have HG := Lib.hid hG
    have hys : Hid (ys = []) := Lib.hid (List.eq_nil_of_length_eq_zero HN.out.symm)
    clear hG hle
    by_cases hm0 : m = 0
    · have e1 : ((m : Int) == 0) = true := by simp [hm0]
      go_enter Tryz.func167, Tryz.ntmps167
      go_wp2
      go_ret
      exact ⟨_, [], rfl, NewN.nil _, by rw [hys.out]; simp [nv]⟩
    · have e1 : ((m : Int) == 0) = false := beq_no (by omega)
      clear hm0
      go_enter Tryz.func167, Tryz.ntmps167
      go_wp2
      go_ret
      exact ⟨_, [], rfl, NewN.nil _, by rw [hys.out]; simp [nv]⟩
  · by_cases h1 : n = 1
    · subst h1
      obtain ⟨b, ofs, hA, hSb, hc⟩ := rd_int HR'.out (j := 0) (by rw [← HN.out]; omega)
      cases hA
      obtain ⟨y, hy⟩ : ∃ y, y = ys[0]?.getD 0 := ⟨_, rfl⟩
      have hyb := HY.out.at_ 0
      rw [← hy] at hc hyb
      have hyv : nv ys = y := by
        rw [hy]
        match ys, HN.out with
        | [z], _ => simp [nv]
      have HYV := Lib.hid hyv
      have HMW := Lib.hid (mulAddWW_nil S A c y xs hyb (by rw [← HM.out]; omega) HX.out w HR.out HS.out)
      rw [← HM.out] at HMW
      have e1 : ((m : Int) == 0) = false := beq_no (by omega)
      have e5 := dec_no (show ¬ (m : Int) < 1 by omega)
      have HG := Lib.hid hG
      simp only [Nat.add_zero] at hc
      clear hG hle hy hyb hyv h0
      go_enter Tryz.func167, Tryz.ntmps167
      go_wp2_with fail
      refine HMW.out.mono ?_
      rintro e w1 ⟨v, ps, rfl, hv, hp⟩
      have HV := Lib.hid hv
      have HP := Lib.hid hp
      obtain ⟨A1, c1, rfl, _⟩ := hv.1
      clear hv hp
      go_wp2
      go_ret
      exact ⟨_, ps, rfl, HV.out, by rw [HP.out, HYV.out]⟩
    · have e1 : ((m : Int) == 0) = false := beq_no (by omega)
      have e2 : ((n : Int) == 0) = false := beq_no (by omega)
      have e3 : ((n : Int) == 1) = false := beq_no (by omega)
      have HMK := Lib.hid (make_niln (m + n) (by omega) (by omega))
      have em : ((m + n : Nat) : Int) = (m : Int) + (n : Int) := by omega
      rw [em] at HMK
      clear em
      go_enter Tryz.func167, Tryz.ntmps167
      go_wp2_with (go_at_call 172; refine (alias_nil _ _ _ _).mono ?_; rintro e w' ⟨rfl, q, rfl⟩)
      generalize hW : w.drewN _ = W0
      have HB0 : Hid (Below w.heap.size w W0) := Lib.hid (by rw [← hW]; exact below_drewN' (Below.refl _ _) _)
      have hsz : W0.heap.size = w.heap.size := by rw [← hW]; rfl
      clear hW
      have hgl := World.block_lt_of_cell? w _ hG
      have hg0 : W0.cell? ⟨2, 0, none⟩ = some (.int .i64 40) := (HB0.out.cell hgl).trans hG
      have hg1 := (World.cell?_alloc_lt W0 (.cells (madeCells #[.int .u64 0] (m + n + 4)) 236) ⟨2, 0, none⟩ (by rw [hsz]; exact hgl)).trans hg0
      have hal := below_al (Below.refl W0.heap.size W0) (.cells (madeCells #[.int .u64 0] (m + n + 4)) 236)
      have hSa : ∀ k, S k → k < W0.heap.size := fun k hk => by rw [hsz]; exact HS.out k hk
      have hSb : ∀ k, S' k → k < W0.heap.size := fun k hk => by rw [hsz]; exact HS'.out k hk
      have hr1 := (HR.out.keep (still_below HB0.out HS.out)).keep (still_below hal hSa)
      have hr2 := (HR'.out.keep (still_below HB0.out HS'.out)).keep (still_below hal hSb)
      have HBM := basicMul_any S S' A A' W0.heap.size c c' (m + n + 4) xs ys (List.replicate (m + n) 0) (List.replicate 4 0) (by rw [← HM.out]; exact hn) (by rw [← HN.out]; omega) HX.out HY.out (by rw [← HM.out]; omega) (by simp [HM.out, HN.out]) (by simp) (W0.alloc (.cells (madeCells #[.int .u64 0] (m + n + 4)) 236)) hr1 hr2 (fun k hk => by have := hSa k hk; omega) (fun k hk => by have := hSb k hk; omega) (fun k hk => by have := hSa k hk; simp; omega) (by rw [List.replicate_append_replicate]; exact WB.made W0 (m + n + 4))
      rw [List.length_replicate, ← HM.out, ← HN.out] at HBM
      have HBH := Lib.hid HBM
      have e4 := dec_yes (show (n : Int) < 40 by omega)
      have HSZ := Lib.hid hsz
      clear hr1 hr2 hSa hSb hal hg0 hgl hG HBM hsz
      refine (HMK.out _).mono ?_
      rintro e w1 ⟨rfl, rfl⟩
      go_wp2_with fail
      refine HBH.out.mono ?_
      rintro e w2 ⟨rfl, o, hol, how, hnv, hwb, hgr⟩
      have HNO := norm_any (fun k => k = W0.heap.size) (some ⟨W0.heap.size, 0, none⟩) (m + n + 4) o (by omega) (by omega) w2 (hwb.rd (zs := List.replicate 4 0) (by simp))
      rw [hol] at HNO
      have HNH := Lib.hid HNO
      have HOL := Lib.hid hol
      have HOW := Lib.hid how
      have HNV := Lib.hid hnv
      have HWB := Lib.hid hwb
      have HGR := Lib.hid hgr
      clear hol how hnv hwb hgr HNO
      go_wp2_with fail
      refine HNH.out.mono ?_
      rintro e w2 ⟨rfl, rfl⟩
      go_wp2
      go_ret
      refine ⟨_, nrm o, rfl, (NewN.of HWB.out HGR.out (by rw [HOL.out]; omega) HOW.out).late HB0.out, ?_⟩
      rw [nv_nrm]
      exact HNV.out

/-- mul into nothing. -/
theorem mul_any (S S' : Nat → Prop) (A A' : Option Addr) (c c' : Nat) (stk : Value) (hstk : stk.oneCell' = true) (xs ys : List Int) (hn : xs.length ≤ 1000000) (hn' : ys.length ≤ 1000000) (hk : xs.length < 40 ∨ ys.length < 40) (hX : WL xs) (hY : WL ys) (w : World) (hr : Rd w S A (ints .u64 xs)) (hr' : Rd w S' A' (ints .u64 ys)) (hS : ∀ k, S k → k < w.heap.size) (hS' : ∀ k, S' k → k < w.heap.size) (hG : w.cell? ⟨2, 0, none⟩ = some (.int .i64 40)) :
    Calls Tryz.prog 167 #[.slice none 0 0, stk, .slice A xs.length c, .slice A' ys.length c'] w fun e w' => ∃ v ps, e = .returned v ∧ NewN w v ps w' ∧ nv ps = nv xs * nv ys := by
  by_cases hle : ys.length ≤ xs.length
  · exact mul_ge S S' A A' c c' stk hstk xs ys hn hle (by omega) hX hY w hr hr' hS hS' hG
  · have H := Lib.hid (mul_ge S' S A' A c' c stk hstk ys xs hn' (by omega) (by omega) hY hX w hr' hr hS' hS hG)
    have e0 := dec_yes (show (xs.length : Int) < (ys.length : Int) by omega)
    clear hr hr' hS hS' hG hX hY hk hn hn'
    go_enter Tryz.func167, Tryz.ntmps167
    go_wp2_with fail
    refine H.out.mono ?_
    rintro e w1 ⟨v, ps, rfl, hv, hp⟩
    have HV := Lib.hid hv
    have HP := Lib.hid hp
    obtain ⟨A1, c1, rfl, _⟩ := hv.1
    clear hv hp
    go_wp2
    go_ret
    exact ⟨_, ps, rfl, HV.out, by rw [HP.out, Int.mul_comm]⟩
end Go.Proofs.YtloloifngbmibaaGreatDoor
