/- Walk of impl.MakeInts: four ints told as Vals. -/
import Derived.Test.YtgcdcchmdcdflaaMake
import Derived.Test.YtgcdcchmdcdflaaVal
set_option linter.unusedVariables false
namespace Go.Proofs.Ytgcdcchmdcdflaa
open Go.RowKit

theorem lz_lt (l : List Int) (h : ∃ x ∈ l, ¬ x = 0) : lz l < l.length := by
  induction l with
  | nil => obtain ⟨x, hx, _⟩ := h; cases hx
  | cons y ys ih =>
    simp only [lz, List.length_cons]
    split
    · rename_i hy
      have : lz ys < ys.length := ih (by
        obtain ⟨x, hx, hx0⟩ := h
        rcases List.mem_cons.1 hx with rfl | hx
        · exact absurd hy hx0
        · exact ⟨x, hx, hx0⟩)
      omega
    · omega
theorem strip_be8_pos (u : Int) (h0 : 0 < u) (h1 : u < 18446744073709551616) : 0 < (strip (be8 u)).length := by
  have : lz (be8 u) < (be8 u).length := lz_lt _ (by
    by_cases hall : ∀ x ∈ be8 u, x = 0
    · exfalso
      simp only [be8, List.mem_cons, List.not_mem_nil, or_false, forall_eq_or_imp, forall_eq] at hall
      omega
    · simpa using hall)
  rw [strip, List.length_drop]
  omega
theorem strip_be8_zero : strip (be8 0) = [] := by decide
theorem strip_abs (x : Int) : strip (beB (absW x)) = strip (be8 (x.natAbs : Int)) := by
  unfold absW
  split
  · rename_i h
    subst h
    decide
  · simp [beB]
theorem neg_abs (x : Int) (h0 : -18446744073709551616 < x) (h1 : x < 18446744073709551616) : sgn2 (decide (x < 0)) (strip (be8 (x.natAbs : Int))) = decide (x < 0) := by
  by_cases h : x < 0
  · have := strip_be8_pos (x.natAbs : Int) (by omega) (by omega)
    simp [sgn2, h, this]
  · simp [sgn2, h]
theorem sgB_abs (x : Int) : decide (sgB (decide (x < 0)) (absW x) < 0) = decide (x < 0) := by
  unfold sgB absW
  by_cases h0 : x = 0
  · simp [h0]
  · by_cases h : x < 0
    · simp [h0, h]
    · simp [h0, h]
theorem sgB_false (l : List Int) : decide (sgB false l < 0) = false := by
  unfold sgB
  split <;> simp
theorem absW_bd (x : Int) (h0 : -18446744073709551616 < x) (h1 : x < 18446744073709551616) : ∀ y ∈ absW x, 0 ≤ y ∧ y < 18446744073709551616 := by
  unfold absW
  split
  · simp
  · intro y hy
    simp at hy
    omega

/-- A Val of the kind Int that is there in a world. -/
def HVal (v : Value) (neg : Bool) (mag : List Int) (W : World) : Prop := ∃ S : Nat → Prop, ValI W S v neg mag ∧ ∀ k, S k → k < W.heap.size
theorem ValI.keep {w w' : World} {S : Nat → Prop} {v : Value} {neg : Bool} {mag : List Int} (h : ValI w S v neg mag) (hk : Still S w w') : ValI w' S v neg mag := by
  obtain ⟨mv, h1, h2⟩ := h
  exact ⟨mv, h1, h2.keep hk⟩

theorem num_of (w : World) (v : Value) (neg nb : Bool) (x : Int) (hnb : decide (sgB neg (absW x) < 0) = nb) (h0 : -18446744073709551616 < x) (h1 : x < 18446744073709551616) (W : World) (h : NewI W v neg (absW x) w) :
    Calls Try.prog 9 #[v] w fun e w' => ∃ mv, e = .returned (.agg #[.int .i64 2, .bool nb, mv, .int .u64 0, .string { data := #[] }, .slice none 0 0]) ∧ SlV w' (Nw w w') .u8 mv (strip (be8 (x.natAbs : Int))) ∧ Below w.heap.size w w' := by
  obtain ⟨s, a, rfl, _, hb⟩ := h
  refine (number_any w _ s a neg (absW x) (Nat.le_trans (absW_len x) (by omega)) (absW_bd x h0 h1) hb (fun k hk => hk.2)).mono ?_
  rintro e w' ⟨v, he, ⟨mv, hv, hs⟩, hbe⟩
  refine ⟨mv, by rw [he, hv, hnb], ?_, hbe⟩
  rw [← strip_abs]
  exact hs

theorem four_new (w : World) (t : TypeId) (Z : Array Value) : Blk ((((w.alloc (.cells Z t)).alloc (.cells Z t)).alloc (.cells Z t)).alloc (.cells Z t)) w.heap.size t Z ∧ Blk ((((w.alloc (.cells Z t)).alloc (.cells Z t)).alloc (.cells Z t)).alloc (.cells Z t)) (w.heap.size + 1) t Z ∧
    Blk ((((w.alloc (.cells Z t)).alloc (.cells Z t)).alloc (.cells Z t)).alloc (.cells Z t)) (w.heap.size + 1 + 1) t Z ∧ Blk ((((w.alloc (.cells Z t)).alloc (.cells Z t)).alloc (.cells Z t)).alloc (.cells Z t)) (w.heap.size + 1 + 1 + 1) t Z ∧
    Below w.heap.size w ((((w.alloc (.cells Z t)).alloc (.cells Z t)).alloc (.cells Z t)).alloc (.cells Z t)) ∧ ((((w.alloc (.cells Z t)).alloc (.cells Z t)).alloc (.cells Z t)).alloc (.cells Z t)).heap.size = w.heap.size + 1 + 1 + 1 + 1 := by
  have h1 := Blk.new (w.alloc (.cells Z t)) t Z
  have h2 := Blk.new ((w.alloc (.cells Z t)).alloc (.cells Z t)) t Z
  have h3 := Blk.new (((w.alloc (.cells Z t)).alloc (.cells Z t)).alloc (.cells Z t)) t Z
  simp at h1 h2 h3
  exact ⟨(((Blk.new w t Z).alloc _).alloc _).alloc _, (h1.alloc _).alloc _, h2.alloc _, h3, below_al (below_al (below_al (below_al (Below.refl _ _) _) _) _) _, by simp⟩

/-- A Val of the kind Int. -/
@[reducible] def valI (neg : Bool) (m : Value) : Value := .agg #[.int .i64 2, .bool neg, m, .int .u64 0, .string { data := #[] }, .slice none 0 0]
@[reducible] def valZ : Array Value := #[.int .i64 0, .bool false, .slice none 0 0, .int .u64 0, .string { data := #[] }, .slice none 0 0]

set_option maxHeartbeats 1000000 in
theorem makeInts_any (a b : Int) (ha0 : -9223372036854775808 ≤ a) (ha1 : a ≤ 9223372036854775807) (hb0 : 0 ≤ b) (hb1 : b ≤ 18446744073709551615) (w : World) :
    Calls Try.prog 4 #[.int .i64 a, .int .u64 b] w fun e w' => ∃ m1 m2 m3 m4, e = .returned (.tuple #[valI (decide (a < 0)) m1, valI (decide (a < 0)) m2, valI false m3, valI false m4]) ∧
      SlV w' (Nw w w') .u8 m1 (strip (be8 (a.natAbs : Int))) ∧ SlV w' (Nw w w') .u8 m2 (strip (be8 (a.natAbs : Int))) ∧ SlV w' (Nw w w') .u8 m3 (strip (be8 (b.natAbs : Int))) ∧ SlV w' (Nw w w') .u8 m4 (strip (be8 (b.natAbs : Int))) ∧ Below w.heap.size w w' := by
  have HM := Lib.hid (fun W => makeInt_any a ha0 ha1 W)
  have HM64 := Lib.hid (fun W => makeInt64_any a ha0 ha1 W)
  have HU := Lib.hid (fun W => makeUint_any b hb0 hb1 W)
  have HU64 := Lib.hid (fun W => makeUint64_any b hb0 hb1 W)
  have HNa := Lib.hid (fun W w v => num_of w v (decide (a < 0)) (decide (a < 0)) a (sgB_abs a) (by omega) (by omega) W)
  have HNb := Lib.hid (fun W w v => num_of w v false false b (sgB_false _) (by omega) (by omega) W)
  clear ha0 ha1 hb0 hb1
  go_enter Try.func4, Try.ntmps4
  go_wp2_with fail
  refine (HM.out _).mono ?_
  rintro e u1 ⟨v, rfl, n1⟩
  obtain ⟨_, _, rfl, b1, _⟩ := id n1
  go_wp2_with fail
  refine (HNa.out _ _ _ n1).mono ?_
  rintro e w1 ⟨m1, rfl, s1, d1⟩
  obtain ⟨A1, c1, rfl, l1, x1⟩ := s1
  have b1' := below_up b1 d1
  clear n1
  go_wp2_with fail
  refine (HM64.out _).mono ?_
  rintro e u2 ⟨v, rfl, n2⟩
  obtain ⟨_, _, rfl, b2, _⟩ := id n2
  go_wp2_with fail
  refine (HNa.out _ _ _ n2).mono ?_
  rintro e w2 ⟨m2, rfl, s2, d2⟩
  obtain ⟨A2, c2, rfl, l2, x2⟩ := s2
  have b2' := below_up b2 d2
  clear n2
  go_wp2_with fail
  refine (HU.out _).mono ?_
  rintro e u3 ⟨v, rfl, n3⟩
  obtain ⟨_, _, rfl, b3, _⟩ := id n3
  go_wp2_with fail
  refine (HNb.out _ _ _ n3).mono ?_
  rintro e w3 ⟨m3, rfl, s3, d3⟩
  obtain ⟨A3, c3, rfl, l3, x3⟩ := s3
  have b3' := below_up b3 d3
  clear n3
  go_wp2_with fail
  refine (HU64.out _).mono ?_
  rintro e u4 ⟨v, rfl, n4⟩
  obtain ⟨_, _, rfl, b4, _⟩ := id n4
  go_wp2_with fail
  refine (HNb.out _ _ _ n4).mono ?_
  rintro e w4 ⟨m4, rfl, s4, d4⟩
  obtain ⟨A4, c4, rfl, l4, x4⟩ := s4
  have b4' := below_up b4 d4
  clear n4
  have hB := below_up (below_up (below_up b1' b2') b3') b4'
  have q := four_new w 26 valZ
  have r0 := q.1.below hB q.1.lt
  have r1 := q.2.1.below hB q.2.1.lt
  have r2 := q.2.2.1.below hB q.2.2.1.lt
  have r3 := q.2.2.2.1.below hB q.2.2.2.1.lt
  have hW := below_up q.2.2.2.2.1 hB
  have hz := q.2.2.2.2.2
  have c00 := r0.cell 0
  have f00 := r0.frozen 0
  have c01 := r0.cell 1
  have f01 := r0.frozen 1
  have c02 := r0.cell 2
  have f02 := r0.frozen 2
  have c03 := r0.cell 3
  have f03 := r0.frozen 3
  have c04 := r0.cell 4
  have f04 := r0.frozen 4
  have c05 := r0.cell 5
  have f05 := r0.frozen 5
  have c10 := r1.cell 0
  have f10 := r1.frozen 0
  have c11 := r1.cell 1
  have f11 := r1.frozen 1
  have c12 := r1.cell 2
  have f12 := r1.frozen 2
  have c13 := r1.cell 3
  have f13 := r1.frozen 3
  have c14 := r1.cell 4
  have f14 := r1.frozen 4
  have c15 := r1.cell 5
  have f15 := r1.frozen 5
  have c20 := r2.cell 0
  have f20 := r2.frozen 0
  have c21 := r2.cell 1
  have f21 := r2.frozen 1
  have c22 := r2.cell 2
  have f22 := r2.frozen 2
  have c23 := r2.cell 3
  have f23 := r2.frozen 3
  have c24 := r2.cell 4
  have f24 := r2.frozen 4
  have c25 := r2.cell 5
  have f25 := r2.frozen 5
  have c30 := r3.cell 0
  have f30 := r3.frozen 0
  have c31 := r3.cell 1
  have f31 := r3.frozen 1
  have c32 := r3.cell 2
  have f32 := r3.frozen 2
  have c33 := r3.cell 3
  have f33 := r3.frozen 3
  have c34 := r3.cell 4
  have f34 := r3.frozen 4
  have c35 := r3.cell 5
  have f35 := r3.frozen 5
  simp at c00 c01 c02 c03 c04 c05 c10 c11 c12 c13 c14 c15 c20 c21 c22 c23 c24 c25 c30 c31 c32 c33 c34 c35
  clear q HM HM64 HU HU64 HNa HNb
  clear r0 r1 r2 r3
  go_wp2
  have z1 : w.heap.size + 1 + 1 + 1 + 1 ≤ u1.heap.size := by rw [← hz]; exact b1.size
  have z2 := Nat.le_trans z1 (Nat.le_trans d1.size b2.size)
  have z3 := Nat.le_trans z2 (Nat.le_trans d2.size b3.size)
  have z4 := Nat.le_trans z3 (Nat.le_trans d3.size b4.size)
  refine bodyPost_ret (v := .tuple #[valI (decide (a < 0)) (.slice A1 (strip (be8 (a.natAbs : Int))).length c1), valI (decide (a < 0)) (.slice A2 (strip (be8 (a.natAbs : Int))).length c2), valI false (.slice A3 (strip (be8 (b.natAbs : Int))).length c3), valI false (.slice A4 (strip (be8 (b.natAbs : Int))).length c4)]) (by simp [results, Try.results4, go_sem, c00, c01, c02, c03, c04, c05, c10, c11, c12, c13, c14, c15, c20, c21, c22, c23, c24, c25, c30, c31, c32, c33, c34, c35]) rfl ⟨_, _, _, _, rfl, ?_, ?_, ?_, ?_, ?_⟩
  · refine sl_done x1 l1 rfl ((still_below (below_up (below_up b2' b3') b4') (fun k hk => hk.2)).trans (Still.mono (S' := fun k => w.heap.size + 1 + 1 + 1 + 1 ≤ k) ?_ (fun k hk => Nat.le_trans z1 hk.1))) (fun k hk => ⟨by have := Nat.le_trans z1 hk.1; omega, ?_⟩)
    · repeat' (refine Still.set ?_ (fun k hk => by have : _ ≤ k := hk; simp; omega) _)
      exact Still.refl _ _
    · have := Nat.lt_of_lt_of_le hk.2 (below_up (below_up b2' b3') b4').size
      simpa using this
  · refine sl_done x2 l2 rfl ((still_below (below_up b3' b4') (fun k hk => hk.2)).trans (Still.mono (S' := fun k => w.heap.size + 1 + 1 + 1 + 1 ≤ k) ?_ (fun k hk => Nat.le_trans z2 hk.1))) (fun k hk => ⟨by have := Nat.le_trans z2 hk.1; omega, ?_⟩)
    · repeat' (refine Still.set ?_ (fun k hk => by have : _ ≤ k := hk; simp; omega) _)
      exact Still.refl _ _
    · have := Nat.lt_of_lt_of_le hk.2 (below_up b3' b4').size
      simpa using this
  · refine sl_done x3 l3 rfl ((still_below b4' (fun k hk => hk.2)).trans (Still.mono (S' := fun k => w.heap.size + 1 + 1 + 1 + 1 ≤ k) ?_ (fun k hk => Nat.le_trans z3 hk.1))) (fun k hk => ⟨by have := Nat.le_trans z3 hk.1; omega, ?_⟩)
    · repeat' (refine Still.set ?_ (fun k hk => by have : _ ≤ k := hk; simp; omega) _)
      exact Still.refl _ _
    · have := Nat.lt_of_lt_of_le hk.2 b4'.size
      simpa using this
  · refine sl_done x4 l4 rfl ((still_below (Below.refl _ _) (fun k hk => hk.2)).trans (Still.mono (S' := fun k => w.heap.size + 1 + 1 + 1 + 1 ≤ k) ?_ (fun k hk => Nat.le_trans z4 hk.1))) (fun k hk => ⟨by have := Nat.le_trans z4 hk.1; omega, ?_⟩)
    · repeat' (refine Still.set ?_ (fun k hk => by have : _ ≤ k := hk; simp; omega) _)
      exact Still.refl _ _
    · have := Nat.lt_of_lt_of_le hk.2 (Below.refl 0 w4).size
      simpa using this
  · repeat' (refine Below.setCell ?_ (by simp; try omega) _)
    exact hW
end Go.Proofs.Ytgcdcchmdcdflaa
