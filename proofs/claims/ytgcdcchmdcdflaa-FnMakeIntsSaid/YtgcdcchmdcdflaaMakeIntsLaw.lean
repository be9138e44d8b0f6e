/- Walk of laws.FnMakeInts: it returns true. -/
import Derived.Test.YtgcdcchmdcdflaaMakeInts
import Derived.Test.YtgcdcchmdcdflaaSameI
set_option linter.unusedVariables false
namespace Go.Proofs.Ytgcdcchmdcdflaa
open Go.RowKit

theorem four_vals (w : World) (t : TypeId) (Z1 Z2 Z3 Z4 : Array Value) : Blk ((((w.alloc (.cells Z1 t)).alloc (.cells Z2 t)).alloc (.cells Z3 t)).alloc (.cells Z4 t)) w.heap.size t Z1 ∧ Blk ((((w.alloc (.cells Z1 t)).alloc (.cells Z2 t)).alloc (.cells Z3 t)).alloc (.cells Z4 t)) (w.heap.size + 1) t Z2 ∧
    Blk ((((w.alloc (.cells Z1 t)).alloc (.cells Z2 t)).alloc (.cells Z3 t)).alloc (.cells Z4 t)) (w.heap.size + 1 + 1) t Z3 ∧ Blk ((((w.alloc (.cells Z1 t)).alloc (.cells Z2 t)).alloc (.cells Z3 t)).alloc (.cells Z4 t)) (w.heap.size + 1 + 1 + 1) t Z4 ∧
    Below w.heap.size w ((((w.alloc (.cells Z1 t)).alloc (.cells Z2 t)).alloc (.cells Z3 t)).alloc (.cells Z4 t)) := by
  have h1 := Blk.new (w.alloc (.cells Z1 t)) t Z2
  have h2 := Blk.new ((w.alloc (.cells Z1 t)).alloc (.cells Z2 t)) t Z3
  have h3 := Blk.new (((w.alloc (.cells Z1 t)).alloc (.cells Z2 t)).alloc (.cells Z3 t)) t Z4
  simp at h1 h2 h3
  exact ⟨(((Blk.new w t Z1).alloc _).alloc _).alloc _, (h1.alloc _).alloc _, h2.alloc _, h3, below_al (below_al (below_al (below_al (Below.refl _ _) _) _) _) _⟩

set_option maxHeartbeats 1000000 in
theorem fnMakeInts_any (a b : Int) (ha0 : -9223372036854775808 ≤ a) (ha1 : a ≤ 9223372036854775807) (hb0 : 0 ≤ b) (hb1 : b ≤ 18446744073709551615) (w : World) :
    Calls Try.prog 3 #[.int .i64 a, .int .u64 b] w fun e w' => e = .returned (.bool true) ∧ Below w.heap.size w w' := by
  obtain ⟨la, hla⟩ : ∃ l, l = strip (be8 (a.natAbs : Int)) := ⟨_, rfl⟩
  obtain ⟨lb, hlb⟩ : ∃ l, l = strip (be8 (b.natAbs : Int)) := ⟨_, rfl⟩
  have HM : Hid (∀ W : World, Calls Try.prog 4 #[.int .i64 a, .int .u64 b] W fun e w' => ∃ m1 m2 m3 m4, e = .returned (.tuple #[valI (decide (a < 0)) m1, valI (decide (a < 0)) m2, valI false m3, valI false m4]) ∧
      SlV w' (Nw W w') .u8 m1 la ∧ SlV w' (Nw W w') .u8 m2 la ∧ SlV w' (Nw W w') .u8 m3 lb ∧ SlV w' (Nw W w') .u8 m4 lb ∧ Below W.heap.size W w') := by
    intro W
    have h := makeInts_any a b ha0 ha1 hb0 hb1 W
    rw [← hla, ← hlb] at h
    exact h
  have HS : Hid (∀ W : World, Calls Try.prog 6 #[.int .i64 a] W fun e w' => ∃ v, e = .returned v ∧ SpI w' (Nw W w') v (decide (a < 0)) la ∧ Below W.heap.size W w') := by
    intro W
    have h := small_any a ha0 ha1 W
    rw [neg_abs a (by omega) (by omega), ← hla] at h
    exact h
  have hnla : la.length ≤ 140737488355328 := by
    have : la.length ≤ 8 := by rw [hla]; simp [strip, be8_len]
    omega
  have hnlb : lb.length ≤ 140737488355328 := by
    have : lb.length ≤ 8 := by rw [hlb]; simp [strip, be8_len]
    omega
  have HLA := Lib.hid hnla
  have HLB := Lib.hid hnlb
  have HLE : Hid (lb = strip (be8 b)) := by
    show _ = _
    rw [hlb, show (b.natAbs : Int) = b by omega]
  have hb2 := Lib.hid (And.intro hb0 hb1)
  have HI := Lib.hid (fun (S : Nat → Prop) (v : Value) (w : World) => intVal_any S (decide (a < 0)) v la hnla w)
  have HJ := Lib.hid (fun (S : Nat → Prop) (v : Value) (w : World) => intVal_any S false v lb hnlb w)
  clear ha0 ha1 hla hlb hnla hnlb
  go_enter Try.func3, Try.ntmps3
  go_wp2_with fail
  refine (HM.out _).mono ?_
  rintro e w1 ⟨m1, m2, m3, m4, rfl, s1, s2, s3, s4, b1⟩
  have S1 := Lib.hid s1
  have S2 := Lib.hid s2
  have S3 := Lib.hid s3
  have S4 := Lib.hid s4
  obtain ⟨A1, c1, rfl, l1, x1⟩ := s1
  obtain ⟨A2, c2, rfl, l2, x2⟩ := s2
  obtain ⟨A3, c3, rfl, l3, x3⟩ := s3
  obtain ⟨A4, c4, rfl, l4, x4⟩ := s4
  clear x1 x2 x3 x4 l1 l2 l3 l4 HM
  go_wp2_with fail
  refine (HS.out _).mono ?_
  rintro e w2 ⟨v, rfl, hv, b2⟩
  have q := four_vals w1 26 #[.int .i64 2, .bool (decide (a < 0)), .slice A1 la.length c1, .int .u64 0, .string { data := #[] }, .slice none 0 0] #[.int .i64 2, .bool (decide (a < 0)), .slice A2 la.length c2, .int .u64 0, .string { data := #[] }, .slice none 0 0] #[.int .i64 2, .bool false, .slice A3 lb.length c3, .int .u64 0, .string { data := #[] }, .slice none 0 0] #[.int .i64 2, .bool false, .slice A4 lb.length c4, .int .u64 0, .string { data := #[] }, .slice none 0 0]
  have r1 := q.1.below b2 q.1.lt
  have r2 := q.2.1.below b2 q.2.1.lt
  have r3 := q.2.2.1.below b2 q.2.2.1.lt
  have r4 := q.2.2.2.1.below b2 q.2.2.2.1.lt
  have B12 : Below w1.heap.size w1 w2 := below_up q.2.2.2.2 b2
  obtain ⟨mv, rfl, hmv⟩ := hv
  clear q b2 HS
  go_wp2_with fail
  refine (HI.out _ mv _ hmv (fun k hk => hk.2)).mono ?_
  rintro e w3 ⟨m5, rfl, s5, b3⟩
  have R1 := Lib.hid (r1.below b3 r1.lt)
  have R2 := Lib.hid (r2.below b3 r2.lt)
  have R3 := Lib.hid (r3.below b3 r3.lt)
  have R4 := Lib.hid (r4.below b3 r4.lt)
  have B13 := below_up B12 b3
  have S5 := Lib.hid s5
  obtain ⟨A5, c5, rfl, l5, x5⟩ := s5
  clear r1 r2 r3 r4 B12 b3 hmv l5 x5 HI
  go_wp2_with fail
  have e56 : b / 72057594037927936 % 256 = b / 72057594037927936 := by have := hb2.out; omega
  have hblk := Blk.new (w3.alloc (.cells #[.int .i64 2, .bool (decide (a < 0)), .slice A5 la.length c5, .int .u64 0, .string { data := #[] }, .slice none 0 0] 26)) 5 (ints .u8 (be8 b)).toArray
  rw [show (w3.alloc (.cells #[.int .i64 2, .bool (decide (a < 0)), .slice A5 la.length c5, .int .u64 0, .string { data := #[] }, .slice none 0 0] 26)).heap.size = w3.heap.size + 1 by simp] at hblk
  rw [← e56]
  refine (of_any (fun k => k = w3.heap.size + 1) false _ (be8 b) (by rw [be8_len]; omega) ((w3.alloc (.cells #[.int .i64 2, .bool (decide (a < 0)), .slice A5 la.length c5, .int .u64 0, .string { data := #[] }, .slice none 0 0] 26)).alloc (.cells (ints .u8 (be8 b)).toArray 5)) ⟨_, _, rfl, Nat.le_refl _, Rd.of_blk (ys := []) (by simpa using hblk) rfl⟩ (fun k hk => by simp; omega)).mono ?_
  rintro e w4 ⟨v, rfl, ⟨mv6, rfl, hmv6⟩, b4⟩
  clear e56 hblk
  rw [← HLE.out] at hmv6
  have R5 := (((Blk.new w3 26 #[.int .i64 2, .bool (decide (a < 0)), .slice A5 la.length c5, .int .u64 0, .string { data := #[] }, .slice none 0 0]).alloc (.cells (ints .u8 (be8 b)).toArray 5)).below b4 (by simp; omega))
  have B34 : Below w3.heap.size w3 w4 := below_up (below_al (below_al (Below.refl _ _) _) _) b4
  clear b4
  go_wp2_with fail
  refine (HJ.out _ mv6 _ hmv6 (fun k hk => hk.2)).mono ?_
  rintro e w5 ⟨m6, rfl, s6, b5⟩
  have R5' := R5.below b5 R5.lt
  have B35 := below_up B34 b5
  have B15 := below_up B13 B35
  have S6 := Lib.hid s6
  obtain ⟨A6, c6, rfl, l6, x6⟩ := s6
  have r1 := R1.out.below B35 R1.out.lt
  have r2 := R2.out.below B35 R2.out.lt
  have r3 := R3.out.below B35 R3.out.lt
  have r4 := R4.out.below B35 R4.out.lt
  clear R1 R2 R3 R4 R5 B34 b5 hmv6 l6 x6 HJ
  have hl1 := r1.lt
  have hl5 := R5'.lt
  have p0 := r1.cell 0
  have p1 := r1.cell 1
  have p2 := r1.cell 2
  have p3 := r1.cell 3
  have p4 := r1.cell 4
  have p5 := r1.cell 5
  simp at p0 p1 p2 p3 p4 p5
  have q0 := R5'.cell 0
  have q1 := R5'.cell 1
  have q2 := R5'.cell 2
  have q3 := R5'.cell 3
  have q4 := R5'.cell 4
  have q5 := R5'.cell 5
  simp at q0 q1 q2 q3 q4 q5
  have R1 := Lib.hid (r1.alloc (.cells #[.int .i64 2, .bool false, .slice A6 lb.length c6, .int .u64 0, .string { data := #[] }, .slice none 0 0] 26))
  have R2 := Lib.hid (r2.alloc (.cells #[.int .i64 2, .bool false, .slice A6 lb.length c6, .int .u64 0, .string { data := #[] }, .slice none 0 0] 26))
  have R3 := Lib.hid (r3.alloc (.cells #[.int .i64 2, .bool false, .slice A6 lb.length c6, .int .u64 0, .string { data := #[] }, .slice none 0 0] 26))
  have R4 := Lib.hid (r4.alloc (.cells #[.int .i64 2, .bool false, .slice A6 lb.length c6, .int .u64 0, .string { data := #[] }, .slice none 0 0] 26))
  have R5 := Lib.hid (R5'.alloc (.cells #[.int .i64 2, .bool false, .slice A6 lb.length c6, .int .u64 0, .string { data := #[] }, .slice none 0 0] 26))
  have R6 := Lib.hid (Blk.new w5 26 #[.int .i64 2, .bool false, .slice A6 lb.length c6, .int .u64 0, .string { data := #[] }, .slice none 0 0])
  have HB := Lib.hid B15
  have HB3 := Lib.hid B35
  clear r1 r2 r3 r4 R5' B13 B15 B35
  have U1 := Lib.hid (below_al HB.out (.cells #[.int .i64 2, .bool false, .slice A6 lb.length c6, .int .u64 0, .string { data := #[] }, .slice none 0 0] 26))
  have U3 := Lib.hid (below_al HB3.out (.cells #[.int .i64 2, .bool false, .slice A6 lb.length c6, .int .u64 0, .string { data := #[] }, .slice none 0 0] 26))
  have U5 := Lib.hid (below_al (Below.refl w5.heap.size w5) (.cells #[.int .i64 2, .bool false, .slice A6 lb.length c6, .int .u64 0, .string { data := #[] }, .slice none 0 0] 26))
  clear HB HB3
  go_wp2_with fail
  refine (same_int _ _ (decide (a < 0)) _ _ la HLA.out _ (S1.out.keep (still_below U1.out (fun k hk => hk.2))) (S5.out.keep (still_below U3.out (fun k hk => hk.2))) (fun k hk => Nat.lt_of_lt_of_le hk.2 U1.out.size) (fun k hk => Nat.lt_of_lt_of_le hk.2 U3.out.size)).mono ?_
  rintro e x0 ⟨rfl, hb⟩
  have T := Lib.hid (below_up U1.out hb)
  clear U1
  have U1 := T
  clear T
  have T := Lib.hid (below_up U3.out hb)
  clear U3
  have U3 := T
  clear T
  have T := Lib.hid (below_up U5.out hb)
  clear U5
  have U5 := T
  clear T
  have T := Lib.hid (R1.out.below hb R1.out.lt)
  clear R1
  have R1 := T
  clear T
  have T := Lib.hid (R2.out.below hb R2.out.lt)
  clear R2
  have R2 := T
  clear T
  have T := Lib.hid (R3.out.below hb R3.out.lt)
  clear R3
  have R3 := T
  clear T
  have T := Lib.hid (R4.out.below hb R4.out.lt)
  clear R4
  have R4 := T
  clear T
  have T := Lib.hid (R5.out.below hb R5.out.lt)
  clear R5
  have R5 := T
  clear T
  have T := Lib.hid (R6.out.below hb R6.out.lt)
  clear R6
  have R6 := T
  clear T
  clear hb
  clear p0 p1 p2 p3 p4 p5 q0 q1 q2 q3 q4 q5
  have P0 := R2.out.cell 0
  have P1 := R2.out.cell 1
  have P2 := R2.out.cell 2
  have P3 := R2.out.cell 3
  have P4 := R2.out.cell 4
  have P5 := R2.out.cell 5
  simp at P0 P1 P2 P3 P4 P5
  have Q0 := R5.out.cell 0
  have Q1 := R5.out.cell 1
  have Q2 := R5.out.cell 2
  have Q3 := R5.out.cell 3
  have Q4 := R5.out.cell 4
  have Q5 := R5.out.cell 5
  simp at Q0 Q1 Q2 Q3 Q4 Q5
  go_wp2_with fail
  refine (same_int _ _ (decide (a < 0)) _ _ la HLA.out _ (S2.out.keep (still_below U1.out (fun k hk => hk.2))) (S5.out.keep (still_below U3.out (fun k hk => hk.2))) (fun k hk => Nat.lt_of_lt_of_le hk.2 U1.out.size) (fun k hk => Nat.lt_of_lt_of_le hk.2 U3.out.size)).mono ?_
  rintro e x1 ⟨rfl, hb⟩
  have T := Lib.hid (below_up U1.out hb)
  clear U1
  have U1 := T
  clear T
  have T := Lib.hid (below_up U3.out hb)
  clear U3
  have U3 := T
  clear T
  have T := Lib.hid (below_up U5.out hb)
  clear U5
  have U5 := T
  clear T
  have T := Lib.hid (R1.out.below hb R1.out.lt)
  clear R1
  have R1 := T
  clear T
  have T := Lib.hid (R2.out.below hb R2.out.lt)
  clear R2
  have R2 := T
  clear T
  have T := Lib.hid (R3.out.below hb R3.out.lt)
  clear R3
  have R3 := T
  clear T
  have T := Lib.hid (R4.out.below hb R4.out.lt)
  clear R4
  have R4 := T
  clear T
  have T := Lib.hid (R5.out.below hb R5.out.lt)
  clear R5
  have R5 := T
  clear T
  have T := Lib.hid (R6.out.below hb R6.out.lt)
  clear R6
  have R6 := T
  clear T
  clear hb
  clear P0 P1 P2 P3 P4 P5 Q0 Q1 Q2 Q3 Q4 Q5
  have P0 := R3.out.cell 0
  have P1 := R3.out.cell 1
  have P2 := R3.out.cell 2
  have P3 := R3.out.cell 3
  have P4 := R3.out.cell 4
  have P5 := R3.out.cell 5
  simp at P0 P1 P2 P3 P4 P5
  have Q0 := R6.out.cell 0
  have Q1 := R6.out.cell 1
  have Q2 := R6.out.cell 2
  have Q3 := R6.out.cell 3
  have Q4 := R6.out.cell 4
  have Q5 := R6.out.cell 5
  simp at Q0 Q1 Q2 Q3 Q4 Q5
  go_wp2_with fail
  refine (same_int _ _ false _ _ lb HLB.out _ (S3.out.keep (still_below U1.out (fun k hk => hk.2))) (S6.out.keep (still_below U5.out (fun k hk => hk.2))) (fun k hk => Nat.lt_of_lt_of_le hk.2 U1.out.size) (fun k hk => Nat.lt_of_lt_of_le hk.2 U5.out.size)).mono ?_
  rintro e x2 ⟨rfl, hb⟩
  have T := Lib.hid (below_up U1.out hb)
  clear U1
  have U1 := T
  clear T
  have T := Lib.hid (below_up U3.out hb)
  clear U3
  have U3 := T
  clear T
  have T := Lib.hid (below_up U5.out hb)
  clear U5
  have U5 := T
  clear T
  have T := Lib.hid (R1.out.below hb R1.out.lt)
  clear R1
  have R1 := T
  clear T
  have T := Lib.hid (R2.out.below hb R2.out.lt)
  clear R2
  have R2 := T
  clear T
  have T := Lib.hid (R3.out.below hb R3.out.lt)
  clear R3
  have R3 := T
  clear T
  have T := Lib.hid (R4.out.below hb R4.out.lt)
  clear R4
  have R4 := T
  clear T
  have T := Lib.hid (R5.out.below hb R5.out.lt)
  clear R5
  have R5 := T
  clear T
  have T := Lib.hid (R6.out.below hb R6.out.lt)
  clear R6
  have R6 := T
  clear T
  clear hb
  clear P0 P1 P2 P3 P4 P5 Q0 Q1 Q2 Q3 Q4 Q5
  have P0 := R4.out.cell 0
  have P1 := R4.out.cell 1
  have P2 := R4.out.cell 2
  have P3 := R4.out.cell 3
  have P4 := R4.out.cell 4
  have P5 := R4.out.cell 5
  simp at P0 P1 P2 P3 P4 P5
  have Q0 := R6.out.cell 0
  have Q1 := R6.out.cell 1
  have Q2 := R6.out.cell 2
  have Q3 := R6.out.cell 3
  have Q4 := R6.out.cell 4
  have Q5 := R6.out.cell 5
  simp at Q0 Q1 Q2 Q3 Q4 Q5
  go_wp2_with fail
  refine (same_int _ _ false _ _ lb HLB.out _ (S4.out.keep (still_below U1.out (fun k hk => hk.2))) (S6.out.keep (still_below U5.out (fun k hk => hk.2))) (fun k hk => Nat.lt_of_lt_of_le hk.2 U1.out.size) (fun k hk => Nat.lt_of_lt_of_le hk.2 U5.out.size)).mono ?_
  rintro e x3 ⟨rfl, hb⟩
  have T := Lib.hid (below_up U1.out hb)
  clear U1
  have U1 := T
  clear T
  have T := Lib.hid (below_up U3.out hb)
  clear U3
  have U3 := T
  clear T
  have T := Lib.hid (below_up U5.out hb)
  clear U5
  have U5 := T
  clear T
  have T := Lib.hid (R1.out.below hb R1.out.lt)
  clear R1
  have R1 := T
  clear T
  have T := Lib.hid (R2.out.below hb R2.out.lt)
  clear R2
  have R2 := T
  clear T
  have T := Lib.hid (R3.out.below hb R3.out.lt)
  clear R3
  have R3 := T
  clear T
  have T := Lib.hid (R4.out.below hb R4.out.lt)
  clear R4
  have R4 := T
  clear T
  have T := Lib.hid (R5.out.below hb R5.out.lt)
  clear R5
  have R5 := T
  clear T
  have T := Lib.hid (R6.out.below hb R6.out.lt)
  clear R6
  have R6 := T
  clear T
  clear hb
  clear P0 P1 P2 P3 P4 P5 Q0 Q1 Q2 Q3 Q4 Q5
  have P0 := R1.out.cell 0
  have P1 := R1.out.cell 1
  have P2 := R1.out.cell 2
  have P3 := R1.out.cell 3
  have P4 := R1.out.cell 4
  have P5 := R1.out.cell 5
  simp at P0 P1 P2 P3 P4 P5
  have Q0 := R6.out.cell 0
  have Q1 := R6.out.cell 1
  have Q2 := R6.out.cell 2
  have Q3 := R6.out.cell 3
  have Q4 := R6.out.cell 4
  have Q5 := R6.out.cell 5
  simp at Q0 Q1 Q2 Q3 Q4 Q5
  have B := below_up b1 U1.out
  go_wp2
  go_ret
  exact ⟨rfl, B⟩
end Go.Proofs.Ytgcdcchmdcdflaa
