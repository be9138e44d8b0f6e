/- The reference's cmpNumbers. The reference's Equal at keys: the walk. The reference's Equal at keys: the walk. The reference's Equal at keys of one kind. -/
import Derived.Test.YtloloifngbmibaaGreatDoorM24
set_option linter.unusedVariables false
set_option linter.unusedSimpArgs false
set_option maxRecDepth 4000
namespace Go.Proofs.YtloloifngbmibaaGreatDoor
open Go.RowKit

theorem numV {d : Nat} {t : Tr} {x : Vc} {W : World} (h : HV d t x W) (g : GoodH t) :
    Calls Tryz.prog 11 #[x.agg] W fun e w' => ∃ v', e = .returned v' ∧ HI 40 W.heap.size (iv t.neg t.mag) v' w' ∧ Below W.heap.size W w' := by
  obtain ⟨S, h1, h2⟩ := h
  obtain ⟨A, n, c, hq, _⟩ := h1.kidsV
  obtain ⟨e1, e2, e3, e4, e5⟩ := h1.head
  obtain ⟨k, nn, m, b, s, q⟩ := x
  simp only at e1 e2 e3 e4 e5 hq
  subst e1 e2 e3 e4 hq
  refine (num_any S t.k t.neg m t.mag t.bits t.text (.slice A n c) rfl (by have := g.ml; omega) W e5 h2).mono ?_
  rintro e w' ⟨v', rfl, h3, h4⟩
  exact ⟨v', rfl, HI.of h3 g.by_ (Nat.le_trans (strip_len _) g.ml), h4⟩
theorem flV {d : Nat} {t : Tr} {x : Vc} {W : World} (h : HV d t x W) (g : GoodH t) :
    Calls Tryz.prog 40 #[x.agg] W fun e w' => e = .returned (.float .f64 t.bits.toNat) ∧ Below W.heap.size W w' := by
  obtain ⟨S, h1, h2⟩ := h
  obtain ⟨e1, e2, e3, e4, e5⟩ := h1.head
  exact fl_any x t.bits.toNat (by rw [e3]; have := g.b; omega) (by have := g.b; omega) W

/-- Two boxed Vals. -/
structure Bx2 (w : World) (x y : Vc) (W : World) : Prop where
  lo : Below w.heap.size w W
  bx : Blk W w.heap.size 26 (VcB x)
  by_ : Blk W (w.heap.size + 1) 26 (VcB y)
theorem Bx2.up {w : World} {x y : Vc} {W W' : World} (h : Bx2 w x y W) (hb : Below W.heap.size W W') : Bx2 w x y W' :=
  ⟨below_up h.lo hb, h.bx.below hb h.bx.lt, h.by_.below hb h.by_.lt⟩
theorem Bx2.drew {w : World} {x y : Vc} {W : World} (h : Bx2 w x y W) : Bx2 w x y W.drew := ⟨h.lo.drew, h.bx, h.by_⟩
theorem Bx2.start (w : World) (x y : Vc) : Bx2 w x y ((w.alloc (.cells (VcB x) 26)).alloc (.cells (VcB y) 26)) := by
  refine ⟨((Below.refl _ _).alloc (Nat.le_refl _) _).alloc (by simp) _, (Blk.new w 26 (VcB x)).alloc _, ?_⟩
  have := Blk.new (w.alloc (.cells (VcB x) 26)) 26 (VcB y)
  simpa using this
/-- With its twelve cells. -/
abbrev Bx2S (w : World) (k : Int) (n : Bool) (m : Value) (b : Int) (s : ByteArray) (q : Value) (k' : Int) (n' : Bool) (m' : Value) (b' : Int) (s' : ByteArray) (q' : Value) (W : World) : Prop :=
  Bx2 w ⟨k, n, m, b, s, q⟩ ⟨k', n', m', b', s', q'⟩ W ∧ W.cell? ⟨w.heap.size, 0, none⟩ = some (.int .i64 k) ∧ W.cell? ⟨w.heap.size, 1, none⟩ = some (.bool n) ∧ W.cell? ⟨w.heap.size, 2, none⟩ = some m ∧ W.cell? ⟨w.heap.size, 3, none⟩ = some (.int .u64 b) ∧ W.cell? ⟨w.heap.size, 4, none⟩ = some (.string s) ∧ W.cell? ⟨w.heap.size, 5, none⟩ = some q ∧
    W.cell? ⟨w.heap.size + 1, 0, none⟩ = some (.int .i64 k') ∧ W.cell? ⟨w.heap.size + 1, 1, none⟩ = some (.bool n') ∧ W.cell? ⟨w.heap.size + 1, 2, none⟩ = some m' ∧ W.cell? ⟨w.heap.size + 1, 3, none⟩ = some (.int .u64 b') ∧ W.cell? ⟨w.heap.size + 1, 4, none⟩ = some (.string s') ∧ W.cell? ⟨w.heap.size + 1, 5, none⟩ = some q'
theorem Bx2.s {w : World} {k : Int} {n : Bool} {m : Value} {b : Int} {s : ByteArray} {q : Value} {k' : Int} {n' : Bool} {m' : Value} {b' : Int} {s' : ByteArray} {q' : Value} {W : World} (h : Bx2 w ⟨k, n, m, b, s, q⟩ ⟨k', n', m', b', s', q'⟩ W) : Bx2S w k n m b s q k' n' m' b' s' q' W :=
  ⟨h, h.bx.cell 0, h.bx.cell 1, h.bx.cell 2, h.bx.cell 3, h.bx.cell 4, h.bx.cell 5, h.by_.cell 0, h.by_.cell 1, h.by_.cell 2, h.by_.cell 3, h.by_.cell 4, h.by_.cell 5⟩

theorem cmpNumbers_any {d d' : Nat} {t t' : Tr} {x y : Vc} {w : World} (h : HV d t x w) (h' : HV d' t' y w) (g : GoodH t) (g' : GoodH t') (hk : t.k = 2 ∨ t.k = 3) (hk' : t'.k = 2 ∨ t'.k = 3) :
    Calls Tryz.prog 106 #[x.agg, y.agg] w fun e w' => ∃ c : Int, e = .returned (.int .i64 c) ∧ (ncl t = ncl t' → c = 0) ∧ Below w.heap.size w w' := by
  have e1 : x.k = t.k := by obtain ⟨S, h1, _⟩ := h; exact h1.head.k
  have e2 : y.k = t'.k := by obtain ⟨S, h1, _⟩ := h'; exact h1.head.k
  have HX := Lib.hid (fun W (hW : Below w.heap.size w W) => And.intro (numV (h.up hW) g) (flV (h.up hW) g))
  have HY := Lib.hid (fun W (hW : Below w.heap.size w W) => And.intro (numV (h'.up hW) g') (flV (h'.up hW) g'))
  have hb := g.b
  have hb' := g'.b
  have HB := Lib.hid (show t.bits.toNat < 18446744073709551616 ∧ t'.bits.toNat < 18446744073709551616 by omega)
  clear h h' hb hb'
  obtain ⟨k, n, m, b, s, q⟩ := x
  obtain ⟨k', n', m', b', s', q'⟩ := y
  simp only at e1 e2
  rw [← e1] at hk
  rw [← e2] at hk'
  have hn : Hid (ncl t = if k = 2 then .fin (iv t.neg t.mag * 2 ^ sc) else fcl t.bits.toNat) := Lib.hid (by unfold ncl; rw [e1])
  have hn' : Hid (ncl t' = if k' = 2 then .fin (iv t'.neg t'.mag * 2 ^ sc) else fcl t'.bits.toNat) := Lib.hid (by unfold ncl; rw [e2])
  have h0 := Lib.hid ((Bx2.start w ⟨k, n, m, b, s, q⟩ ⟨k', n', m', b', s', q'⟩).drew.s)
  clear e1 e2 g g'
  rcases hk with rfl | rfl <;> rcases hk' with rfl | rfl
  · go_enter Tryz.func106, Tryz.ntmps106
    go_wp2
    go_region_held3 (Bx2S w 2 n m b s q 2 n' m' b' s' q')
      (first | assumption | exact h0.out | exact ((‹Bx2S _ _ _ _ _ _ _ _ _ _ _ _ _ _›).1.up ‹Below _ _ _›).s | exact (h0.out.1.up ‹Below _ _ _›).s)
      (first
        | (go_at_call 11; (with_reducible refine (HX.out _ ?_).1.mono ?_); exact (‹Bx2S _ _ _ _ _ _ _ _ _ _ _ _ _ _›).1.lo; rintro e w1 ⟨v1, rfl, hv1, hb1⟩)
        | (go_at_call 11; (with_reducible refine (HY.out _ ?_).1.mono ?_); exact (‹Bx2S _ _ _ _ _ _ _ _ _ _ _ _ _ _›).1.lo; rintro e w2 ⟨v2, rfl, hv2, hb2⟩)
        | (go_at_call 12; (with_reducible refine (cmpII (by decide) (by decide) (hv1.up hb2) hv2).mono ?_); rintro e w3 ⟨rfl, hb3⟩))
    have HL := Lib.hid (‹Bx2S _ _ _ _ _ _ _ _ _ _ _ _ _ _›).1.lo
    clear h0
    go_wp2
    go_ret
    refine ⟨_, rfl, fun h => ?_, HL.out⟩
    have h1 := hn.out
    have h2 := hn'.out
    simp only [if_true] at h1 h2
    rw [h1, h2] at h
    injection h with h
    rw [Int.eq_of_mul_eq_mul_right (Int.ne_of_gt (p2pos sc)) h, sgnc_self]
  · go_enter Tryz.func106, Tryz.ntmps106
    go_wp2
    go_region_held3 (Bx2S w 2 n m b s q 3 n' m' b' s' q')
      (first | assumption | exact h0.out | exact ((‹Bx2S _ _ _ _ _ _ _ _ _ _ _ _ _ _›).1.up ‹Below _ _ _›).s | exact (h0.out.1.up ‹Below _ _ _›).s)
      (first
        | (go_at_call 11; (with_reducible refine (HX.out _ ?_).1.mono ?_); exact (‹Bx2S _ _ _ _ _ _ _ _ _ _ _ _ _ _›).1.lo; rintro e w1 ⟨v1, rfl, hv1, hb1⟩)
        | (go_at_call 40; (with_reducible refine (HY.out _ ?_).2.mono ?_); exact (‹Bx2S _ _ _ _ _ _ _ _ _ _ _ _ _ _›).1.lo; rintro e w2 ⟨rfl, hb2⟩)
        | (go_at_call 122; (with_reducible refine (cmpFloatI (by decide) (hv1.up hb2) _ HB.out.2).mono ?_); rintro e w3 ⟨c, rfl, hc, hb3⟩))
    have HL := Lib.hid (‹Bx2S _ _ _ _ _ _ _ _ _ _ _ _ _ _›).1.lo
    clear h0
    go_wp2
    go_ret
    refine ⟨_, rfl, fun h => ?_, HL.out⟩
    have h1 := hn.out
    have h2 := hn'.out
    simp only [if_true] at h1
    rw [if_neg (by decide)] at h2
    rw [h1, h2] at h
    exact hc h.symm
  · go_enter Tryz.func106, Tryz.ntmps106
    go_wp2
    go_region_held3 (Bx2S w 3 n m b s q 2 n' m' b' s' q')
      (first | assumption | exact h0.out | exact ((‹Bx2S _ _ _ _ _ _ _ _ _ _ _ _ _ _›).1.up ‹Below _ _ _›).s | exact (h0.out.1.up ‹Below _ _ _›).s)
      (first
        | (go_at_call 11; (with_reducible refine (HY.out _ ?_).1.mono ?_); exact (‹Bx2S _ _ _ _ _ _ _ _ _ _ _ _ _ _›).1.lo; rintro e w1 ⟨v1, rfl, hv1, hb1⟩)
        | (go_at_call 40; (with_reducible refine (HX.out _ ?_).2.mono ?_); exact (‹Bx2S _ _ _ _ _ _ _ _ _ _ _ _ _ _›).1.lo; rintro e w2 ⟨rfl, hb2⟩)
        | (go_at_call 122; (with_reducible refine (cmpFloatI (by decide) (hv1.up hb2) _ HB.out.1).mono ?_); rintro e w3 ⟨c, rfl, hc, hb3⟩))
    have HL := Lib.hid (‹Bx2S _ _ _ _ _ _ _ _ _ _ _ _ _ _›).1.lo
    clear h0
    go_wp2
    go_ret
    refine ⟨_, rfl, fun h => ?_, HL.out⟩
    have h1 := hn.out
    have h2 := hn'.out
    simp only [if_true] at h2
    rw [if_neg (by decide)] at h1
    rw [h1, h2] at h
    rw [hc h]
    decide
  · go_enter Tryz.func106, Tryz.ntmps106
    go_wp2
    go_region_held3 (Bx2S w 3 n m b s q 3 n' m' b' s' q')
      (first | assumption | exact h0.out | exact ((‹Bx2S _ _ _ _ _ _ _ _ _ _ _ _ _ _›).1.up ‹Below _ _ _›).s | exact (h0.out.1.up ‹Below _ _ _›).s)
      (first
        | (go_at_call 40; (with_reducible refine (HX.out _ ?_).2.mono ?_); exact (‹Bx2S _ _ _ _ _ _ _ _ _ _ _ _ _ _›).1.lo; rintro e w1 ⟨rfl, hb1⟩)
        | (go_at_call 40; (with_reducible refine (HY.out _ ?_).2.mono ?_); exact (‹Bx2S _ _ _ _ _ _ _ _ _ _ _ _ _ _›).1.lo; rintro e w2 ⟨rfl, hb2⟩)
        | (go_at_call 123; (with_reducible refine (cmpFloats_any _ _ HB.out.1 HB.out.2 _).mono ?_); rintro e w3 ⟨c, rfl, hc, rfl⟩))
    have HL := Lib.hid (‹Bx2S _ _ _ _ _ _ _ _ _ _ _ _ _ _›).1.lo
    clear h0
    go_wp2
    go_ret
    refine ⟨_, rfl, fun h => ?_, HL.out⟩
    have h1 := hn.out
    have h2 := hn'.out
    rw [if_neg (by decide)] at h1 h2
    rw [h1, h2] at h
    exact hc h
end Go.Proofs.YtloloifngbmibaaGreatDoor
set_option linter.unusedVariables false
set_option linter.unusedSimpArgs false
set_option maxRecDepth 4000
namespace Go.Proofs.YtloloifngbmibaaGreatDoor
open Go.RowKit

/-- Six cells. -/
abbrev Six (W : World) (b o : Nat) (x : Vc) : Prop := W.cell? ⟨b, o, none⟩ = some (.int .i64 x.k) ∧ W.cell? ⟨b, o + 1, none⟩ = some (.bool x.n) ∧ W.cell? ⟨b, o + 2, none⟩ = some x.m ∧
    W.cell? ⟨b, o + 3, none⟩ = some (.int .u64 x.b) ∧ W.cell? ⟨b, o + 4, none⟩ = some (.string x.s) ∧ W.cell? ⟨b, o + 5, none⟩ = some x.q
theorem Six.up {W W' : World} {b o : Nat} {x : Vc} (h : Six W b o x) (hb : Below W.heap.size W W') : Six W' b o x :=
  ⟨cell_up hb h.1, cell_up hb h.2.1, cell_up hb h.2.2.1, cell_up hb h.2.2.2.1, cell_up hb h.2.2.2.2.1, cell_up hb h.2.2.2.2.2⟩
theorem KidAt.six {W : World} {A : Option Addr} {i : Nat} {x : Vc} (h : KidAt W A i x) : ∃ b o, A = some ⟨b, o, none⟩ ∧ Six W b (o + i * 6) x := h

/-- What canon tells of two keys. -/
theorem canonH_kind {t t' : Tr} {l l' : List Canon} (hk : 0 ≤ t.k) (hk' : 0 ≤ t'.k) (h7 : t.k < 6 ∨ t.k = 7) (h7' : t'.k < 6 ∨ t'.k = 7) (h : canonH t l = canonH t' l') (hn : ¬ ((t.k = 2 ∨ t.k = 3) ∧ (t'.k = 2 ∨ t'.k = 3))) : t.k = t'.k := by
  have key : ∀ (s : Tr) (r : List Canon), 0 ≤ s.k → (s.k < 6 ∨ s.k = 7) → (s.k = 0 ∧ canonH s r = .none) ∨ (s.k = 1 ∧ canonH s r = .bool s.bits) ∨ ((s.k = 2 ∨ s.k = 3) ∧ canonH s r = .num (ncl s)) ∨ (s.k = 4 ∧ canonH s r = .str s.text) ∨ (s.k = 5 ∧ canonH s r = .byt s.text) ∨ (s.k = 7 ∧ canonH s r = .tup r) := by
    intro s r h0 h1
    have : s.k = 0 ∨ s.k = 1 ∨ s.k = 2 ∨ s.k = 3 ∨ s.k = 4 ∨ s.k = 5 ∨ s.k = 7 := by omega
    unfold canonH
    rcases this with e | e | e | e | e | e | e <;> rw [e] <;> simp
  rcases key t l hk h7 with ⟨a, e⟩ | ⟨a, e⟩ | ⟨a, e⟩ | ⟨a, e⟩ | ⟨a, e⟩ | ⟨a, e⟩ <;> rcases key t' l' hk' h7' with ⟨a', e'⟩ | ⟨a', e'⟩ | ⟨a', e'⟩ | ⟨a', e'⟩ | ⟨a', e'⟩ | ⟨a', e'⟩ <;> rw [e, e'] at h <;> first | (cases h; done) | omega
end Go.Proofs.YtloloifngbmibaaGreatDoor
set_option linter.unusedVariables false
set_option linter.unusedSimpArgs false
set_option maxRecDepth 4000
namespace Go.Proofs.YtloloifngbmibaaGreatDoor
open Go.RowKit

theorem numb {k : Int} {b : Bool} (x : Vc) (hx : x.k = k) (h : (k = 2 ∨ k = 3) ↔ b = true) (W : World) : Calls Tryz.prog 105 #[x.agg] W fun e w' => e = .returned (.bool b) ∧ Below W.heap.size W w' := by
  have e : (decide (x.k = 2) || decide (x.k = 3)) = b := by
    rw [hx]
    cases b
    · have : ¬ (k = 2 ∨ k = 3) := fun h1 => by have := h.1 h1; cases this
      simp; omega
    · have := h.2 rfl
      simpa using this
  rw [← e]
  exact number_v x W

/-- Two numbers. -/
theorem equal_num {d d' : Nat} {t t' : Tr} {x y : Vc} {w : World} (h : HV d t x w) (h' : HV d' t' y w) (g : GoodH t) (g' : GoodH t') (hk : t.k = 2 ∨ t.k = 3) (hk' : t'.k = 2 ∨ t'.k = 3) :
    Calls Tryz.prog 83 #[x.agg, y.agg] w fun e w' => ∃ r : Bool, e = .returned (.bool r) ∧ (ncl t = ncl t' → r = true) ∧ Below w.heap.size w w' := by
  have e1 : x.k = t.k := by obtain ⟨S, h1, _⟩ := h; exact h1.head.k
  have e2 : y.k = t'.k := by obtain ⟨S, h1, _⟩ := h'; exact h1.head.k
  have N1 := Lib.hid (numb (b := true) x e1 ⟨fun _ => rfl, fun _ => hk⟩)
  have N2 := Lib.hid (numb (b := true) y e2 ⟨fun _ => rfl, fun _ => hk'⟩)
  have HC := Lib.hid (fun W (hW : Below w.heap.size w W) => cmpNumbers_any (h.up hW) (h'.up hW) g g' hk hk')
  obtain ⟨k, n, m, b, s, q⟩ := x
  obtain ⟨k', n', m', b', s', q'⟩ := y
  have h0 := Lib.hid (Bx2.start w ⟨k, n, m, b, s, q⟩ ⟨k', n', m', b', s', q'⟩)
  clear h h' g g' hk hk' e1 e2
  go_enter Tryz.func83, Tryz.ntmps83
  go_wp2_with fail
  refine (N1.out _).mono ?_
  rintro e w1 ⟨rfl, hb1⟩
  have h1 := Lib.hid (h0.out.up hb1)
  obtain ⟨_, _, _, _, _, _, _, y0, y1, y2, y3, y4, y5⟩ := h1.out.s
  clear hb1 h0
  go_wp2_with fail
  refine (N2.out _).mono ?_
  rintro e w2 ⟨rfl, hb2⟩
  have h2 := Lib.hid (h1.out.up hb2)
  clear hb2 h1 y0 y1 y2 y3 y4 y5
  obtain ⟨_, x0, x1, x2, x3, x4, x5, y0, y1, y2, y3, y4, y5⟩ := h2.out.s
  go_wp2_with fail
  refine (HC.out _ h2.out.lo).mono ?_
  rintro e w3 ⟨c, rfl, hc, hb3⟩
  have HL := Lib.hid (below_up h2.out.lo hb3)
  clear hb3 h2 HC x0 x1 x2 x3 x4 x5 y0 y1 y2 y3 y4 y5
  go_wp2
  go_ret
  exact ⟨_, rfl, fun h => by rw [hc h]; rfl, HL.out⟩

/-- Two kinds. -/
theorem equal_kinds {x y : Vc} {w : World} (hk : ¬ ((x.k = 2 ∨ x.k = 3) ∧ (y.k = 2 ∨ y.k = 3))) (hne : x.k ≠ y.k) :
    Calls Tryz.prog 83 #[x.agg, y.agg] w fun e w' => e = .returned (.bool false) ∧ Below w.heap.size w w' := by
  obtain ⟨k, n, m, b, s, q⟩ := x
  obtain ⟨k', n', m', b', s', q'⟩ := y
  simp only at hk hne
  have h0 := Lib.hid (Bx2.start w ⟨k, n, m, b, s, q⟩ ⟨k', n', m', b', s', q'⟩)
  have ek := bne_yes hne
  by_cases h1 : k = 2 ∨ k = 3
  · have h2 : ¬ (k' = 2 ∨ k' = 3) := fun h => hk ⟨h1, h⟩
    have N1 := Lib.hid (numb (b := true) ⟨k, n, m, b, s, q⟩ rfl ⟨fun _ => rfl, fun _ => h1⟩)
    have N2 := Lib.hid (numb (b := false) ⟨k', n', m', b', s', q'⟩ rfl ⟨fun h => absurd h h2, fun h => by cases h⟩)
    clear h1 h2 hk hne
    go_enter Tryz.func83, Tryz.ntmps83
    go_wp2_with fail
    refine (N1.out _).mono ?_
    rintro e w1 ⟨rfl, hb1⟩
    have h1 := Lib.hid (h0.out.up hb1)
    obtain ⟨_, _, _, _, _, _, _, y0, y1, y2, y3, y4, y5⟩ := h1.out.s
    clear hb1 h0
    go_wp2_with fail
    refine (N2.out _).mono ?_
    rintro e w2 ⟨rfl, hb2⟩
    have h2 := Lib.hid (h1.out.up hb2)
    clear hb2 h1 y0 y1 y2 y3 y4 y5
    obtain ⟨_, x0, x1, x2, x3, x4, x5, y0, y1, y2, y3, y4, y5⟩ := h2.out.s
    have HL := Lib.hid h2.out.lo
    clear h2
    go_wp2
    go_ret
    exact ⟨rfl, HL.out⟩
  · have N1 := Lib.hid (numb (b := false) ⟨k, n, m, b, s, q⟩ rfl ⟨fun h => absurd h h1, fun h => by cases h⟩)
    clear h1 hk hne
    go_enter Tryz.func83, Tryz.ntmps83
    go_wp2_with fail
    refine (N1.out _).mono ?_
    rintro e w1 ⟨rfl, hb1⟩
    have h2 := Lib.hid (h0.out.up hb1)
    clear hb1 h0
    obtain ⟨_, x0, x1, x2, x3, x4, x5, y0, y1, y2, y3, y4, y5⟩ := h2.out.s
    have HL := Lib.hid h2.out.lo
    clear h2
    go_wp2
    go_ret
    exact ⟨rfl, HL.out⟩
end Go.Proofs.YtloloifngbmibaaGreatDoor
set_option linter.unusedVariables false
set_option linter.unusedSimpArgs false
set_option maxRecDepth 4000
namespace Go.Proofs.YtloloifngbmibaaGreatDoor
open Go.RowKit

/-- Two of one kind that has no kids to look at. -/
theorem equal_flat {EQ : Prop} (K : Int) (hK : K = 0 ∨ K = 1) (n n' : Bool) (m m' : Value) (b b' : Int) (s s' : ByteArray) (A A' : Option Addr) (c c' : Nat) (w : World) (hb : EQ → K = 1 → b = b') :
    Calls Tryz.prog 83 #[.agg #[.int .i64 K, .bool n, m, .int .u64 b, .string s, .slice A 0 c], .agg #[.int .i64 K, .bool n', m', .int .u64 b', .string s', .slice A' 0 c']] w fun e w' => ∃ r : Bool, e = .returned (.bool r) ∧ (EQ → r = true) ∧ Below w.heap.size w w' := by
  have N1 := Lib.hid (numb (k := K) (b := false) ⟨K, n, m, b, s, .slice A 0 c⟩ rfl ⟨fun h => by omega, fun h => by cases h⟩)
  have h0 := Lib.hid (Bx2.start w ⟨K, n, m, b, s, .slice A 0 c⟩ ⟨K, n', m', b', s', .slice A' 0 c'⟩)
  have HB := Lib.hid hb
  clear hb
  rcases hK with rfl | rfl
  · clear HB
    go_enter Tryz.func83, Tryz.ntmps83
    go_wp2_with fail
    refine (N1.out _).mono ?_
    rintro e w1 ⟨rfl, hb1⟩
    have h2 := Lib.hid (h0.out.up hb1)
    clear hb1 h0
    obtain ⟨_, x0, x1, x2, x3, x4, x5, y0, y1, y2, y3, y4, y5⟩ := h2.out.s
    have HL := Lib.hid h2.out.lo
    clear h2
    go_wp2
    go_ret
    first | exact ⟨_, rfl, fun _ => rfl, HL.out⟩ | exact ⟨⟨_, rfl⟩, HL.out⟩
  · by_cases he : b = b'
    · subst he
      go_enter Tryz.func83, Tryz.ntmps83
      go_wp2_with fail
      refine (N1.out _).mono ?_
      rintro e w1 ⟨rfl, hb1⟩
      have h2 := Lib.hid (h0.out.up hb1)
      clear hb1 h0
      obtain ⟨_, x0, x1, x2, x3, x4, x5, y0, y1, y2, y3, y4, y5⟩ := h2.out.s
      have HL := Lib.hid h2.out.lo
      clear h2
      go_wp2
      go_ret
      exact ⟨_, rfl, fun _ => rfl, HL.out⟩
    · have eb := beq_no he
      go_enter Tryz.func83, Tryz.ntmps83
      go_wp2_with fail
      refine (N1.out _).mono ?_
      rintro e w1 ⟨rfl, hb1⟩
      have h2 := Lib.hid (h0.out.up hb1)
      clear hb1 h0
      obtain ⟨_, x0, x1, x2, x3, x4, x5, y0, y1, y2, y3, y4, y5⟩ := h2.out.s
      have HL := Lib.hid h2.out.lo
      have HE := Lib.hid he
      clear h2 he
      go_wp2
      go_ret
      exact ⟨_, rfl, fun h => absurd (HB.out h (by first | rfl | trivial)) HE.out, HL.out⟩

/-- Two lengths. -/
theorem equal_len (K : Int) (hK : ¬ (K = 2 ∨ K = 3)) (n n' : Bool) (m m' : Value) (b b' : Int) (s s' : ByteArray) (A A' : Option Addr) (l l' c c' : Nat) (hne : l ≠ l') (w : World) :
    Calls Tryz.prog 83 #[.agg #[.int .i64 K, .bool n, m, .int .u64 b, .string s, .slice A l c], .agg #[.int .i64 K, .bool n', m', .int .u64 b', .string s', .slice A' l' c']] w fun e w' => e = .returned (.bool false) ∧ Below w.heap.size w w' := by
  have N1 := Lib.hid (numb (k := K) (b := false) ⟨K, n, m, b, s, .slice A l c⟩ rfl ⟨fun h => absurd h hK, fun h => by cases h⟩)
  have h0 := Lib.hid (Bx2.start w ⟨K, n, m, b, s, .slice A l c⟩ ⟨K, n', m', b', s', .slice A' l' c'⟩)
  have en : ((l : Int) != (l' : Int)) = true := bne_yes (by omega)
  clear hne hK
  go_enter Tryz.func83, Tryz.ntmps83
  go_wp2_with fail
  refine (N1.out _).mono ?_
  rintro e w1 ⟨rfl, hb1⟩
  have h2 := Lib.hid (h0.out.up hb1)
  clear hb1 h0
  obtain ⟨_, x0, x1, x2, x3, x4, x5, y0, y1, y2, y3, y4, y5⟩ := h2.out.s
  have HL := Lib.hid h2.out.lo
  clear h2
  go_wp2
  go_ret
  exact ⟨rfl, HL.out⟩

/-- Two of one kind, kid by kid. -/
theorem equal_kids {EQ : Prop} {P : Nat → Prop} (K : Int) (hK : K = 4 ∨ K = 5 ∨ K = 7) (n n' : Bool) (m m' : Value) (b b' : Int) (s s' : ByteArray) (A A' : Option Addr) (l c c' : Nat) (hl : l ≤ 1000) (w : World)
    (hs : EQ → s = s') (hP : EQ → ∀ i, i < l → P i)
    (HK : ∀ i, i < l → ∀ W, Below w.heap.size w W → ∃ u v : Vc, KidAt W A i u ∧ KidAt W A' i v ∧ Calls Tryz.prog 83 #[u.agg, v.agg] W fun e w' => ∃ r : Bool, e = .returned (.bool r) ∧ (P i → r = true) ∧ Below W.heap.size W w') :
    Calls Tryz.prog 83 #[.agg #[.int .i64 K, .bool n, m, .int .u64 b, .string s, .slice A l c], .agg #[.int .i64 K, .bool n', m', .int .u64 b', .string s', .slice A' l c']] w fun e w' => ∃ r : Bool, e = .returned (.bool r) ∧ (EQ → r = true) ∧ Below w.heap.size w w' := by
  have N1 := Lib.hid (numb (k := K) (b := false) ⟨K, n, m, b, s, .slice A l c⟩ rfl ⟨fun h => by omega, fun h => by cases h⟩)
  have h0 := Lib.hid (Bx2.start w ⟨K, n, m, b, s, .slice A l c⟩ ⟨K, n', m', b', s', .slice A' l c'⟩)
  have k0 := beq_no (show ¬ K = 0 by omega)
  have k1 := beq_no (show ¬ K = 1 by omega)
  have k8 := beq_no (show ¬ K = 8 by omega)
  have k9 := beq_no (show ¬ K = 9 by omega)
  have HS := Lib.hid (And.intro hs hP)
  have HH := Lib.hid HK
  clear hs hP HK hK
  go_enter Tryz.func83, Tryz.ntmps83
  go_wp2_with fail
  refine (N1.out _).mono ?_
  rintro e w1 ⟨rfl, hb1⟩
  have h2 := Lib.hid (h0.out.up hb1)
  clear hb1 h0
  obtain ⟨_, x0, x1, x2, x3, x4, x5, y0, y1, y2, y3, y4, y5⟩ := h2.out.s
  go_wp2
  clear x0 x1 x2 x3 x4 x5 y0 y1 y2 y3 y4 y5 k0 k1 k8 k9
  go_loopw [7] (fun iv wr => ∃ (i : Nat), iv = .int .i64 i ∧ i ≤ l ∧ Hid (Bx2 w ⟨K, n, m, b, s, .slice A l c⟩ ⟨K, n', m', b', s', .slice A' l c'⟩ wr)) (fun iv _ => l - (intOf iv).toNat)
  case atStart => exact ⟨0, rfl, Nat.zero_le _, h2⟩
  case round =>
    obtain ⟨i, rfl, hi, hB⟩ := hrel
    by_cases hlt : i < l
    · obtain ⟨u, v, ⟨b1, o1, rfl, hu⟩, ⟨b2, o2, rfl, hv⟩, hc⟩ := HH.out i hlt wr.drew hB.out.lo.drew
      have HC := Lib.hid hc
      have HME := Lib.hid (ms_lt hlt)
      have w1k := Lib.hid (wr_suc i (Nat.le_trans hi (Nat.le_trans hl (by decide))))
      have HS6 := Lib.hid (show Bx2S w K n m b s (.slice (some ⟨b1, o1, none⟩) l c) K n' m' b' s' (.slice (some ⟨b2, o2, none⟩) l c') wr.drew ∧ Six wr.drew b1 (o1 + i * 6) u ∧ Six wr.drew b2 (o2 + i * 6) v from ⟨hB.out.drew.s, hu, hv⟩)
      obtain ⟨_, x0, x1, x2, x3, x4, x5, y0, y1, y2, y3, y4, y5⟩ := hB.out.s
      clear hc hu hv
      have HPi := Lib.hid (fun h => HS.out.2 h i hlt)
      have HSI := Lib.hid (Nat.succ_le_of_lt hlt)
      clear h2 N1
      go_wp2_with fail
      go_region_held3 (fun W => Bx2S w K n m b s (.slice (some ⟨b1, o1, none⟩) l c) K n' m' b' s' (.slice (some ⟨b2, o2, none⟩) l c') W ∧ Six W b1 (o1 + i * 6) u ∧ Six W b2 (o2 + i * 6) v)
        (first | assumption | exact HS6.out | exact ⟨(HS6.out.1.1.up ‹Below _ _ _›).s, HS6.out.2.1.up ‹Below _ _ _›, HS6.out.2.2.up ‹Below _ _ _›⟩)
        (first
          | (go_at_call 83; (with_reducible refine HC.out.mono ?_); rintro e w2 ⟨r, rfl, hr, hb2⟩))
      have hB2 := Lib.hid (hB.out.drew.up hb2)
      have HR := Lib.hid hr
      have HL2 := Lib.hid hB2.out.lo
      clear hb2 hr HS6 hB HC x0 x1 x2 x3 x4 x5 y0 y1 y2 y3 y4 y5 HH
      cases r with
      | true =>
        go_wp2
        go_roundw
        case rel => exact ⟨i + 1, by first | rfl | (rw [w1k.out]; rfl), HSI.out, hB2⟩
        case measure => first | exact HME.out | (rw [w1k.out]; exact HME.out)
      | false =>
        go_wp2
        go_ret
        exact ⟨_, rfl, fun h => by have := HR.out (HPi.out h); simp at this, HL2.out⟩
    · obtain ⟨_, x0, x1, x2, x3, x4, x5, y0, y1, y2, y3, y4, y5⟩ := hB.out.s
      have HL2 := Lib.hid hB.out.lo
      clear hB h2 N1 HH
      by_cases he : s = s'
      · subst he
        go_wp2
        go_ret
        first | exact ⟨_, rfl, fun _ => by simp, HL2.out⟩ | exact .inr ⟨rfl, HL2.out⟩
      · have HE := Lib.hid he
        have es : decide (s = s') = false := decide_eq_false he
        clear he
        go_wp2
        go_ret
        first | exact ⟨_, rfl, fun h => absurd (HS.out.1 h) HE.out, HL2.out⟩ | exact .inl ⟨rfl, fun h => absurd (HS.out.1 h) HE.out, HL2.out⟩
end Go.Proofs.YtloloifngbmibaaGreatDoor
