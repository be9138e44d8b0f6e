/- The law's toldVal; Size. The law's helpers: asIntBits, zzFits1; Same of ints; AsInt of all kinds in one. -/
import Derived.Test.YtloloifngbmibaaGreatDoorM40
import Derived.Test.YtloloifngbmibaaGreatDoorM46
import Derived.Test.YtloloifngbmibaaGreatDoorM20
set_option linter.unusedVariables false
set_option linter.unusedSimpArgs false
set_option maxRecDepth 4000
set_option maxHeartbeats 400000
namespace Go.Proofs.YtloloifngbmibaaGreatDoor
open Go.RowKit

theorem size_any : ∀ (d : Nat) (t : Tr) (x : Vc) (most : Int) (w : World), HV (d + 1) t x w → Good d t →
    Calls Tryz.prog 21 #[x.agg, .int .i64 most] w fun e w' => ∃ r, e = .returned (.int .i64 r) ∧ Below w.heap.size w w' := by
  intro d
  induction d with
  | zero =>
    intro t x most w h g
    obtain ⟨A, c, hq, hc, _⟩ := h.kids
    obtain ⟨k, n, m, b, s, q⟩ := x
    subst hq
    exact size_core A _ c k n m b s most w (by have := g.head.kl; omega) (fun i hi => by rw [g.2.2] at hi; simp at hi)
  | succ d ih =>
    intro t x most w h g
    obtain ⟨A, c, hq, hc, hk⟩ := h.kids
    obtain ⟨k, n, m, b, s, q⟩ := x
    subst hq
    refine size_core A _ c k n m b s most w (by have := g.head.kl; omega) (fun i hi W hW => ?_)
    obtain ⟨y, u, hu, hy, hb⟩ := (hk.up hW).at_ hi
    exact ⟨y, hb, fun most' => ih u y most' W hy (g.2.2.1 u (List.mem_of_getElem? hu))⟩

theorem RbS.put {w : World} {x y : Vc} {W : World} (h : RbS w x W) : RbS w y ((((((W.setCell ⟨w.heap.size, 0, none⟩ (.int .i64 y.k)).setCell ⟨w.heap.size, 1, none⟩ (.bool y.n)).setCell ⟨w.heap.size, 2, none⟩ y.m).setCell ⟨w.heap.size, 3, none⟩ (.int .u64 y.b)).setCell ⟨w.heap.size, 4, none⟩ (.string y.s)).setCell ⟨w.heap.size, 5, none⟩ y.q) := by
  have hne : w.heap.size + 1 ≠ w.heap.size := Nat.succ_ne_self _
  exact ⟨low6 h.lo w.heap.size (Nat.le_refl _) _ _ _ _ _ _, set6 h.bx _ _ _ _ _ _, (((((h.rs.far hne _).far hne _).far hne _).far hne _).far hne _).far hne _⟩

/-- What toldVal hands back. -/
def ToldOut (w : World) (e : Ending) (w' : World) : Prop := ∃ t y, e = .returned (Vc.agg y) ∧ Good 3 t ∧ MakeT 3 t ∧ HVB w.heap.size 4 t y w' ∧ Below w.heap.size w w'

def txtT : Tr := ⟨4, false, [], 0, ⟨#[120]⟩, []⟩
theorem txt_good : Good 3 txtT := good_leaf (t := txtT) ⟨⟨by decide, by decide⟩, ByL.nil, Nat.zero_le _, .inl rfl, (fun h => by have h : false = true := h; cases h), ⟨by decide, by decide⟩, (fun h => absurd (show (4 : Int) = 1 from h) (by decide)), (by decide), (fun h => absurd rfl h), Nat.zero_le _⟩ (by decide) rfl 3
theorem txt_make : MakeT 3 txtT := ⟨(fun u hu => by have hu : u ∈ ([] : List Tr) := hu; cases hu), (fun h => absurd (show (4 : Int) = 8 from h) (by decide)), (fun h => absurd (show (4 : Int) = 9 from h) (by decide))⟩
theorem txt_is (B : Nat) (W : World) : HVB B 4 txtT ⟨4, false, .slice none 0 0, 0, ⟨#[120]⟩, .slice none 0 0⟩ W :=
  leaf_up (leafV (SlV.nil W (fun _ => False) .u8) 0 ⟨#[120]⟩ false (fun _ h => h.elim)) rfl

theorem told_any {t : Tr} {x : Vc} {w : World} (h : HV 3 t x w) (g : InT 3 t) : Calls Tryz.prog 6 #[x.agg] w (ToldOut w) := by
  have e0 : ∃ (k : Int) (n : Bool) (A : Option Addr) (l c : Nat) (b : Int) (s : ByteArray) (A' : Option Addr) (l' c' : Nat), x = ⟨k, n, .slice A l c, b, s, .slice A' l' c'⟩ := by
    obtain ⟨S, h1, _⟩ := h
    obtain ⟨A', nq, cq, hq, _⟩ := h1.kidsV
    obtain ⟨_, _, _, _, A, cm, em, _⟩ := h1.head
    obtain ⟨k, n, m, b, s, q⟩ := x
    simp only at em hq
    subst em hq
    exact ⟨_, _, _, _, _, _, _, _, _, _, rfl⟩
  obtain ⟨k, n, A, l, c, b, s, A', l', c', rfl⟩ := e0
  have H0 := Lib.hid (RbS.start w ⟨k, n, .slice A l c, b, s, .slice A' l' c'⟩)
  have HC := clean_any 3 (by decide) (h.up H0.out.lo) g
  rw [show ((3 : Nat) : Int) = 3 from rfl] at HC
  dsimp only [Vc.agg] at HC
  replace HC := Lib.hid HC
  clear h g
  go_enter Tryz.func6, Tryz.ntmps6
  go_wp2_with fail
  refine (HC.out).mono ?_
  rintro e w1 ⟨t, y, rfl, hg, hV, hb1⟩
  obtain ⟨kx, nx, A1, l1, c1, bt1, sx, A1', l1', c1', rfl⟩ := hV.shape
  have H1 := Lib.hid (H0.out.up hb1)
  clear HC H0 hb1
  have HB : Hid (HVB (w.heap.size + 2) 4 t _ w1) := Lib.hid (hV.low (fun k hk => by simpa [Okb] using hk))
  have HG := Lib.hid hg
  clear hg hV
  have j0 := H1.out.bx.cell 0
  have j1 := H1.out.bx.cell 1
  have j2 := H1.out.bx.cell 2
  have j3 := H1.out.bx.cell 3
  have j4 := H1.out.bx.cell 4
  have j5 := H1.out.bx.cell 5
  have y0 := H1.out.bx.frozen 0
  have y1 := H1.out.bx.frozen 1
  have y2 := H1.out.bx.frozen 2
  have y3 := H1.out.bx.frozen 3
  have y4 := H1.out.bx.frozen 4
  have y5 := H1.out.bx.frozen 5
  simp at j0 j1 j2 j3 j4 j5
  have H2 := Lib.hid (H1.out.put (y := ⟨kx, nx, .slice A1 l1 c1, bt1, sx, .slice A1' l1' c1'⟩))
  have H3 := Lib.hid (HB.out.set6 (g := w.heap.size) (Nat.zero_le _) (Nat.lt_add_of_pos_right (by decide)) (.int .i64 kx) (.bool nx) (.slice A1 l1 c1) (.int .u64 bt1) (.string sx) (.slice A1' l1' c1'))
  clear H1 HB
  go_wp2_with fail
  refine (makes_any 3 H3.out.hv HG.out).mono ?_
  rintro e w2 ⟨r, rfl, hr, hb2⟩
  have H4 := Lib.hid (H2.out.up hb2)
  have H5 := Lib.hid (H3.out.up hb2)
  have HR : Hid (r = true → MakeT 3 t) := Lib.hid hr
  clear H2 H3 hb2 hr y0 y1 y2 y3 y4 y5 j0 j1 j2 j3 j4 j5
  have j0 := H4.out.bx.cell 0
  have j1 := H4.out.bx.cell 1
  have j2 := H4.out.bx.cell 2
  have j3 := H4.out.bx.cell 3
  have j4 := H4.out.bx.cell 4
  have j5 := H4.out.bx.cell 5
  simp at j0 j1 j2 j3 j4 j5
  have HTX : ∀ W, RbS w ⟨kx, nx, .slice A1 l1 c1, bt1, sx, .slice A1' l1' c1'⟩ W → Hid (Calls Tryz.prog 22 #[.string ⟨#[120]⟩] W fun e w' => e = .returned (Vc.agg ⟨4, false, .slice none 0 0, 0, ⟨#[120]⟩, .slice none 0 0⟩) ∧ RbS w ⟨kx, nx, .slice A1 l1 c1, bt1, sx, .slice A1' l1' c1'⟩ w') := fun W hW => Lib.hid ((textVal_v ⟨#[120]⟩ W).mono (fun e w' h => ⟨h.1, hW.up h.2⟩))
  cases r
  · go_wp2_with fail
    refine (HTX _ H4.out).out.mono ?_
    rintro e w3 ⟨rfl, h6⟩
    have HM := Lib.hid h6
    have lo := h6
    clear h6 H4 H5 HTX j0 j1 j2 j3 j4 j5 HR
    have k0 := HM.out.rs.cell 0
    have k1 := HM.out.rs.cell 1
    have k2 := HM.out.rs.cell 2
    have k3 := HM.out.rs.cell 3
    have k4 := HM.out.rs.cell 4
    have k5 := HM.out.rs.cell 5
    have z0 := HM.out.rs.frozen 0
    have z1 := HM.out.rs.frozen 1
    have z2 := HM.out.rs.frozen 2
    have z3 := HM.out.rs.frozen 3
    have z4 := HM.out.rs.frozen 4
    have z5 := HM.out.rs.frozen 5
    have lr := HM.out.rs.lt
    simp at k0 k1 k2 k3 k4 k5
    have HF := Lib.hid (set6 HM.out.rs (.int .i64 4) (.bool false) (.slice none 0 0) (.int .u64 0) (.string ⟨#[120]⟩) (.slice none 0 0))
    have HL := Lib.hid (low6 HM.out.lo (w.heap.size + 1) (Nat.le_add_right _ _) (.int .i64 4) (.bool false) (.slice none 0 0) (.int .u64 0) (.string ⟨#[120]⟩) (.slice none 0 0))
    clear HM lo HG
    go_wp2
    clear k0 k1 k2 k3 k4 k5
    have q0 := HF.out.cell 0
    have q1 := HF.out.cell 1
    have q2 := HF.out.cell 2
    have q3 := HF.out.cell 3
    have q4 := HF.out.cell 4
    have q5 := HF.out.cell 5
    simp at q0 q1 q2 q3 q4 q5
    exact bodyPost_ret (v := Vc.agg ⟨4, false, .slice none 0 0, 0, ⟨#[120]⟩, .slice none 0 0⟩) (by simp [results, Tryz.results6, go_sem, q0, q1, q2, q3, q4, q5]) rfl ⟨txtT, _, rfl, txt_good, txt_make, txt_is _ _, HL.out⟩
  · go_wp2_with fail
    refine (size_any 3 t _ 60 _ H5.out.hv HG.out).mono ?_
    rintro e w3 ⟨r, rfl, hb3⟩
    have H6 := Lib.hid (H4.out.up hb3)
    have H7 := Lib.hid (H5.out.up hb3)
    clear hb3 H4 H5 j0 j1 j2 j3 j4 j5
    have j0 := H6.out.bx.cell 0
    have j1 := H6.out.bx.cell 1
    have j2 := H6.out.bx.cell 2
    have j3 := H6.out.bx.cell 3
    have j4 := H6.out.bx.cell 4
    have j5 := H6.out.bx.cell 5
    simp at j0 j1 j2 j3 j4 j5
    by_cases hr : r ≥ 60
    · go_wp2_with fail
      refine (HTX _ H6.out).out.mono ?_
      rintro e w3 ⟨rfl, h6⟩
      have HM := Lib.hid h6
      have lo := h6
      clear h6 H6 H7 HTX j0 j1 j2 j3 j4 j5 HR
      have k0 := HM.out.rs.cell 0
      have k1 := HM.out.rs.cell 1
      have k2 := HM.out.rs.cell 2
      have k3 := HM.out.rs.cell 3
      have k4 := HM.out.rs.cell 4
      have k5 := HM.out.rs.cell 5
      have z0 := HM.out.rs.frozen 0
      have z1 := HM.out.rs.frozen 1
      have z2 := HM.out.rs.frozen 2
      have z3 := HM.out.rs.frozen 3
      have z4 := HM.out.rs.frozen 4
      have z5 := HM.out.rs.frozen 5
      have lr := HM.out.rs.lt
      simp at k0 k1 k2 k3 k4 k5
      have HF := Lib.hid (set6 HM.out.rs (.int .i64 4) (.bool false) (.slice none 0 0) (.int .u64 0) (.string ⟨#[120]⟩) (.slice none 0 0))
      have HL := Lib.hid (low6 HM.out.lo (w.heap.size + 1) (Nat.le_add_right _ _) (.int .i64 4) (.bool false) (.slice none 0 0) (.int .u64 0) (.string ⟨#[120]⟩) (.slice none 0 0))
      clear HM lo HG
      go_wp2
      clear k0 k1 k2 k3 k4 k5
      have q0 := HF.out.cell 0
      have q1 := HF.out.cell 1
      have q2 := HF.out.cell 2
      have q3 := HF.out.cell 3
      have q4 := HF.out.cell 4
      have q5 := HF.out.cell 5
      simp at q0 q1 q2 q3 q4 q5
      exact bodyPost_ret (v := Vc.agg ⟨4, false, .slice none 0 0, 0, ⟨#[120]⟩, .slice none 0 0⟩) (by simp [results, Tryz.results6, go_sem, q0, q1, q2, q3, q4, q5]) rfl ⟨txtT, _, rfl, txt_good, txt_make, txt_is _ _, HL.out⟩
    · have HM := H6
      clear H6 HTX
      have k0 := HM.out.rs.cell 0
      have k1 := HM.out.rs.cell 1
      have k2 := HM.out.rs.cell 2
      have k3 := HM.out.rs.cell 3
      have k4 := HM.out.rs.cell 4
      have k5 := HM.out.rs.cell 5
      have z0 := HM.out.rs.frozen 0
      have z1 := HM.out.rs.frozen 1
      have z2 := HM.out.rs.frozen 2
      have z3 := HM.out.rs.frozen 3
      have z4 := HM.out.rs.frozen 4
      have z5 := HM.out.rs.frozen 5
      have lr := HM.out.rs.lt
      simp at k0 k1 k2 k3 k4 k5
      go_wp2
      have HF := Lib.hid (set6 HM.out.rs (.int .i64 kx) (.bool nx) (.slice A1 l1 c1) (.int .u64 bt1) (.string sx) (.slice A1' l1' c1'))
      have HL := Lib.hid (low6 HM.out.lo (w.heap.size + 1) (Nat.le_add_right _ _) (.int .i64 kx) (.bool nx) (.slice A1 l1 c1) (.int .u64 bt1) (.string sx) (.slice A1' l1' c1'))
      clear k0 k1 k2 k3 k4 k5
      have q0 := HF.out.cell 0
      have q1 := HF.out.cell 1
      have q2 := HF.out.cell 2
      have q3 := HF.out.cell 3
      have q4 := HF.out.cell 4
      have q5 := HF.out.cell 5
      simp at q0 q1 q2 q3 q4 q5
      exact bodyPost_ret (v := Vc.agg ⟨kx, nx, .slice A1 l1 c1, bt1, sx, .slice A1' l1' c1'⟩) (by simp [results, Tryz.results6, go_sem, q0, q1, q2, q3, q4, q5]) rfl ⟨t, _, rfl, HG.out, HR.out trivial, (H7.out.set6 (g := w.heap.size + 1) (Nat.zero_le _) (Nat.lt_succ_self _) _ _ _ _ _ _).low (fun k hk => hk.elim .inl (fun h => .inr (Nat.le_trans (Nat.le_add_right _ _) h))), HL.out⟩
end Go.Proofs.YtloloifngbmibaaGreatDoor
set_option linter.unusedVariables false
set_option linter.unusedSimpArgs false
set_option maxRecDepth 4000
namespace Go.Proofs.YtloloifngbmibaaGreatDoor
open Go.RowKit

theorem same_num (S S' : Nat → Prop) (neg : Bool) (v v' : Value) (l : List Int) (bt : Int) (qa : Option Addr) (qc : Nat) (hn : l.length ≤ 140737488355328) (w : World) (h : SlV w S .u8 v l) (h' : SlV w S' .u8 v' l) (hS : ∀ k, S k → k < w.heap.size) (hS' : ∀ k, S' k → k < w.heap.size) :
    Calls Tryz.prog 14 #[.agg #[.int .i64 2, .bool neg, v, .int .u64 0, .string { data := #[] }, .slice none 0 0], .agg #[.int .i64 2, .bool neg, v', .int .u64 bt, .string { data := #[] }, .slice qa 0 qc]] w fun e w' => e = .returned (.bool true) ∧ Below w.heap.size w w' := by
  have HX : Hid (∀ W : World, Below w.heap.size w W → Calls Tryz.prog 11 #[.agg #[.int .i64 2, .bool neg, v, .int .u64 0, .string { data := #[] }, .slice none 0 0]] W fun e w' => ∃ v', e = .returned v' ∧ HSp v' (sgn2 neg (strip l)) (strip l) w' ∧ Below W.heap.size W w') :=
    fun W hW => (num_any S 2 neg v l 0 _ _ rfl hn W (h.keep (still_below hW hS)) (fun k hk => Nat.lt_of_lt_of_le (hS k hk) hW.size)).mono fun e w' ⟨v', he, hs, hb⟩ => ⟨v', he, ⟨_, hs, fun k hk => hk.2⟩, hb⟩
  have HY : Hid (∀ W : World, Below w.heap.size w W → Calls Tryz.prog 11 #[.agg #[.int .i64 2, .bool neg, v', .int .u64 bt, .string { data := #[] }, .slice qa 0 qc]] W fun e w' => ∃ v', e = .returned v' ∧ HSp v' (sgn2 neg (strip l)) (strip l) w' ∧ Below W.heap.size W w') :=
    fun W hW => (num_any S' 2 neg v' l bt _ _ rfl hn W (h'.keep (still_below hW hS')) (fun k hk => Nat.lt_of_lt_of_le (hS' k hk) hW.size)).mono fun e w' ⟨v', he, hs, hb⟩ => ⟨v', he, ⟨_, hs, fun k hk => hk.2⟩, hb⟩
  obtain ⟨A, c, rfl, _, _⟩ := h
  obtain ⟨A', c', rfl, _, _⟩ := h'
  have hc0 : cmpI (sgn2 neg (strip l)) (strip l) (sgn2 neg (strip l)) (strip l) = 0 := by
    simp [cmpI, ordL_self]
  have e0 := beq_yes hc0
  have hsl : (strip l).length ≤ 9223372036854775807 := by
    have : (strip l).length ≤ l.length := by simp [strip]
    omega
  have HSL := Lib.hid hsl
  have e1 : (neg == neg) = true := by cases neg <;> rfl
  have h0 : Hid (Kin2 w _ _ _ _ _ _ _ _ _ _ _ _ _) := Kin2.at_ (w := w) (t := 26) (x0 := .int .i64 2) (x1 := .bool neg) (x2 := .slice A l.length c) (x3 := .int .u64 0) (x4 := .string { data := #[] }) (x5 := .slice none 0 0) (y0 := .int .i64 2) (y1 := .bool neg) (y2 := .slice A' l.length c') (y3 := .int .u64 bt) (y4 := .string { data := #[] }) (y5 := .slice qa 0 qc)
  have hstep := Lib.hid (fun W W' hb h => Kin2.up (w := w) (W := W) (W' := W') (x0 := .int .i64 2) (x1 := .bool neg) (x2 := .slice A l.length c) (x3 := .int .u64 0) (x4 := .string { data := #[] }) (x5 := .slice none 0 0) (y0 := .int .i64 2) (y1 := .bool neg) (y2 := .slice A' l.length c') (y3 := .int .u64 bt) (y4 := .string { data := #[] }) (y5 := .slice qa 0 qc) hb h)
  clear hc0 hsl hS hS' hn
  go_enter Tryz.func14, Tryz.ntmps14
  go_wp2
  go_region_held3 (fun W => Below w.heap.size w W ∧ W.cell? ⟨w.heap.size, 0, none⟩ = some (.int .i64 2) ∧ W.cell? ⟨w.heap.size, 1, none⟩ = some (.bool neg) ∧ W.cell? ⟨w.heap.size, 2, none⟩ = some (.slice A l.length c) ∧ W.cell? ⟨w.heap.size, 3, none⟩ = some (.int .u64 0) ∧ W.cell? ⟨w.heap.size, 4, none⟩ = some (.string { data := #[] }) ∧ W.cell? ⟨w.heap.size, 5, none⟩ = some (.slice none 0 0) ∧
      W.cell? ⟨w.heap.size + 1, 0, none⟩ = some (.int .i64 2) ∧ W.cell? ⟨w.heap.size + 1, 1, none⟩ = some (.bool neg) ∧ W.cell? ⟨w.heap.size + 1, 2, none⟩ = some (.slice A' l.length c') ∧ W.cell? ⟨w.heap.size + 1, 3, none⟩ = some (.int .u64 bt) ∧ W.cell? ⟨w.heap.size + 1, 4, none⟩ = some (.string { data := #[] }) ∧ W.cell? ⟨w.heap.size + 1, 5, none⟩ = some (.slice qa 0 qc))
    (first | exact h0.out | exact hstep.out _ _ ‹Below _ _ _› h0.out | exact hstep.out _ _ ‹Below _ _ _› (by assumption))
    (first
      | (go_at_call 11; (with_reducible refine (HX.out _ ?_).mono ?_); (first | exact h0.out.1 | exact (‹Below w.heap.size w _ ∧ _›).1); rintro e w' ⟨v1, rfl, hv, hb⟩)
      | (go_at_call 11; (with_reducible refine (HY.out _ ?_).mono ?_); (first | exact h0.out.1 | exact (‹Below w.heap.size w _ ∧ _›).1); rintro e w' ⟨v1, rfl, hv, hb⟩)
      | (go_at_call 12; refine (cmp_held (n1 := sgn2 neg (strip l)) (n2 := sgn2 neg (strip l)) (a := strip l) (b := strip l) HSL.out HSL.out (HSp.up ‹Below _ _ _› ‹HSp _ _ _ _›) ‹HSp _ _ _ _›).mono ?_; rintro e w' ⟨rfl, hb⟩))
  obtain ⟨hB, _⟩ := ‹Below w.heap.size w _ ∧ _›
  clear h0 hstep HX HY
  go_wp2
  go_ret
  exact ⟨rfl, hB⟩

/-- The bits of a kind. -/
def bitsK (k : Nat) : Nat := match k with
  | 0 => 64 | 1 => 8 | 2 => 16 | 3 => 32 | 4 => 64 | 5 => 64 | 6 => 8 | 7 => 16 | 8 => 32 | _ => 64
def loK (k : Nat) : Int := if k < 5 then -(2 ^ (bitsK k - 1)) else 0
def hiK (k : Nat) : Int := if k < 5 then 2 ^ (bitsK k - 1) else 2 ^ bitsK k
theorem NowOut.imp {P Q : Prop} (hpq : P ↔ Q) {x : Int} {w w' : World} {e : Ending} (h : NowOut P x w e w') : NowOut Q x w e w' := by
  obtain ⟨y, A, c, ok, h1, h2, h3, h4, h5⟩ := h
  exact ⟨y, A, c, ok, h1, h2, h3.trans hpq, fun hq => h4 (hpq.2 hq), h5⟩
theorem asInt_all {t : Tr} {x : Vc} {w : World} (h : HV 4 t x w) (g : Good 3 t) (m : MakeT 3 t) (hG : GL w) (bf : Int) (hb0 : 0 ≤ bf) (hb1 : bf < 256) (k : Nat) (hk : k < 11) :
    Calls Tryz.prog 13 #[x.agg, .int .i64 (k : Int), .int .u8 bf] w (NowOut (t.k = 2 ∧ loK k ≤ iv t.neg t.mag ∧ iv t.neg t.mag < hiK k) (iv t.neg t.mag) w) := by
  have hcase : k = 0 ∨ k = 1 ∨ k = 2 ∨ k = 3 ∨ k = 4 ∨ k = 5 ∨ k = 6 ∨ k = 7 ∨ k = 8 ∨ k = 9 ∨ k = 10 := by omega
  rcases hcase with rfl | rfl | rfl | rfl | rfl | rfl | rfl | rfl | rfl | rfl | rfl
  · exact (asK_int h g m hG bf hb0 hb1).mono (fun e w' h => h.imp (by rw [show loK 0 = -9223372036854775808 from by decide, show hiK 0 = 9223372036854775808 from by decide]; constructor <;> (rintro ⟨h1, h2, h3⟩; exact ⟨h1, h2, by omega⟩)))
  · exact (asK_int8 h g m hG bf hb0 hb1).mono (fun e w' h => h.imp (by rw [show loK 1 = -128 from by decide, show hiK 1 = 128 from by decide]; constructor <;> (rintro ⟨h1, h2, h3⟩; exact ⟨h1, h2, by omega⟩)))
  · exact (asK_int16 h g m hG bf hb0 hb1).mono (fun e w' h => h.imp (by rw [show loK 2 = -32768 from by decide, show hiK 2 = 32768 from by decide]; constructor <;> (rintro ⟨h1, h2, h3⟩; exact ⟨h1, h2, by omega⟩)))
  · exact (asK_int32 h g m hG bf hb0 hb1).mono (fun e w' h => h.imp (by rw [show loK 3 = -2147483648 from by decide, show hiK 3 = 2147483648 from by decide]; constructor <;> (rintro ⟨h1, h2, h3⟩; exact ⟨h1, h2, by omega⟩)))
  · exact (asK_int64 h g m hG bf hb0 hb1).mono (fun e w' h => h.imp (by rw [show loK 4 = -9223372036854775808 from by decide, show hiK 4 = 9223372036854775808 from by decide]; constructor <;> (rintro ⟨h1, h2, h3⟩; exact ⟨h1, h2, by omega⟩)))
  · exact (asK_uint h g m hG bf hb0 hb1).mono (fun e w' h => h.imp (by rw [show loK 5 = 0 from by decide, show hiK 5 = 18446744073709551616 from by decide]; constructor <;> (rintro ⟨h1, h2, h3⟩; exact ⟨h1, h2, by omega⟩)))
  · exact (asK_uint8 h g m hG bf hb0 hb1).mono (fun e w' h => h.imp (by rw [show loK 6 = 0 from by decide, show hiK 6 = 256 from by decide]; constructor <;> (rintro ⟨h1, h2, h3⟩; exact ⟨h1, h2, by omega⟩)))
  · exact (asK_uint16 h g m hG bf hb0 hb1).mono (fun e w' h => h.imp (by rw [show loK 7 = 0 from by decide, show hiK 7 = 65536 from by decide]; constructor <;> (rintro ⟨h1, h2, h3⟩; exact ⟨h1, h2, by omega⟩)))
  · exact (asK_uint32 h g m hG bf hb0 hb1).mono (fun e w' h => h.imp (by rw [show loK 8 = 0 from by decide, show hiK 8 = 4294967296 from by decide]; constructor <;> (rintro ⟨h1, h2, h3⟩; exact ⟨h1, h2, by omega⟩)))
  · exact (asK_uint64 h g m hG bf hb0 hb1).mono (fun e w' h => h.imp (by rw [show loK 9 = 0 from by decide, show hiK 9 = 18446744073709551616 from by decide]; constructor <;> (rintro ⟨h1, h2, h3⟩; exact ⟨h1, h2, by omega⟩)))
  · exact (asK_uintptr h g m hG bf hb0 hb1).mono (fun e w' h => h.imp (by rw [show loK 10 = 0 from by decide, show hiK 10 = 18446744073709551616 from by decide]; constructor <;> (rintro ⟨h1, h2, h3⟩; exact ⟨h1, h2, by omega⟩)))

theorem aib_0 (w : World) : Calls Tryz.prog 7 #[.int .i64 0] w fun e w' => e = .returned (.tuple #[.int .i64 64, .bool true]) ∧ Below w.heap.size w w' := by
  go_enter Tryz.func7, Tryz.ntmps7
  go_wp2
  go_ret2
  exact ⟨rfl, below_al (Below.refl _ _) _⟩
theorem aib_1 (w : World) : Calls Tryz.prog 7 #[.int .i64 1] w fun e w' => e = .returned (.tuple #[.int .i64 8, .bool true]) ∧ Below w.heap.size w w' := by
  go_enter Tryz.func7, Tryz.ntmps7
  go_wp2
  go_ret2
  exact ⟨rfl, below_al (Below.refl _ _) _⟩
theorem aib_2 (w : World) : Calls Tryz.prog 7 #[.int .i64 2] w fun e w' => e = .returned (.tuple #[.int .i64 16, .bool true]) ∧ Below w.heap.size w w' := by
  go_enter Tryz.func7, Tryz.ntmps7
  go_wp2
  go_ret2
  exact ⟨rfl, below_al (Below.refl _ _) _⟩
theorem aib_3 (w : World) : Calls Tryz.prog 7 #[.int .i64 3] w fun e w' => e = .returned (.tuple #[.int .i64 32, .bool true]) ∧ Below w.heap.size w w' := by
  go_enter Tryz.func7, Tryz.ntmps7
  go_wp2
  go_ret2
  exact ⟨rfl, below_al (Below.refl _ _) _⟩
theorem aib_4 (w : World) : Calls Tryz.prog 7 #[.int .i64 4] w fun e w' => e = .returned (.tuple #[.int .i64 64, .bool true]) ∧ Below w.heap.size w w' := by
  go_enter Tryz.func7, Tryz.ntmps7
  go_wp2
  go_ret2
  exact ⟨rfl, below_al (Below.refl _ _) _⟩
theorem aib_5 (w : World) : Calls Tryz.prog 7 #[.int .i64 5] w fun e w' => e = .returned (.tuple #[.int .i64 64, .bool false]) ∧ Below w.heap.size w w' := by
  go_enter Tryz.func7, Tryz.ntmps7
  go_wp2
  go_ret2
  exact ⟨rfl, below_al (Below.refl _ _) _⟩
theorem aib_6 (w : World) : Calls Tryz.prog 7 #[.int .i64 6] w fun e w' => e = .returned (.tuple #[.int .i64 8, .bool false]) ∧ Below w.heap.size w w' := by
  go_enter Tryz.func7, Tryz.ntmps7
  go_wp2
  go_ret2
  exact ⟨rfl, below_al (Below.refl _ _) _⟩
theorem aib_7 (w : World) : Calls Tryz.prog 7 #[.int .i64 7] w fun e w' => e = .returned (.tuple #[.int .i64 16, .bool false]) ∧ Below w.heap.size w w' := by
  go_enter Tryz.func7, Tryz.ntmps7
  go_wp2
  go_ret2
  exact ⟨rfl, below_al (Below.refl _ _) _⟩
theorem aib_8 (w : World) : Calls Tryz.prog 7 #[.int .i64 8] w fun e w' => e = .returned (.tuple #[.int .i64 32, .bool false]) ∧ Below w.heap.size w w' := by
  go_enter Tryz.func7, Tryz.ntmps7
  go_wp2
  go_ret2
  exact ⟨rfl, below_al (Below.refl _ _) _⟩
theorem aib_9 (w : World) : Calls Tryz.prog 7 #[.int .i64 9] w fun e w' => e = .returned (.tuple #[.int .i64 64, .bool false]) ∧ Below w.heap.size w w' := by
  go_enter Tryz.func7, Tryz.ntmps7
  go_wp2
  go_ret2
  exact ⟨rfl, below_al (Below.refl _ _) _⟩
theorem aib_10 (w : World) : Calls Tryz.prog 7 #[.int .i64 10] w fun e w' => e = .returned (.tuple #[.int .i64 64, .bool false]) ∧ Below w.heap.size w w' := by
  go_enter Tryz.func7, Tryz.ntmps7
  go_wp2
  go_ret2
  exact ⟨rfl, below_al (Below.refl _ _) _⟩
theorem asIntBits_any (k : Nat) (hk : k < 11) (w : World) : Calls Tryz.prog 7 #[.int .i64 (k : Int)] w fun e w' => e = .returned (.tuple #[.int .i64 (bitsK k : Int), .bool (decide (k < 5))]) ∧ Below w.heap.size w w' := by
  have hcase : k = 0 ∨ k = 1 ∨ k = 2 ∨ k = 3 ∨ k = 4 ∨ k = 5 ∨ k = 6 ∨ k = 7 ∨ k = 8 ∨ k = 9 ∨ k = 10 := by omega
  rcases hcase with rfl | rfl | rfl | rfl | rfl | rfl | rfl | rfl | rfl | rfl | rfl
  · exact aib_0 w
  · exact aib_1 w
  · exact aib_2 w
  · exact aib_3 w
  · exact aib_4 w
  · exact aib_5 w
  · exact aib_6 w
  · exact aib_7 w
  · exact aib_8 w
  · exact aib_9 w
  · exact aib_10 w
theorem fits1_any {d : Nat} {t : Tr} {x : Vc} {w : World} (h : HV d t x w) : Calls Tryz.prog 5 #[x.agg] w fun e w' => ∃ r : Bool, e = .returned (.bool r) ∧ Below w.heap.size w w' := by
  obtain ⟨k, n, A, l, c, b, s, A', l', c', rfl⟩ := h.shape
  clear h
  go_enter Tryz.func5, Tryz.ntmps5
  go_wp2
  all_goals
    first
      | (go_ret; first | exact ⟨_, rfl, below_al (Below.refl _ _) _⟩ | exact ⟨⟨_, rfl⟩, below_al (Below.refl _ _) _⟩)
      | skip
end Go.Proofs.YtloloifngbmibaaGreatDoor
