/- The package's ints: bigInt, Cmp. The package's numbers as fractions. The package's floats: floatCmp, Cmp. The language's types: Type, sameType. -/
import Derived.Test.YtloloifngbmibaaGreatDoorM19
import Derived.Test.YtloloifngbmibaaGreatDoorM12
import Derived.Test.YtloloifngbmibaaGreatDoorM16
set_option linter.unusedVariables false
set_option linter.unusedSimpArgs false
set_option maxRecDepth 4000
namespace Go.Proofs.YtloloifngbmibaaGreatDoor
open Go.RowKit

theorem absW_wl {x : Int} (h0 : -9223372036854775808 ≤ x) (h1 : x ≤ 9223372036854775807) : WL (absW x) := by
  unfold absW
  split
  · exact WL.nil
  · exact WL.one (by omega) (by omega)
theorem absW_nrm (x : Int) : Nrm (absW x) := by
  unfold absW
  split
  · trivial
  · simp only [Nrm]
    omega
theorem absW_wv (x : Int) : wv (decide (x < 0)) (absW x) = x := by
  unfold wv absW
  by_cases h : x = 0
  · subst h
    rfl
  · rw [if_neg h]
    simp only [nv]
    by_cases h2 : x < 0
    · rw [decide_eq_true h2]
      simp
      omega
    · rw [decide_eq_false h2]
      simp
      omega

/-- A big integer there, worth x. -/
def BI (b : Nat) (x : Int) (W : World) : Prop := ∃ (neg : Bool) (ws : List Int) (u : Value), Blk W b 189 #[.bool neg, u] ∧ SlV W (fun k => k < W.heap.size) .u64 u ws ∧ WL ws ∧ Nrm ws ∧ ws.length ≤ 30 ∧ wv neg ws = x ∧ (neg = true → ws ≠ [])
theorem BI.up {b : Nat} {x : Int} {W W' : World} (h : BI b x W) (hb : Below W.heap.size W W') : BI b x W' := by
  obtain ⟨neg, ws, u, h2, h3, h4⟩ := h
  exact ⟨neg, ws, u, h2.below hb h2.lt, (h3.keep (still_below hb (fun k hk => hk))).mono (fun k hk => Nat.lt_of_lt_of_le hk hb.size), h4⟩
theorem BI.bigv {b : Nat} {x : Int} {W : World} (h : BI b x W) : ∃ (neg : Bool) (ws : List Int) (u : Value), Blk W b 189 #[.bool neg, u] ∧ BigV W (fun k => k < W.heap.size) b 0 neg ws ∧ WL ws ∧ Nrm ws ∧ ws.length ≤ 30 ∧ wv neg ws = x ∧ (neg = true → ws ≠ []) := by
  obtain ⟨neg, ws, u, h2, h3, h4⟩ := h
  exact ⟨neg, ws, u, h2, BigV.of_blk h2 h2.lt h3, h4⟩
theorem NewBig.bi {w W : World} {b : Nat} {neg : Bool} {ws : List Int} (h : NewBig w b neg ws W) (hw : WL ws) (hn : Nrm ws) (h1 : ws.length ≤ 30) (h2 : neg = true → ws ≠ []) : BI b (wv neg ws) W := by
  obtain ⟨v, hS, c0, c1, hv⟩ := h.big
  obtain ⟨hb, hle, u, hB, hu⟩ := h
  have e1 := hB.cell 1
  simp at e1
  rw [Nat.zero_add, e1] at c1
  injection c1 with c1
  subst c1
  exact ⟨neg, ws, _, hB, hv.mono (fun k hk => hk.2), hw, hn, h1, rfl, h2⟩
theorem nv_pos {ws : List Int} (hw : WL ws) (hn : Nrm ws) (h0 : ws ≠ []) : 0 < nv ws := by
  obtain ⟨m, hm⟩ : ∃ m, ws.length = m + 1 := ⟨ws.length - 1, by have := List.length_pos_iff.2 h0; omega⟩
  have := nv_ge hw hn m hm
  have := pw_pos m
  omega
theorem absW_neg {x : Int} (h : decide (x < 0) = true) : absW x ≠ [] := by
  have := of_decide_eq_true h
  unfold absW
  rw [if_neg (by omega)]
  simp
theorem newInt_bi (x : Int) (h0 : -9223372036854775808 ≤ x) (h1 : x ≤ 9223372036854775807) (w : World) :
    Calls Tryz.prog 96 #[.int .i64 x] w fun e w' => ∃ b, e = .returned (.pointer (some ⟨b, 0, none⟩)) ∧ BI b x w' ∧ Below w.heap.size w w' := by
  refine (newInt_any x h0 h1 w).mono ?_
  rintro e w' ⟨b, rfl, hb⟩
  have := hb.bi (absW_wl h0 h1) (absW_nrm x) (Nat.le_trans (absW_len x) (by decide)) absW_neg
  rw [absW_wv] at this
  exact ⟨b, rfl, this, hb.1⟩

theorem bigIntS_any {B : Nat} {v : Value} {x : Int} {w : World} (h : SI B v x w) :
    Calls Tryz.prog 306 #[v] w fun e w' => ∃ b, e = .returned (.pointer (some ⟨b, 0, none⟩)) ∧ BI b x w' ∧ Below w.heap.size w w' := by
  have HG := Lib.hid (fun s p (h1 : Value.oneCell' s = true) (h2 : Value.oneCell' p = true) W => get_any s p h1 h2 W)
  rcases h with ⟨rfl, h0, h1⟩ | ⟨b, neg, ws, u, rfl, h2, h3, h4, h5, h6, h7, h8, h9⟩
  · have HN := Lib.hid (fun W => newInt_bi x (by omega) (by omega) W)
    clear h0 h1
    go_enter Tryz.func306, Tryz.ntmps306
    go_wp2_with fail
    refine (HG.out _ _ rfl rfl _).mono ?_
    rintro e w1 ⟨rfl, m, rfl⟩
    go_wp2_with fail
    refine (HN.out _).mono ?_
    rintro e w2 ⟨b, rfl, hB, hb⟩
    go_wp2
    go_ret
    exact ⟨b, rfl, hB, below_up (below_drewN' (below_al (below_al (Below.refl _ _) _) _) _) hb⟩
  · have hne : ∀ W : World, (binOp .neq 113 (.pointer (some ⟨b, 0, none⟩)) (.pointer none)).run Tryz.prog W = .ok (.bool true) W := fun _ => by kernel_rfl
    have HB : Hid (BI b x w) := Lib.hid ⟨neg, ws, u, h2, h3.mono (fun k hk => hk.2), h5, h6, h8, h9, fun _ h => by subst h; simp at h7⟩
    clear h2 h3 h4 h5 h6 h7 h8 h9
    go_enter Tryz.func306, Tryz.ntmps306
    go_wp2_with fail
    refine (HG.out _ _ rfl rfl _).mono ?_
    rintro e w1 ⟨rfl, m, rfl⟩
    go_wp2
    go_ret
    have hl : Below w.heap.size w (((w.alloc (.cells #[.int .i64 0, .pointer (some ⟨b, 0, none⟩)] 117)).alloc (.cells #[.int .i64 0, .pointer (some ⟨b, 0, none⟩)] 117)).drewN m) := below_drewN' (below_al (below_al (Below.refl _ _) _) _) _
    exact ⟨b, rfl, HB.out.up hl, hl⟩

theorem intCmpSame (b o : Nat) (w : World) :
    Calls Tryz.prog 127 #[.pointer (some ⟨b, o, none⟩), .pointer (some ⟨b, o, none⟩)] w fun e w' => e = .returned (.int .i64 0) ∧ Below w.heap.size w w' := by
  obtain ⟨j, hj⟩ := info_big
  have heq : ∀ W : World, (binOp .eql 113 (.pointer (some ⟨b, o, none⟩)) (.pointer (some ⟨b, o, none⟩))).run Tryz.prog W = .ok (.bool true) W := fun W => run_eql_ptr_same W _ Tryz.underlying113 hj
  go_enter Tryz.func127, Tryz.ntmps127
  go_wp2
  go_ret
  exact ⟨rfl, Below.refl _ _⟩

theorem slV_inj {w : World} {S S' : Nat → Prop} {k : IntKind} {v : Value} {xs ys : List Int} (h : SlV w S k v xs) (h' : SlV w S' k v ys) : xs = ys := by
  obtain ⟨A, c, rfl, hc, hr⟩ := h
  obtain ⟨A', c', e, hc', hr'⟩ := h'
  injection e with e1 e2 e3
  subst e1
  refine List.ext_getElem? fun j => ?_
  by_cases hj : j < xs.length
  · obtain ⟨b, o, ea, _, q⟩ := rd_int hr hj
    obtain ⟨b', o', ea', _, q'⟩ := rd_int hr' (j := j) (by omega)
    rw [ea] at ea'
    injection ea' with ea'
    injection ea' with eb eo
    subst eb eo
    rw [q] at q'
    injection q' with q'
    injection q' with _ q'
    rw [List.getElem?_eq_getElem hj, List.getElem?_eq_getElem (show j < ys.length by omega)] at q' ⊢
    simpa using q'
  · rw [List.getElem?_eq_none (by omega), List.getElem?_eq_none (by omega)]

theorem cmpL_nv : ∀ {a b : List Int}, a.length = b.length → WL a → WL b → cmpL a b = sgnc (nv a.reverse) (nv b.reverse)
  | [], [], _, _, _ => rfl
  | x :: xs, y :: ys, hl, ha, hb => by
    have hl' : xs.length = ys.length := by simpa using hl
    have wx : WL xs.reverse := fun z hz => (WL.cons.1 ha).2 z (List.mem_reverse.1 hz)
    have wy : WL ys.reverse := fun z hz => (WL.cons.1 hb).2 z (List.mem_reverse.1 hz)
    have h1 := nv_lt wx
    have h2 := nv_lt wy
    have h3 := nv_nonneg wx
    have h4 := nv_nonneg wy
    have ih := cmpL_nv hl' (WL.cons.1 ha).2 (WL.cons.1 hb).2
    have hp := pw_pos ys.length
    rw [List.reverse_cons, List.reverse_cons, nv_snoc, nv_snoc]
    rw [List.length_reverse] at h1 h2 ⊢
    rw [List.length_reverse]
    rw [hl'] at h1 ⊢
    simp only [cmpL]
    by_cases hxy : x = y
    · subst hxy
      rw [if_pos rfl, ih]
      exact sgnc_congr ⟨by omega, by omega⟩
    · rw [if_neg hxy]
      by_cases h5 : x < y
      · have := Int.mul_le_mul_of_nonneg_left (show x + 1 ≤ y by omega) (Int.le_of_lt hp)
        rw [Int.mul_add] at this
        rw [if_pos h5, sgnc_lt (by omega)]
      · have := Int.mul_le_mul_of_nonneg_left (show y + 1 ≤ x by omega) (Int.le_of_lt hp)
        rw [Int.mul_add] at this
        rw [if_neg h5, sgnc_gt (by omega)]
  | [], _ :: _, hl, _, _ => by simp at hl
  | _ :: _, [], hl, _, _ => by simp at hl
theorem shortN {xs ys : List Int} (hx : WL xs) (hy : WL ys) (hn : Nrm ys) (h : xs.length < ys.length) : nv xs < nv ys := by
  have h1 := nv_lt hx
  have h2 := nv_ge hy hn (ys.length - 1) (by omega)
  have h3 := pw_le (show xs.length ≤ ys.length - 1 by omega)
  omega
theorem ordL_nv {xs ys : List Int} (hx : WL xs) (hy : WL ys) (nx : Nrm xs) (ny : Nrm ys) : ordL xs.reverse ys.reverse = sgnc (nv xs) (nv ys) := by
  unfold ordL
  rw [List.length_reverse, List.length_reverse]
  by_cases h : xs.length = ys.length
  · rw [if_pos h, cmpL_nv (by simpa using h) (fun z hz => hx z (List.mem_reverse.1 hz)) (fun z hz => hy z (List.mem_reverse.1 hz)), List.reverse_reverse, List.reverse_reverse]
  · rw [if_neg h]
    by_cases h1 : xs.length < ys.length
    · rw [if_pos h1, sgnc_lt (shortN hx hy ny h1)]
    · rw [if_neg h1, sgnc_gt (shortN hy hx nx (by omega))]
theorem wv_sign {neg : Bool} {ws : List Int} (hw : WL ws) (hn : Nrm ws) (h : neg = true → ws ≠ []) : (neg = true ∧ wv neg ws < 0) ∨ (neg = false ∧ 0 ≤ wv neg ws) := by
  cases neg
  · exact .inr ⟨rfl, nv_nonneg hw⟩
  · have := nv_pos hw hn (h rfl)
    exact .inl ⟨rfl, by unfold wv; rw [if_pos rfl]; omega⟩
theorem cmpB_wv {n1 n2 : Bool} {xs ys : List Int} (hx : WL xs) (hy : WL ys) (nx : Nrm xs) (ny : Nrm ys) (h1 : n1 = true → xs ≠ []) (h2 : n2 = true → ys ≠ []) : cmpB n1 xs n2 ys = sgnc (wv n1 xs) (wv n2 ys) := by
  have c1 := wv_sign hx nx h1
  have c2 := wv_sign hy ny h2
  unfold cmpB
  rcases c1 with ⟨rfl, x0⟩ | ⟨rfl, x0⟩ <;> rcases c2 with ⟨rfl, y0⟩ | ⟨rfl, y0⟩
  · rw [if_pos rfl, if_pos rfl, ordL_nv hx hy nx ny]
    unfold wv sgnc
    rw [if_pos rfl, if_pos rfl]
    split <;> split <;> (try split) <;> (try split) <;> omega
  · rw [if_neg (by decide), if_pos rfl, sgnc_lt (by omega)]
  · rw [if_neg (by decide), if_neg (by decide), sgnc_gt (by omega)]
  · rw [if_pos rfl, if_neg (by decide), ordL_nv hx hy nx ny]
    rfl

theorem intCmpB {b1 b2 : Nat} {x y : Int} {w : World} (hx : BI b1 x w) (hy : BI b2 y w) :
    Calls Tryz.prog 127 #[.pointer (some ⟨b1, 0, none⟩), .pointer (some ⟨b2, 0, none⟩)] w fun e w' => ∃ C, e = .returned (.int .i64 C) ∧ C = sgnc x y ∧ Below w.heap.size w w' := by
  by_cases hne : b1 = b2
  · subst hne
    obtain ⟨n1, xs, u, k1, v1, a1, a2, a3, a4, a5⟩ := hx.bigv
    obtain ⟨n2, ys, u', k2, v2, c1, c2, c3, c4, c5⟩ := hy.bigv
    refine (intCmpSame b1 0 w).mono ?_
    rintro e w' ⟨rfl, hb⟩
    refine ⟨0, rfl, ?_, hb⟩
    have hq := k1.symm.trans k2
    injection hq with hq
    injection hq with hq
    simp at hq
    obtain ⟨rfl, rfl⟩ := hq
    obtain ⟨_, _, _, q1, s1⟩ := v1
    obtain ⟨_, _, _, q2, s2⟩ := v2
    rw [q1] at q2
    injection q2 with q2
    subst q2
    have := slV_inj s1 s2
    subst this
    rw [← a4, ← c4, sgnc_self]
  · obtain ⟨n1, xs, u, k1, v1, a1, a2, a3, a4, a5⟩ := hx.bigv
    obtain ⟨n2, ys, u', k2, v2, c1, c2, c3, c4, c5⟩ := hy.bigv
    refine (intCmp_any _ _ b1 0 b2 0 n1 n2 xs ys (by omega) (by omega) w _ _ k1 _ _ k2 hne v1 v2).mono ?_
    rintro e w' ⟨rfl, m, rfl⟩
    refine ⟨_, rfl, ?_, below_drewN' (Below.refl _ _) _⟩
    rw [cmpB_wv a1 c1 a2 c2 a5 c5, a4, c4]

/-- Two boxes of ints. -/
abbrev Bxi (w : World) (p q p' q' : Value) (W : World) : Prop := Below w.heap.size w W ∧ W.cell? ⟨w.heap.size, 0, none⟩ = some p ∧ W.cell? ⟨w.heap.size, 1, none⟩ = some q ∧ W.cell? ⟨w.heap.size + 1, 0, none⟩ = some p' ∧ W.cell? ⟨w.heap.size + 1, 1, none⟩ = some q'
theorem Bxi.up {w : World} {p q p' q' : Value} {W W' : World} (h : Bxi w p q p' q' W) (hb : Below W.heap.size W W') : Bxi w p q p' q' W' :=
  ⟨below_up h.1 hb, cell_up hb h.2.1, cell_up hb h.2.2.1, cell_up hb h.2.2.2.1, cell_up hb h.2.2.2.2⟩
theorem Bxi.start (w : World) (p q p' q' : Value) (m1 m2 : Nat) : Bxi w p q p' q' ((((((w.alloc (.cells #[p, q] 117)).alloc (.cells #[p', q'] 117)).alloc (.cells #[p, q] 117)).drewN m1).alloc (.cells #[p', q'] 117)).drewN m2) := by
  have h0 : Bxi w p q p' q' ((w.alloc (.cells #[p, q] 117)).alloc (.cells #[p', q'] 117)) := ⟨below_al (below_al (Below.refl _ _) _) _, by simp, by simp, by simp, by simp⟩
  exact h0.up (below_drewN' (below_al (below_drewN' (below_al (Below.refl _ _) _) _) _) _)
theorem as_int (W : World) (v : Value) : (Instr.typeAssert (.iface 117 v) 64 117 false).run Tryz.prog W = .ok v W := by kernel_rfl
theorem sig64_any (x : Int) (w : World) (h : -4294967296 ≤ x ∧ x ≤ 4294967296) : Calls Tryz.prog 307 #[.int .i64 x] w fun e w' => ∃ C, e = .returned (.int .i64 C) ∧ (C = 0 → x = 0) ∧ Below w.heap.size w w' := by
  have h1 : x < 0 ∨ x = 0 ∨ 0 < x := by omega
  rcases h1 with h1 | h1 | h1
  · go_enter Tryz.func307, Tryz.ntmps307
    go_wp2
    go_ret
    refine ⟨_, rfl, fun hz => ?_, Below.refl _ _⟩
    rw [show x / 9223372036854775808 = -1 by omega, show -x / 9223372036854775808 = 0 by omega] at hz
    exact absurd hz (by decide +kernel)
  · subst h1
    go_enter Tryz.func307, Tryz.ntmps307
    go_wp2
    go_ret
    exact ⟨_, rfl, fun _ => trivial, Below.refl _ _⟩
  · go_enter Tryz.func307, Tryz.ntmps307
    go_wp2
    go_ret
    refine ⟨_, rfl, fun hz => ?_, Below.refl _ _⟩
    rw [show x / 9223372036854775808 = 0 by omega, show IntKind.u64.wrap (-x) / 9223372036854775808 = 1 by rw [IntKind.wrap_u64]; omega] at hz
    exact absurd hz (by decide +kernel)

theorem cmpS_any {B B' : Nat} {v v' : Value} {x y : Int} {d : Int} {w : World} (h : SI B v x w) (h' : SI B' v' y w) :
    Calls Tryz.prog 300 #[v, .iface 117 v', .int .i64 d] w fun e w' => ∃ C, e = .returned (.tuple #[.int .i64 C, .nilIface]) ∧ (C = 0 → x = y) ∧ Below w.heap.size w w' := by
  have HG := Lib.hid (fun s p (h1 : Value.oneCell' s = true) (h2 : Value.oneCell' p = true) W => get_any s p h1 h2 W)
  have HX := Lib.hid (fun W (hW : Below w.heap.size w W) => bigIntS_any (h.up hW))
  have HY := Lib.hid (fun W (hW : Below w.heap.size w W) => bigIntS_any (h'.up hW))
  have has := fun W v => as_int W v
  have hsome : ∀ (W : World) (b : Nat), (binOp .neq 113 (.pointer (some ⟨b, 0, none⟩)) (.pointer none)).run Tryz.prog W = .ok (.bool true) W := fun _ _ => by kernel_rfl
  rcases h with ⟨rfl, h0, h1⟩ | ⟨b, neg, ws, u, rfl, _⟩ <;> rcases h' with ⟨rfl, h0', h1'⟩ | ⟨b', neg', ws', u', rfl, _⟩
  · have hw : IntKind.i64.wrap (x - y) = x - y := by rw [IntKind.wrap_i64]; omega
    have HS := Lib.hid (fun w => sig64_any (x - y) w (by omega))
    go_enter Tryz.func300, Tryz.ntmps300
    go_wp2_with fail
    refine (HG.out _ _ rfl rfl _).mono ?_
    rintro e w1 ⟨rfl, m1, rfl⟩
    go_wp2_with fail
    refine (HG.out _ _ rfl rfl _).mono ?_
    rintro e w2 ⟨rfl, m2, rfl⟩
    go_wp2_with fail
    refine (HS.out _).mono ?_
    rintro e w3 ⟨C, rfl, hC, hb⟩
    have HL := Lib.hid (below_up (Bxi.start w (.int .i64 x) (.pointer none) (.int .i64 y) (.pointer none) m1 m2).1 hb)
    clear hb
    go_wp2
    go_ret2
    exact ⟨C, rfl, fun h => by have := hC h; omega, HL.out⟩
  ·
    go_enter Tryz.func300, Tryz.ntmps300
    go_wp2_with fail
    refine (HG.out _ _ rfl rfl _).mono ?_
    rintro e w1 ⟨rfl, m1, rfl⟩
    go_wp2_with fail
    refine (HG.out _ _ rfl rfl _).mono ?_
    rintro e w2 ⟨rfl, m2, rfl⟩
    go_wp2_with fail
    have H0 : Hid (Bxi w (.int .i64 x) (.pointer none) (.int .i64 0) (.pointer (some ⟨b', 0, none⟩)) _) := Lib.hid (Bxi.start w (.int .i64 x) (.pointer none) (.int .i64 0) (.pointer (some ⟨b', 0, none⟩)) m1 (m2 + 1))
    go_region_held3 (Bxi w (.int .i64 x) (.pointer none) (.int .i64 0) (.pointer (some ⟨b', 0, none⟩)))
      (first | assumption | exact H0.out | exact ((‹Bxi _ _ _ _ _ _›).up ‹Below _ _ _›) | exact (H0.out.up ‹Below _ _ _›))
      (first
        | ((with_reducible refine (HX.out _ ?_).mono ?_); exact (‹Bxi _ _ _ _ _ _›).1; rintro e w1 ⟨b1, rfl, hB1, hb1⟩)
        | ((with_reducible refine (HY.out _ ?_).mono ?_); exact (‹Bxi _ _ _ _ _ _›).1; rintro e w2 ⟨b2, rfl, hB2, hb2⟩)
        | ((with_reducible refine (intCmpB (hB1.up hb2) hB2).mono ?_); rintro e w3 ⟨C, rfl, hC, hb3⟩))
    have HL := Lib.hid (‹Bxi _ _ _ _ _ _›).1
    clear H0
    go_wp2
    go_ret2
    exact ⟨_, rfl, fun h => sgnc_eq0 h, HL.out⟩
  ·
    go_enter Tryz.func300, Tryz.ntmps300
    go_wp2_with fail
    refine (HG.out _ _ rfl rfl _).mono ?_
    rintro e w1 ⟨rfl, m1, rfl⟩
    go_wp2_with fail
    refine (HG.out _ _ rfl rfl _).mono ?_
    rintro e w2 ⟨rfl, m2, rfl⟩
    go_wp2_with fail
    have H0 : Hid (Bxi w (.int .i64 0) (.pointer (some ⟨b, 0, none⟩)) (.int .i64 y) (.pointer none) _) := Lib.hid (Bxi.start w (.int .i64 0) (.pointer (some ⟨b, 0, none⟩)) (.int .i64 y) (.pointer none) m1 (m2 + 1))
    go_region_held3 (Bxi w (.int .i64 0) (.pointer (some ⟨b, 0, none⟩)) (.int .i64 y) (.pointer none))
      (first | assumption | exact H0.out | exact ((‹Bxi _ _ _ _ _ _›).up ‹Below _ _ _›) | exact (H0.out.up ‹Below _ _ _›))
      (first
        | ((with_reducible refine (HX.out _ ?_).mono ?_); exact (‹Bxi _ _ _ _ _ _›).1; rintro e w1 ⟨b1, rfl, hB1, hb1⟩)
        | ((with_reducible refine (HY.out _ ?_).mono ?_); exact (‹Bxi _ _ _ _ _ _›).1; rintro e w2 ⟨b2, rfl, hB2, hb2⟩)
        | ((with_reducible refine (intCmpB (hB1.up hb2) hB2).mono ?_); rintro e w3 ⟨C, rfl, hC, hb3⟩))
    have HL := Lib.hid (‹Bxi _ _ _ _ _ _›).1
    clear H0
    go_wp2
    go_ret2
    exact ⟨_, rfl, fun h => sgnc_eq0 h, HL.out⟩
  ·
    go_enter Tryz.func300, Tryz.ntmps300
    go_wp2_with fail
    refine (HG.out _ _ rfl rfl _).mono ?_
    rintro e w1 ⟨rfl, m1, rfl⟩
    go_wp2_with fail
    refine (HG.out _ _ rfl rfl _).mono ?_
    rintro e w2 ⟨rfl, m2, rfl⟩
    go_wp2_with fail
    have H0 : Hid (Bxi w (.int .i64 0) (.pointer (some ⟨b, 0, none⟩)) (.int .i64 0) (.pointer (some ⟨b', 0, none⟩)) _) := Lib.hid (Bxi.start w (.int .i64 0) (.pointer (some ⟨b, 0, none⟩)) (.int .i64 0) (.pointer (some ⟨b', 0, none⟩)) m1 (m2 + 1))
    go_region_held3 (Bxi w (.int .i64 0) (.pointer (some ⟨b, 0, none⟩)) (.int .i64 0) (.pointer (some ⟨b', 0, none⟩)))
      (first | assumption | exact H0.out | exact ((‹Bxi _ _ _ _ _ _›).up ‹Below _ _ _›) | exact (H0.out.up ‹Below _ _ _›))
      (first
        | ((with_reducible refine (HX.out _ ?_).mono ?_); exact (‹Bxi _ _ _ _ _ _›).1; rintro e w1 ⟨b1, rfl, hB1, hb1⟩)
        | ((with_reducible refine (HY.out _ ?_).mono ?_); exact (‹Bxi _ _ _ _ _ _›).1; rintro e w2 ⟨b2, rfl, hB2, hb2⟩)
        | ((with_reducible refine (intCmpB (hB1.up hb2) hB2).mono ?_); rintro e w3 ⟨C, rfl, hC, hb3⟩))
    have HL := Lib.hid (‹Bxi _ _ _ _ _ _›).1
    clear H0
    go_wp2
    go_ret2
    exact ⟨_, rfl, fun h => sgnc_eq0 h, HL.out⟩
end Go.Proofs.YtloloifngbmibaaGreatDoor
set_option linter.unusedVariables false
set_option linter.unusedSimpArgs false
set_option maxRecDepth 4000
namespace Go.Proofs.YtloloifngbmibaaGreatDoor
open Go.RowKit

/-- A fraction there: its sign, its two worths. -/
def RQ (b : Nat) (n : Bool) (p q : Int) (W : World) : Prop := ∃ xs ds, RatV W (fun k => k < W.heap.size) b n xs ds ∧ WL xs ∧ WL ds ∧ Nrm xs ∧ Nrm ds ∧ xs.length ≤ 30 ∧ ds.length ≤ 30 ∧ 0 < ds.length ∧ nv xs = p ∧ nv ds = q
theorem RQ.up {b : Nat} {n : Bool} {p q : Int} {W W' : World} (h : RQ b n p q W) (hb : Below W.heap.size W W') : RQ b n p q W' := by
  obtain ⟨xs, ds, h1, h2⟩ := h
  have h3 := h1.up hb
  exact ⟨xs, ds, ⟨by
    obtain ⟨va, vb, a1, a2, a3⟩ := h3.bk
    exact ⟨va, vb, a1, a2.mono (fun k hk => Nat.lt_of_lt_of_le hk hb.size), a3.mono (fun k hk => Nat.lt_of_lt_of_le hk hb.size)⟩, Nat.lt_of_lt_of_le h1.own hb.size, fun k hk => hk⟩, h2⟩
theorem RQ.mk' {W w' : World} {rb : Nat} {n : Bool} {va vb : Value} {xs ds : List Int} (hb : Blk w' rb 292 #[.bool n, va, .bool false, vb]) (ha : SlV w' (Nw W w') .u64 va xs) (hd : SlV w' (Nw W w') .u64 vb ds)
    (h1 : WL xs) (h2 : WL ds) (h3 : Nrm xs) (h4 : Nrm ds) (h5 : xs.length ≤ 30) (h6 : ds.length ≤ 30) (h7 : 0 < ds.length) : RQ rb n (nv xs) (nv ds) w' :=
  ⟨xs, ds, ⟨⟨va, vb, hb, ha.mono (fun k hk => hk.2), hd.mono (fun k hk => hk.2)⟩, hb.lt, fun k hk => hk⟩, h1, h2, h3, h4, h5, h6, h7, rfl, rfl⟩
/-- The cells of the package big's and the language's thresholds. -/
def GL (W : World) : Prop := W.cell? ⟨2, 0, none⟩ = some (.int .i64 40) ∧ W.cell? ⟨1, 0, none⟩ = some (.int .i64 10)
theorem GL.up {W W' : World} (h : GL W) (hb : Below W.heap.size W W') : GL W' := ⟨cell_up hb h.1, cell_up hb h.2⟩

theorem ratCmpQ {b1 b2 : Nat} {n1 n2 : Bool} {p1 q1 p2 q2 : Int} {w : World} (h1 : RQ b1 n1 p1 q1 w) (h2 : RQ b2 n2 p2 q2 w) (hG : GL w) :
    Calls Tryz.prog 154 #[.pointer (some ⟨b1, 0, none⟩), .pointer (some ⟨b2, 0, none⟩)] w fun e w' => ∃ C, e = .returned (.int .i64 C) ∧ (C = 0 → n1 = n2 ∧ p1 * q2 = p2 * q1) ∧ Below w.heap.size w w' := by
  obtain ⟨xs, ds, r1, a1, a2, a3, a4, a5, a6, a7, rfl, rfl⟩ := h1
  obtain ⟨ys, es, r2, c1, c2, c3, c4, c5, c6, c7, rfl, rfl⟩ := h2
  refine (ratCmp_any _ _ b1 b2 n1 n2 xs ds ys es a5 a6 c5 c6 a7 c7 a1 a2 c1 c2 w r1 r2 hG.1).mono ?_
  rintro e w' ⟨C, rfl, ⟨ps, qs, hC, _, _, _, _, e1, e2⟩, hb⟩
  refine ⟨C, rfl, fun h => ?_, hb⟩
  rw [hC] at h
  obtain ⟨rfl, rfl⟩ := cmpB_zero h
  exact ⟨rfl, by rw [← e1, e2]⟩

theorem absW_nv (x : Int) : nv (absW x) = (x.natAbs : Int) := by
  unfold absW
  by_cases h : x = 0
  · subst h; rfl
  · rw [if_neg h]
    simp [nv]

theorem ratS_any {B : Nat} {v : Value} {x : Int} {w : World} (h : SI B v x w) :
    Calls Tryz.prog 153 #[v] w fun e w' => ∃ b, e = .returned (.pointer (some ⟨b, 0, none⟩)) ∧ RQ b (decide (x < 0)) (x.natAbs : Int) 1 w' ∧ Below w.heap.size w w' := by
  have HG := Lib.hid (fun s p (h1 : Value.oneCell' s = true) (h2 : Value.oneCell' p = true) W => get_any s p h1 h2 W)
  have hone : WL [1] := WL.one (by decide) (by decide)
  have hn1 : Nrm [1] := by simp [Nrm]
  rcases h with ⟨rfl, h0, h1⟩ | ⟨b, neg, ws, u, rfl, h2, h3, h4, h5, h6, h7, h8, h9⟩
  · have HN : Hid (∀ W g, Below w.heap.size w W → g = W.heap.size → Calls Tryz.prog 160 #[.pointer (some ⟨g, 0, none⟩), .int .i64 x] (W.alloc (.cells #[.bool false, .slice none 0 0, .bool false, .slice none 0 0] 292)) fun e w' => ∃ b, e = .returned (.pointer (some ⟨b, 0, none⟩)) ∧ RQ b (decide (x < 0)) (x.natAbs : Int) 1 w' ∧ Below w.heap.size w w') := Lib.hid fun W g hW hg => by
      subst hg
      refine (ratI64_any x (by omega) (by omega) W.heap.size _ (Blk.new W _ _)).mono ?_
      rintro e w' ⟨rfl, va, vb, kb, sa, sb, bt⟩
      have hq := RQ.mk' kb sa sb (absW_wl (by omega) (by omega)) hone (absW_nrm x) hn1 (Nat.le_trans (absW_len x) (by decide)) (by decide) (by decide)
      rw [absW_nv] at hq
      exact ⟨_, rfl, hq, (hW.alloc hW.size _).trans (bt.below (B := w.heap.size) (by have := hW.size; simp; omega) (fun k hk => by subst hk; exact hW.size))⟩
    clear h0 h1
    go_enter Tryz.func153, Tryz.ntmps153
    go_wp2_with fail
    refine (HG.out _ _ rfl rfl _).mono ?_
    rintro e w1 ⟨rfl, m, rfl⟩
    have HL : Hid (Below w.heap.size w _) := Lib.hid (below_drewN' (below_al (below_al (Below.refl _ _) (.cells #[.int .i64 x, .pointer none] 117)) (.cells #[.int .i64 x, .pointer none] 117)) m)
    go_wp2_with fail
    refine (HN.out _ _ HL.out (by simp)).mono ?_
    rintro e w2 ⟨b, rfl, hQ, hb⟩
    go_wp2
    go_ret
    exact ⟨b, rfl, hQ, hb⟩
  · have hs := wv_sign (neg := neg) h5 h6 (fun _ h => by subst h; simp at h7)
    have hneg : neg = decide (x < 0) := by
      rcases hs with ⟨rfl, hs⟩ | ⟨rfl, hs⟩
      · rw [decide_eq_true (by omega)]
      · rw [decide_eq_false (by omega)]
    have hnv : nv ws = (x.natAbs : Int) := by
      have := nv_nonneg h5
      rw [← h9]
      unfold wv
      split <;> omega
    have HN : Hid (∀ W g, Below w.heap.size w W → g = W.heap.size → Calls Tryz.prog 159 #[.pointer (some ⟨g, 0, none⟩), .pointer (some ⟨b, 0, none⟩)] (W.alloc (.cells #[.bool false, .slice none 0 0, .bool false, .slice none 0 0] 292)) fun e w' => ∃ b, e = .returned (.pointer (some ⟨b, 0, none⟩)) ∧ RQ b (decide (x < 0)) (x.natAbs : Int) 1 w' ∧ Below w.heap.size w w') := Lib.hid fun W g hW hg => by
      subst hg
      have hW2 : Below w.heap.size w (W.alloc (.cells #[.bool false, .slice none 0 0, .bool false, .slice none 0 0] 292)) := hW.alloc hW.size _
      refine (setInt_any _ W.heap.size b neg ws (by omega) _ (Blk.new W _ _) _ _ (h2.below hW2 h2.lt) (by have := h2.lt; have := hW.size; omega) ((BigV.of_blk h2 h2.lt (h3.mono (fun k hk => hk.2))).keep (still_below hW2 (fun k hk => hk)))).mono ?_
      rintro e w' ⟨rfl, va, vb, kb, sa, sb, bt⟩
      have hq := RQ.mk' kb sa sb h5 hone h6 hn1 h8 (by decide) (by decide)
      rw [hnv, hneg] at hq
      exact ⟨_, rfl, hq, hW2.trans (bt.below (B := w.heap.size) (by have := hW.size; simp; omega) (fun k hk => by subst hk; exact hW.size))⟩
    have hne : ∀ W : World, (binOp .neq 113 (.pointer (some ⟨b, 0, none⟩)) (.pointer none)).run Tryz.prog W = .ok (.bool true) W := fun _ => by kernel_rfl
    clear h2 h3 h4 h5 h6 h7 h8 h9 hs hneg hnv
    go_enter Tryz.func153, Tryz.ntmps153
    go_wp2_with fail
    refine (HG.out _ _ rfl rfl _).mono ?_
    rintro e w1 ⟨rfl, m, rfl⟩
    have HL : Hid (Below w.heap.size w _) := Lib.hid (below_drewN' (below_al (below_al (Below.refl _ _) (.cells #[.int .i64 0, .pointer (some ⟨b, 0, none⟩)] 117)) (.cells #[.int .i64 0, .pointer (some ⟨b, 0, none⟩)] 117)) m)
    go_wp2_with fail
    refine (HN.out _ _ HL.out (by simp)).mono ?_
    rintro e w2 ⟨b, rfl, hQ, hb⟩
    go_wp2
    go_ret
    exact ⟨b, rfl, hQ, hb⟩

theorem ratF_any (u : Nat) (hu : u < 18446744073709551616) (hf : fex u ≠ 2047) (w : World) :
    Calls Tryz.prog 155 #[.float .f64 u] w fun e w' => ∃ b p q, e = .returned (.pointer (some ⟨b, 0, none⟩)) ∧ RQ b (fneg u) p q w' ∧ p * 2 ^ (fs u).toNat = (fm u : Int) * q * 2 ^ (-(fs u)).toNat ∧ 0 < q ∧ Below w.heap.size w w' := by
  have HN : Hid (Calls Tryz.prog 164 #[.pointer (some ⟨w.heap.size, 0, none⟩), .float .f64 u] (w.alloc (.cells #[.bool false, .slice none 0 0, .bool false, .slice none 0 0] 292)) fun e w' => ∃ b p q, e = .returned (.pointer (some ⟨b, 0, none⟩)) ∧ RQ b (fneg u) p q w' ∧ p * 2 ^ (fs u).toNat = (fm u : Int) * q * 2 ^ (-(fs u)).toNat ∧ 0 < q ∧ Below w.heap.size w w') := Lib.hid <| by
    refine (setFloat_any u w.heap.size hu hf _ (Blk.new w _ _)).mono ?_
    rintro e w' ⟨rfl, va, vb, ms, ds, kb, sa, sb, ⟨a1, a2, a3, a4⟩, ⟨a5, a6, a7⟩, hv, _, bt⟩
    exact ⟨_, _, _, rfl, RQ.mk' kb sa sb a1 a3 a2 a4 a6 a7 a5, hv, nv_pos a3 a4 (List.length_pos_iff.1 a5), ((Below.refl _ _).alloc (Nat.le_refl _) _).trans (bt.below (B := w.heap.size) (by simp) (fun k hk => by subst hk; exact Nat.le_refl _))⟩
  clear hu hf
  go_enter Tryz.func155, Tryz.ntmps155
  go_wp2_with fail
  refine HN.out.mono ?_
  rintro e w2 ⟨b, p, q, rfl, hQ, hv, hq, hb⟩
  have H := Lib.hid (And.intro hQ (And.intro hv (And.intro hq hb)))
  clear hQ hv hq hb HN
  go_wp2
  go_ret
  exact ⟨b, p, q, rfl, H.out⟩

/-- The fractions of an int and a float agree: so do the numbers. -/
theorem frac_eq {x p q : Int} {u : Nat} (N : Nat) (hN : N = 1074) (hf : fex u ≠ 2047) (hv : p * 2 ^ (fs u).toNat = (fm u : Int) * q * 2 ^ (-(fs u)).toNat) (hq : 0 < q) (hn : decide (x < 0) = fneg u) (he : (x.natAbs : Int) * q = p * 1) : fcl u = .fin (x * 2 ^ N) := by
  have hb := fs_bd u
  rw [Int.mul_one] at he
  rw [← he] at hv
  have h1 : (x.natAbs : Int) * 2 ^ (fs u).toNat = (fm u : Int) * 2 ^ (-(fs u)).toNat := by
    refine Int.eq_of_mul_eq_mul_right (Int.ne_of_gt hq) ?_
    rw [Int.mul_right_comm, hv, Int.mul_right_comm]
  have h2 : (fabs u : Int) = (x.natAbs : Int) * 2 ^ N := by
    unfold fabs
    rw [Int.natCast_mul, Int.natCast_pow]
    obtain ⟨F, hF⟩ : ∃ F, F = (fm u : Int) := ⟨_, rfl⟩
    obtain ⟨X, hX⟩ : ∃ X, X = (x.natAbs : Int) := ⟨_, rfl⟩
    rw [← hF, ← hX] at h1 ⊢
    by_cases h0 : 0 ≤ fs u
    · rw [show (-(fs u)).toNat = 0 by omega, Int.pow_zero, Int.mul_one] at h1
      rw [← h1, Int.mul_assoc, show ((2 : Nat) : Int) = 2 from rfl, ← Int.pow_add, show (fs u).toNat + (1074 - fs u).toNat = N by omega]
    · rw [show (fs u).toNat = 0 by omega, Int.pow_zero, Int.mul_one] at h1
      rw [h1, Int.mul_assoc, show ((2 : Nat) : Int) = 2 from rfl, ← Int.pow_add, show (-(fs u)).toNat + N = (1074 - fs u).toNat by omega]
  unfold fcl
  rw [if_pos hf]
  congr 1
  unfold fv
  rw [h2]
  unfold fneg at hn
  have hp : (0 : Int) < 2 ^ N := Int.pow_pos (by decide)
  by_cases h0 : fm u = 0
  · have : (fabs u : Int) = 0 := by unfold fabs; rw [h0]; simp
    rw [h2] at this
    have hx : x = 0 := by
      rcases Int.mul_eq_zero.1 this with h | h
      · omega
      · omega
    subst hx
    simp
  · by_cases h63 : 9223372036854775808 ≤ u
    · rw [if_pos h63]
      rw [decide_eq_true h63, decide_eq_true h0] at hn
      have hx : x < 0 := of_decide_eq_true hn
      rw [show (x.natAbs : Int) = -x by omega, Int.neg_mul, Int.neg_neg]
    · rw [if_neg h63]
      rw [decide_eq_false h63] at hn
      have hx : ¬ x < 0 := of_decide_eq_false (by simpa using hn)
      rw [show (x.natAbs : Int) = x by omega]

end Go.Proofs.YtloloifngbmibaaGreatDoor
set_option linter.unusedVariables false
set_option linter.unusedSimpArgs false
set_option maxRecDepth 4000
namespace Go.Proofs.YtloloifngbmibaaGreatDoor
open Go.RowKit

theorem eqs_ord (u v : Nat) (hu : u < 18446744073709551616) (hv : v < 18446744073709551616) (h : FloatKind.f64.format.order u v = some .eq) : fcl u = fcl v := by
  have := eq_ord u v hu hv
  rw [h] at this
  simp at this
  exact this.1
theorem nanO (u : Nat) (hu : u < 18446744073709551616) (h : ¬ FloatKind.f64.format.order u u = some .eq) : fcl u = .nan := by
  have := nan_ord u hu
  rw [show (FloatKind.f64.format.order u u != some .eq) = true from bne_iff_ne.2 h] at this
  exact of_decide_eq_true this.symm

theorem floatCmp_any (u v : Nat) (hu : u < 18446744073709551616) (hv : v < 18446744073709551616) (w : World) : Calls Tryz.prog 327 #[.float .f64 u, .float .f64 v] w fun e w' => ∃ c : Int, e = .returned (.int .i64 c) ∧ (c = 0 → fcl u = fcl v) ∧ w' = w := by
  have H := Lib.hid (eqs_ord u v hu hv)
  have N1 := Lib.hid (nanO u hu)
  have N2 := Lib.hid (nanO v hv)
  clear hu hv
  generalize ho : FloatKind.f64.format.order u v = o at H
  generalize hx : FloatKind.f64.format.order u u = ox at N1
  generalize hy : FloatKind.f64.format.order v v = oy at N2
  rcases o with _ | o
  · by_cases h1 : ox = some .eq
    · subst h1
      go_enter Tryz.func327, Tryz.ntmps327
      go_wp2
      go_ret
      exact ⟨_, rfl, fun h => absurd h (by decide), rfl⟩
    · have e1 : (ox == some .eq) = false := beq_eq_false_iff_ne.2 h1
      have K1 := Lib.hid (N1.out h1)
      clear h1
      by_cases h2 : oy = some .eq
      · subst h2
        go_enter Tryz.func327, Tryz.ntmps327
        go_wp2
        go_ret
        exact ⟨_, rfl, fun h => absurd h (by decide), rfl⟩
      · have e2 : (oy == some .eq) = false := beq_eq_false_iff_ne.2 h2
        have K2 := Lib.hid (N2.out h2)
        clear h2
        go_enter Tryz.func327, Tryz.ntmps327
        go_wp2
        go_ret
        exact ⟨_, rfl, fun _ => K1.out.trans K2.out.symm, rfl⟩
  · cases o
    · go_enter Tryz.func327, Tryz.ntmps327
      go_wp2
      go_ret
      exact ⟨_, rfl, fun h => absurd h (by decide), rfl⟩
    · go_enter Tryz.func327, Tryz.ntmps327
      go_wp2
      go_ret
      exact ⟨_, rfl, fun _ => H.out trivial, rfl⟩
    · go_enter Tryz.func327, Tryz.ntmps327
      go_wp2
      go_ret
      exact ⟨_, rfl, fun h => absurd h (by decide), rfl⟩

theorem cmpF_any (u v : Nat) (d : Int) (hu : u < 18446744073709551616) (hv : v < 18446744073709551616) (w : World) : Calls Tryz.prog 321 #[.float .f64 u, .iface 147 (.float .f64 v), .int .i64 d] w fun e w' => ∃ c : Int, e = .returned (.tuple #[.int .i64 c, .nilIface]) ∧ (c = 0 → fcl u = fcl v) ∧ w' = w := by
  have HC := Lib.hid (fun w => floatCmp_any u v hu hv w)
  have has : ∀ (W : World) (v : Value), (Instr.typeAssert (.iface 147 v) 64 147 false).run Tryz.prog W = .ok v W := fun _ _ => by kernel_rfl
  clear hu hv
  go_enter Tryz.func321, Tryz.ntmps321
  go_wp2_with fail
  refine (HC.out _).mono ?_
  rintro e w2 ⟨c, rfl, hc, rfl⟩
  go_wp2
  go_ret2
  exact ⟨c, rfl, hc, rfl⟩
end Go.Proofs.YtloloifngbmibaaGreatDoor
set_option linter.unusedVariables false
set_option linter.unusedSimpArgs false
set_option maxRecDepth 4000
namespace Go.Proofs.YtloloifngbmibaaGreatDoor
open Go.RowKit

/-- What Type tells of a value in an interface. -/
def TyOk (T : TypeId) (v : Value) (nm : ByteArray) : Prop := ∃ F, (∀ w : World, (method 506 T v "Type").run Tryz.prog w = .ok (F, v) w) ∧ (∀ w : World, (callFunc F #[v]).run Tryz.prog w = .ok (.enter F #[v]) w) ∧ ∀ w : World, Calls Tryz.prog F #[v] w fun e w' => e = .returned (.string nm) ∧ Below w.heap.size w w'
theorem tyNone (n : Int) : TyOk 145 (.int .u8 n) ⟨#[78, 111, 110, 101, 84, 121, 112, 101]⟩ := by
  refine ⟨313, fun w => by kernel_rfl, fun w => by kernel_rfl, fun w => ?_⟩
  go_enter Tryz.func313, Tryz.ntmps313
  go_wp2
  go_ret
  exact ⟨rfl, Below.refl _ _⟩
theorem tyBool (n : Bool) : TyOk 146 (.bool n) ⟨#[98, 111, 111, 108]⟩ := by
  refine ⟨319, fun w => by kernel_rfl, fun w => by kernel_rfl, fun w => ?_⟩
  go_enter Tryz.func319, Tryz.ntmps319
  go_wp2
  go_ret
  exact ⟨rfl, Below.refl _ _⟩
theorem tyInt (n : Int) (a : Option Addr) : TyOk 117 (.agg #[.int .i64 n, .pointer a]) ⟨#[105, 110, 116]⟩ := by
  refine ⟨305, fun w => by kernel_rfl, fun w => by kernel_rfl, fun w => ?_⟩
  go_enter Tryz.func305, Tryz.ntmps305
  go_wp2
  go_ret
  exact ⟨rfl, below_al (Below.refl _ _) _⟩
theorem tyFlt (n : Nat) : TyOk 147 (.float .f64 n) ⟨#[102, 108, 111, 97, 116]⟩ := by
  refine ⟨326, fun w => by kernel_rfl, fun w => by kernel_rfl, fun w => ?_⟩
  go_enter Tryz.func326, Tryz.ntmps326
  go_wp2
  go_ret
  exact ⟨rfl, Below.refl _ _⟩
theorem tyStr (n : ByteArray) : TyOk 149 (.string n) ⟨#[115, 116, 114, 105, 110, 103]⟩ := by
  refine ⟨337, fun w => by kernel_rfl, fun w => by kernel_rfl, fun w => ?_⟩
  go_enter Tryz.func337, Tryz.ntmps337
  go_wp2
  go_ret
  exact ⟨rfl, Below.refl _ _⟩
theorem tyByt (n : ByteArray) : TyOk 150 (.string n) ⟨#[98, 121, 116, 101, 115]⟩ := by
  refine ⟨348, fun w => by kernel_rfl, fun w => by kernel_rfl, fun w => ?_⟩
  go_enter Tryz.func348, Tryz.ntmps348
  go_wp2
  go_ret
  exact ⟨rfl, Below.refl _ _⟩
theorem tyTup (A : Option Addr) (n c : Nat) : TyOk 101 (.slice A n c) ⟨#[116, 117, 112, 108, 101]⟩ := by
  refine ⟨272, fun w => by kernel_rfl, fun w => by kernel_rfl, fun w => ?_⟩
  go_enter Tryz.func272, Tryz.ntmps272
  go_wp2
  go_ret
  exact ⟨rfl, Below.refl _ _⟩

theorem sameTy {T T' : TypeId} {v v' : Value} {nm nm' : ByteArray} (h : TyOk T v nm) (h' : TyOk T' v' nm') (w : World) : Calls Tryz.prog 151 #[.iface T v, .iface T' v'] w fun e w' => e = .returned (.bool (nm.toList == nm'.toList)) ∧ Below w.heap.size w w' := by
  obtain ⟨F, h1, h3, h2⟩ := h
  obtain ⟨F', h1', h3', h2'⟩ := h'
  have H2 := Lib.hid h2
  have H2' := Lib.hid h2'
  clear h2 h2'
  go_enter Tryz.func151, Tryz.ntmps151
  go_wp2_with fail
  refine (H2.out _).mono ?_
  rintro e w1 ⟨rfl, hb1⟩
  have HB1 := Lib.hid hb1
  clear hb1
  go_wp2_with fail
  refine (H2'.out _).mono ?_
  rintro e w2 ⟨rfl, hb2⟩
  have HB2 := Lib.hid (below_up HB1.out hb2)
  clear hb2
  go_wp2

  go_ret
  exact ⟨rfl, HB2.out⟩
end Go.Proofs.YtloloifngbmibaaGreatDoor
