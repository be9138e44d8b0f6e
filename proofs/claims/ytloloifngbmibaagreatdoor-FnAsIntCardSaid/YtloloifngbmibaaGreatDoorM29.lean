/- The package's numbers as fractions. The package's floats: floatCmp, Cmp. The language's types: Type, sameType. Comparing values of one type: bools, strings, bytes. The reference's Clean: values without kids. -/
import Derived.Test.YtloloifngbmibaaGreatDoorM28
import Derived.Test.YtloloifngbmibaaGreatDoorM17
import Derived.Test.YtloloifngbmibaaGreatDoorM23
import Derived.Test.YtloloifngbmibaaGreatDoorM27
set_option linter.unusedVariables false
set_option linter.unusedSimpArgs false
set_option maxRecDepth 4000
namespace Go.Proofs.YtloloifngbmibaaGreatDoor
open Go.RowKit

/-- A fraction there: its sign, its two worths. -/
def RQ (b : Nat) (n : Bool) (p q : Int) (W : World) : Prop := ∃ xs ds, RatV W (fun k => k < W.heap.size) b n xs ds ∧ WL xs ∧ WL ds ∧ Nrm xs ∧ Nrm ds ∧ xs.length ≤ 30 ∧ ds.length ≤ 30 ∧ 0 < ds.length ∧ nv xs = p ∧ nv ds = q
theorem RQ.up {b : Nat} {n : Bool} {p q : Int} {W W' : World} (h : RQ b n p q W) (hb : Below W.heap.size W W') : RQ b n p q W' := by
  obtain ⟨xs, ds, h1, h2⟩ := h
  have h3 := h1.up hb
  exact ⟨xs, ds, ⟨by
    obtain ⟨va, vb, a1, a2, a3⟩ := h3.bk
    exact ⟨va, vb, a1, a2.mono (fun k hk => Nat.lt_of_lt_of_le hk hb.size), a3.mono (fun k hk => Nat.lt_of_lt_of_le hk hb.size)⟩, Nat.lt_of_lt_of_le h1.own hb.size, fun k hk => hk⟩, h2⟩
theorem RQ.mk' {W w' : World} {rb : Nat} {n : Bool} {va vb : Value} {xs ds : List Int} (hb : Blk w' rb 292 #[.bool n, va, .bool false, vb]) (ha : SlV w' (Nw W w') .u64 va xs) (hd : SlV w' (Nw W w') .u64 vb ds)
    (h1 : WL xs) (h2 : WL ds) (h3 : Nrm xs) (h4 : Nrm ds) (h5 : xs.length ≤ 30) (h6 : ds.length ≤ 30) (h7 : 0 < ds.length) : RQ rb n (nv xs) (nv ds) w' :=
  ⟨xs, ds, ⟨⟨va, vb, hb, ha.mono (fun k hk => hk.2), hd.mono (fun k hk => hk.2)⟩, hb.lt, fun k hk => hk⟩, h1, h2, h3, h4, h5, h6, h7, rfl, rfl⟩
/-- The cells of the package big's and the language's thresholds. -/
def GL (W : World) : Prop := W.cell? ⟨2, 0, none⟩ = some (.int .i64 40) ∧ W.cell? ⟨1, 0, none⟩ = some (.int .i64 10)
theorem GL.up {W W' : World} (h : GL W) (hb : Below W.heap.size W W') : GL W' := ⟨cell_up hb h.1, cell_up hb h.2⟩

theorem ratCmpQ {b1 b2 : Nat} {n1 n2 : Bool} {p1 q1 p2 q2 : Int} {w : World} (h1 : RQ b1 n1 p1 q1 w) (h2 : RQ b2 n2 p2 q2 w) (hG : GL w) :
    Calls Tryz.prog 154 #[.pointer (some ⟨b1, 0, none⟩), .pointer (some ⟨b2, 0, none⟩)] w fun e w' => ∃ C, e = .returned (.int .i64 C) ∧ (C = 0 → n1 = n2 ∧ p1 * q2 = p2 * q1) ∧ Below w.heap.size w w' := by
  obtain ⟨xs, ds, r1, a1, a2, a3, a4, a5, a6, a7, rfl, rfl⟩ := h1
  obtain ⟨ys, es, r2, c1, c2, c3, c4, c5, c6, c7, rfl, rfl⟩ := h2
  refine (ratCmp_any _ _ b1 b2 n1 n2 xs ds ys es a5 a6 c5 c6 a7 c7 a1 a2 c1 c2 w r1 r2 hG.1).mono ?_
  rintro e w' ⟨C, rfl, ⟨ps, qs, hC, _, _, _, _, e1, e2⟩, hb⟩
  refine ⟨C, rfl, fun h => ?_, hb⟩
  rw [hC] at h
  obtain ⟨rfl, rfl⟩ := cmpB_zero h
  exact ⟨rfl, by rw [← e1, e2]⟩

theorem absW_nv (x : Int) : nv (absW x) = (x.natAbs : Int) := by
  unfold absW
  by_cases h : x = 0
  · subst h; rfl
  · rw [if_neg h]
    simp [nv]

theorem ratS_any {B : Nat} {v : Value} {x : Int} {w : World} (h : SI B v x w) :
    Calls Tryz.prog 153 #[v] w fun e w' => ∃ b, e = .returned (.pointer (some ⟨b, 0, none⟩)) ∧ RQ b (decide (x < 0)) (x.natAbs : Int) 1 w' ∧ Below w.heap.size w w' := by
  have HG := Lib.hid (fun s p (h1 : Value.oneCell' s = true) (h2 : Value.oneCell' p = true) W => get_any s p h1 h2 W)
  have hone : WL [1] := WL.one (by decide) (by decide)
  have hn1 : Nrm [1] := by simp [Nrm]
  rcases h with ⟨rfl, h0, h1⟩ | ⟨b, neg, ws, u, rfl, h2, h3, h4, h5, h6, h7, h8, h9⟩
  · have HN : Hid (∀ W g, Below w.heap.size w W → g = W.heap.size → Calls Tryz.prog 160 #[.pointer (some ⟨g, 0, none⟩), .int .i64 x] (W.alloc (.cells #[.bool false, .slice none 0 0, .bool false, .slice none 0 0] 292)) fun e w' => ∃ b, e = .returned (.pointer (some ⟨b, 0, none⟩)) ∧ RQ b (decide (x < 0)) (x.natAbs : Int) 1 w' ∧ Below w.heap.size w w') := Lib.hid fun W g hW hg => by
      subst hg
      refine (ratI64_any x (by omega) (by omega) W.heap.size _ (Blk.new W _ _)).mono ?_
      rintro e w' ⟨rfl, va, vb, kb, sa, sb, bt⟩
      have hq := RQ.mk' kb sa sb (absW_wl (by omega) (by omega)) hone (absW_nrm x) hn1 (Nat.le_trans (absW_len x) (by decide)) (by decide) (by decide)
      rw [absW_nv] at hq
      exact ⟨_, rfl, hq, (hW.alloc hW.size _).trans (bt.below (B := w.heap.size) (by have := hW.size; simp; omega) (fun k hk => by subst hk; exact hW.size))⟩
    clear h0 h1
    go_enter Tryz.func153, Tryz.ntmps153
    go_wp2_with fail
    refine (HG.out _ _ rfl rfl _).mono ?_
    rintro e w1 ⟨rfl, m, rfl⟩
    have HL : Hid (Below w.heap.size w _) := Lib.hid (below_drewN' (below_al (below_al (Below.refl _ _) (.cells #[.int .i64 x, .pointer none] 117)) (.cells #[.int .i64 x, .pointer none] 117)) m)
    go_wp2_with fail
    refine (HN.out _ _ HL.out (by simp)).mono ?_
    rintro e w2 ⟨b, rfl, hQ, hb⟩
    go_wp2
    go_ret
    exact ⟨b, rfl, hQ, hb⟩
  · have hs := wv_sign (neg := neg) h5 h6 (fun _ h => by subst h; simp at h7)
    have hneg : neg = decide (x < 0) := by
      rcases hs with ⟨rfl, hs⟩ | ⟨rfl, hs⟩
      · rw [decide_eq_true (by omega)]
      · rw [decide_eq_false (by omega)]
    have hnv : nv ws = (x.natAbs : Int) := by
      have := nv_nonneg h5
      rw [← h9]
      unfold wv
      split <;> omega
    have HN : Hid (∀ W g, Below w.heap.size w W → g = W.heap.size → Calls Tryz.prog 159 #[.pointer (some ⟨g, 0, none⟩), .pointer (some ⟨b, 0, none⟩)] (W.alloc (.cells #[.bool false, .slice none 0 0, .bool false, .slice none 0 0] 292)) fun e w' => ∃ b, e = .returned (.pointer (some ⟨b, 0, none⟩)) ∧ RQ b (decide (x < 0)) (x.natAbs : Int) 1 w' ∧ Below w.heap.size w w') := Lib.hid fun W g hW hg => by
      subst hg
      have hW2 : Below w.heap.size w (W.alloc (.cells #[.bool false, .slice none 0 0, .bool false, .slice none 0 0] 292)) := hW.alloc hW.size _
      refine (setInt_any _ W.heap.size b neg ws (by omega) _ (Blk.new W _ _) _ _ (h2.below hW2 h2.lt) (by have := h2.lt; have := hW.size; omega) ((BigV.of_blk h2 h2.lt (h3.mono (fun k hk => hk.2))).keep (still_below hW2 (fun k hk => hk)))).mono ?_
      rintro e w' ⟨rfl, va, vb, kb, sa, sb, bt⟩
      have hq := RQ.mk' kb sa sb h5 hone h6 hn1 h8 (by decide) (by decide)
      rw [hnv, hneg] at hq
      exact ⟨_, rfl, hq, hW2.trans (bt.below (B := w.heap.size) (by have := hW.size; simp; omega) (fun k hk => by subst hk; exact hW.size))⟩
    have hne : ∀ W : World, (binOp .neq 113 (.pointer (some ⟨b, 0, none⟩)) (.pointer none)).run Tryz.prog W = .ok (.bool true) W := fun _ => by kernel_rfl
    clear h2 h3 h4 h5 h6 h7 h8 h9 hs hneg hnv
    go_enter Tryz.func153, Tryz.ntmps153
    go_wp2_with fail
    refine (HG.out _ _ rfl rfl _).mono ?_
    rintro e w1 ⟨rfl, m, rfl⟩
    have HL : Hid (Below w.heap.size w _) := Lib.hid (below_drewN' (below_al (below_al (Below.refl _ _) (.cells #[.int .i64 0, .pointer (some ⟨b, 0, none⟩)] 117)) (.cells #[.int .i64 0, .pointer (some ⟨b, 0, none⟩)] 117)) m)
    go_wp2_with fail
    refine (HN.out _ _ HL.out (by simp)).mono ?_
    rintro e w2 ⟨b, rfl, hQ, hb⟩
    go_wp2
    go_ret
    exact ⟨b, rfl, hQ, hb⟩

theorem ratF_any (u : Nat) (hu : u < 18446744073709551616) (hf : fex u ≠ 2047) (w : World) :
    Calls Tryz.prog 155 #[.float .f64 u] w fun e w' => ∃ b p q, e = .returned (.pointer (some ⟨b, 0, none⟩)) ∧ RQ b (fneg u) p q w' ∧ p * 2 ^ (fs u).toNat = (fm u : Int) * q * 2 ^ (-(fs u)).toNat ∧ 0 < q ∧ Below w.heap.size w w' := by
  have HN : Hid (Calls Tryz.prog 164 #[.pointer (some ⟨w.heap.size, 0, none⟩), .float .f64 u] (w.alloc (.cells #[.bool false, .slice none 0 0, .bool false, .slice none 0 0] 292)) fun e w' => ∃ b p q, e = .returned (.pointer (some ⟨b, 0, none⟩)) ∧ RQ b (fneg u) p q w' ∧ p * 2 ^ (fs u).toNat = (fm u : Int) * q * 2 ^ (-(fs u)).toNat ∧ 0 < q ∧ Below w.heap.size w w') := Lib.hid <| by
    refine (setFloat_any u w.heap.size hu hf _ (Blk.new w _ _)).mono ?_
    rintro e w' ⟨rfl, va, vb, ms, ds, kb, sa, sb, ⟨a1, a2, a3, a4⟩, ⟨a5, a6, a7⟩, hv, _, bt⟩
    exact ⟨_, _, _, rfl, RQ.mk' kb sa sb a1 a3 a2 a4 a6 a7 a5, hv, nv_pos a3 a4 (List.length_pos_iff.1 a5), ((Below.refl _ _).alloc (Nat.le_refl _) _).trans (bt.below (B := w.heap.size) (by simp) (fun k hk => by subst hk; exact Nat.le_refl _))⟩
  clear hu hf
  go_enter Tryz.func155, Tryz.ntmps155
  go_wp2_with fail
  refine HN.out.mono ?_
  rintro e w2 ⟨b, p, q, rfl, hQ, hv, hq, hb⟩
  have H := Lib.hid (And.intro hQ (And.intro hv (And.intro hq hb)))
  clear hQ hv hq hb HN
  go_wp2
  go_ret
  exact ⟨b, p, q, rfl, H.out⟩

/-- The fractions of an int and a float agree: so do the numbers. -/
theorem frac_eq {x p q : Int} {u : Nat} (N : Nat) (hN : N = 1074) (hf : fex u ≠ 2047) (hv : p * 2 ^ (fs u).toNat = (fm u : Int) * q * 2 ^ (-(fs u)).toNat) (hq : 0 < q) (hn : decide (x < 0) = fneg u) (he : (x.natAbs : Int) * q = p * 1) : fcl u = .fin (x * 2 ^ N) := by
  have hb := fs_bd u
  rw [Int.mul_one] at he
  rw [← he] at hv
  have h1 : (x.natAbs : Int) * 2 ^ (fs u).toNat = (fm u : Int) * 2 ^ (-(fs u)).toNat := by
    refine Int.eq_of_mul_eq_mul_right (Int.ne_of_gt hq) ?_
    rw [Int.mul_right_comm, hv, Int.mul_right_comm]
  have h2 : (fabs u : Int) = (x.natAbs : Int) * 2 ^ N := by
    unfold fabs
    rw [Int.natCast_mul, Int.natCast_pow]
    obtain ⟨F, hF⟩ : ∃ F, F = (fm u : Int) := ⟨_, rfl⟩
    obtain ⟨X, hX⟩ : ∃ X, X = (x.natAbs : Int) := ⟨_, rfl⟩
    rw [← hF, ← hX] at h1 ⊢
    by_cases h0 : 0 ≤ fs u
    · rw [show (-(fs u)).toNat = 0 by omega, Int.pow_zero, Int.mul_one] at h1
      rw [← h1, Int.mul_assoc, show ((2 : Nat) : Int) = 2 from rfl, ← Int.pow_add, show (fs u).toNat + (1074 - fs u).toNat = N by omega]
    · rw [show (fs u).toNat = 0 by omega, Int.pow_zero, Int.mul_one] at h1
      rw [h1, Int.mul_assoc, show ((2 : Nat) : Int) = 2 from rfl, ← Int.pow_add, show (-(fs u)).toNat + N = (1074 - fs u).toNat by omega]
  unfold fcl
  rw [if_pos hf]
  congr 1
  unfold fv
  rw [h2]
  unfold fneg at hn
  have hp : (0 : Int) < 2 ^ N := Int.pow_pos (by decide)
  by_cases h0 : fm u = 0
  · have : (fabs u : Int) = 0 := by unfold fabs; rw [h0]; simp
    rw [h2] at this
    have hx : x = 0 := by
      rcases Int.mul_eq_zero.1 this with h | h
      · omega
      · omega
    subst hx
    simp
  · by_cases h63 : 9223372036854775808 ≤ u
    · rw [if_pos h63]
      rw [decide_eq_true h63, decide_eq_true h0] at hn
      have hx : x < 0 := of_decide_eq_true hn
      rw [show (x.natAbs : Int) = -x by omega, Int.neg_mul, Int.neg_neg]
    · rw [if_neg h63]
      rw [decide_eq_false h63] at hn
      have hx : ¬ x < 0 := of_decide_eq_false (by simpa using hn)
      rw [show (x.natAbs : Int) = x by omega]

end Go.Proofs.YtloloifngbmibaaGreatDoor
set_option linter.unusedVariables false
set_option linter.unusedSimpArgs false
set_option maxRecDepth 4000
namespace Go.Proofs.YtloloifngbmibaaGreatDoor
open Go.RowKit

theorem eqs_ord (u v : Nat) (hu : u < 18446744073709551616) (hv : v < 18446744073709551616) (h : FloatKind.f64.format.order u v = some .eq) : fcl u = fcl v := by
  have := eq_ord u v hu hv
  rw [h] at this
  simp at this
  exact this.1
theorem nanO (u : Nat) (hu : u < 18446744073709551616) (h : ¬ FloatKind.f64.format.order u u = some .eq) : fcl u = .nan := by
  have := nan_ord u hu
  rw [show (FloatKind.f64.format.order u u != some .eq) = true from bne_iff_ne.2 h] at this
  exact of_decide_eq_true this.symm

theorem floatCmp_any (u v : Nat) (hu : u < 18446744073709551616) (hv : v < 18446744073709551616) (w : World) : Calls Tryz.prog 327 #[.float .f64 u, .float .f64 v] w fun e w' => ∃ c : Int, e = .returned (.int .i64 c) ∧ (c = 0 → fcl u = fcl v) ∧ w' = w := by
  have H := Lib.hid (eqs_ord u v hu hv)
  have N1 := Lib.hid (nanO u hu)
  have N2 := Lib.hid (nanO v hv)
  clear hu hv
  generalize ho : FloatKind.f64.format.order u v = o at H
  generalize hx : FloatKind.f64.format.order u u = ox at N1
  generalize hy : FloatKind.f64.format.order v v = oy at N2
  rcases o with _ | o
  · by_cases h1 : ox = some .eq
    · subst h1
      go_enter Tryz.func327, Tryz.ntmps327
      go_wp2
      go_ret
      exact ⟨_, rfl, fun h => absurd h (by decide), rfl⟩
    · have e1 : (ox == some .eq) = false := beq_eq_false_iff_ne.2 h1
      have K1 := Lib.hid (N1.out h1)
      clear h1
      by_cases h2 : oy = some .eq
      · subst h2
        go_enter Tryz.func327, Tryz.ntmps327
        go_wp2
        go_ret
        exact ⟨_, rfl, fun h => absurd h (by decide), rfl⟩
      · have e2 : (oy == some .eq) = false := beq_eq_false_iff_ne.2 h2
        have K2 := Lib.hid (N2.out h2)
        clear h2
        go_enter Tryz.func327, Tryz.ntmps327
        go_wp2
        go_ret
        exact ⟨_, rfl, fun _ => K1.out.trans K2.out.symm, rfl⟩
  · cases o
    · go_enter Tryz.func327, Tryz.ntmps327
      go_wp2
      go_ret
      exact ⟨_, rfl, fun h => absurd h (by decide), rfl⟩
    · go_enter Tryz.func327, Tryz.ntmps327
      go_wp2
      go_ret
      exact ⟨_, rfl, fun _ => H.out trivial, rfl⟩
    · go_enter Tryz.func327, Tryz.ntmps327
      go_wp2
      go_ret
      exact ⟨_, rfl, fun h => absurd h (by decide), rfl⟩

theorem cmpF_any (u v : Nat) (d : Int) (hu : u < 18446744073709551616) (hv : v < 18446744073709551616) (w : World) : Calls Tryz.prog 321 #[.float .f64 u, .iface 147 (.float .f64 v), .int .i64 d] w fun e w' => ∃ c : Int, e = .returned (.tuple #[.int .i64 c, .nilIface]) ∧ (c = 0 → fcl u = fcl v) ∧ w' = w := by
  have HC := Lib.hid (fun w => floatCmp_any u v hu hv w)
  have has : ∀ (W : World) (v : Value), (Instr.typeAssert (.iface 147 v) 64 147 false).run Tryz.prog W = .ok v W := fun _ _ => by kernel_rfl
  clear hu hv
  go_enter Tryz.func321, Tryz.ntmps321
  go_wp2_with fail
  refine (HC.out _).mono ?_
  rintro e w2 ⟨c, rfl, hc, rfl⟩
  go_wp2
  go_ret2
  exact ⟨c, rfl, hc, rfl⟩
end Go.Proofs.YtloloifngbmibaaGreatDoor
set_option linter.unusedVariables false
set_option linter.unusedSimpArgs false
set_option maxRecDepth 4000
namespace Go.Proofs.YtloloifngbmibaaGreatDoor
open Go.RowKit

/-- What Type tells of a value in an interface. -/
def TyOk (T : TypeId) (v : Value) (nm : ByteArray) : Prop := ∃ F, (∀ w : World, (method 506 T v "Type").run Tryz.prog w = .ok (F, v) w) ∧ (∀ w : World, (callFunc F #[v]).run Tryz.prog w = .ok (.enter F #[v]) w) ∧ ∀ w : World, Calls Tryz.prog F #[v] w fun e w' => e = .returned (.string nm) ∧ Below w.heap.size w w'
theorem tyNone (n : Int) : TyOk 145 (.int .u8 n) ⟨#[78, 111, 110, 101, 84, 121, 112, 101]⟩ := by
  refine ⟨313, fun w => by kernel_rfl, fun w => by kernel_rfl, fun w => ?_⟩
  go_enter Tryz.func313, Tryz.ntmps313
  go_wp2
  go_ret
  exact ⟨rfl, Below.refl _ _⟩
theorem tyBool (n : Bool) : TyOk 146 (.bool n) ⟨#[98, 111, 111, 108]⟩ := by
  refine ⟨319, fun w => by kernel_rfl, fun w => by kernel_rfl, fun w => ?_⟩
  go_enter Tryz.func319, Tryz.ntmps319
  go_wp2
  go_ret
  exact ⟨rfl, Below.refl _ _⟩
theorem tyInt (n : Int) (a : Option Addr) : TyOk 117 (.agg #[.int .i64 n, .pointer a]) ⟨#[105, 110, 116]⟩ := by
  refine ⟨305, fun w => by kernel_rfl, fun w => by kernel_rfl, fun w => ?_⟩
  go_enter Tryz.func305, Tryz.ntmps305
  go_wp2
  go_ret
  exact ⟨rfl, below_al (Below.refl _ _) _⟩
theorem tyFlt (n : Nat) : TyOk 147 (.float .f64 n) ⟨#[102, 108, 111, 97, 116]⟩ := by
  refine ⟨326, fun w => by kernel_rfl, fun w => by kernel_rfl, fun w => ?_⟩
  go_enter Tryz.func326, Tryz.ntmps326
  go_wp2
  go_ret
  exact ⟨rfl, Below.refl _ _⟩
theorem tyStr (n : ByteArray) : TyOk 149 (.string n) ⟨#[115, 116, 114, 105, 110, 103]⟩ := by
  refine ⟨337, fun w => by kernel_rfl, fun w => by kernel_rfl, fun w => ?_⟩
  go_enter Tryz.func337, Tryz.ntmps337
  go_wp2
  go_ret
  exact ⟨rfl, Below.refl _ _⟩
theorem tyByt (n : ByteArray) : TyOk 150 (.string n) ⟨#[98, 121, 116, 101, 115]⟩ := by
  refine ⟨348, fun w => by kernel_rfl, fun w => by kernel_rfl, fun w => ?_⟩
  go_enter Tryz.func348, Tryz.ntmps348
  go_wp2
  go_ret
  exact ⟨rfl, Below.refl _ _⟩
theorem tyTup (A : Option Addr) (n c : Nat) : TyOk 101 (.slice A n c) ⟨#[116, 117, 112, 108, 101]⟩ := by
  refine ⟨272, fun w => by kernel_rfl, fun w => by kernel_rfl, fun w => ?_⟩
  go_enter Tryz.func272, Tryz.ntmps272
  go_wp2
  go_ret
  exact ⟨rfl, Below.refl _ _⟩

theorem sameTy {T T' : TypeId} {v v' : Value} {nm nm' : ByteArray} (h : TyOk T v nm) (h' : TyOk T' v' nm') (w : World) : Calls Tryz.prog 151 #[.iface T v, .iface T' v'] w fun e w' => e = .returned (.bool (nm.toList == nm'.toList)) ∧ Below w.heap.size w w' := by
  obtain ⟨F, h1, h3, h2⟩ := h
  obtain ⟨F', h1', h3', h2'⟩ := h'
  have H2 := Lib.hid h2
  have H2' := Lib.hid h2'
  clear h2 h2'
  go_enter Tryz.func151, Tryz.ntmps151
  go_wp2_with fail
  refine (H2.out _).mono ?_
  rintro e w1 ⟨rfl, hb1⟩
  have HB1 := Lib.hid hb1
  clear hb1
  go_wp2_with fail
  refine (H2'.out _).mono ?_
  rintro e w2 ⟨rfl, hb2⟩
  have HB2 := Lib.hid (below_up HB1.out hb2)
  clear hb2
  go_wp2

  go_ret
  exact ⟨rfl, HB2.out⟩
end Go.Proofs.YtloloifngbmibaaGreatDoor
set_option linter.unusedVariables false
set_option linter.unusedSimpArgs false
set_option maxRecDepth 4000
namespace Go.Proofs.YtloloifngbmibaaGreatDoor
open Go.RowKit

/-- What a comparison for equality hands back: if it says so, P. -/
def CmpOut (P : Prop) (w : World) (e : Ending) (w' : World) : Prop := ∃ r : Bool, e = .returned (.tuple #[.bool r, .nilIface]) ∧ (r = true → P) ∧ Below w.heap.size w w'
theorem CmpOut.mk' {P : Prop} {w w' : World} {r : Bool} (hp : r = true → P) (h : Below w.heap.size w w') : CmpOut P w (.returned (.tuple #[.bool r, .nilIface])) w' := ⟨r, rfl, hp, h⟩

theorem three37 (c : Int) (w : World) : Calls Tryz.prog 152 #[.int .i8 37, .int .i64 c] w fun e w' => ∃ r : Bool, e = .returned (.bool r) ∧ (r = true → c = 0) ∧ w' = w := by
  by_cases h : c = 0
  · subst h
    go_enter Tryz.func152, Tryz.ntmps152
    go_wp2
    go_ret
    exact ⟨true, rfl, fun _ => trivial, rfl⟩
  · have h0 := beq_no h
    clear h
    go_enter Tryz.func152, Tryz.ntmps152
    go_wp2
    go_ret
    exact ⟨false, rfl, (fun h => nomatch h), rfl⟩
theorem b2i_any (b : Bool) (w : World) : Calls Tryz.prog 320 #[.bool b] w fun e w' => e = .returned (.int .i64 (if b then 1 else 0)) ∧ w' = w := by
  cases b
  all_goals
    go_enter Tryz.func320, Tryz.ntmps320
    go_wp2
    go_ret
    exact ⟨rfl, rfl⟩

theorem cmpBytes_eq : ∀ (a b : List UInt8), Lib.compareBytes a b = 0 → a = b
  | [], [], _ => rfl
  | [], _ :: _, h => by simp [Lib.compareBytes] at h
  | _ :: _, [], h => by simp [Lib.compareBytes] at h
  | a :: l, b :: m, h => by
    unfold Lib.compareBytes at h
    by_cases h1 : a < b
    · rw [if_pos h1] at h
      exact absurd h (by decide)
    · rw [if_neg h1] at h
      by_cases h2 : b < a
      · rw [if_pos h2] at h
        exact absurd h (by decide)
      · rw [if_neg h2] at h
        rw [cmpBytes_eq l m h, UInt8.le_antisymm (UInt8.not_lt.1 h2) (UInt8.not_lt.1 h1)]

theorem cstBool (a b : Bool) (d : Int) (w : World) : Calls Tryz.prog 314 #[.bool a, .int .i8 37, .iface 146 (.bool b), .int .i64 d] w (CmpOut (a = b) w) := by
  have has : ∀ (W : World) (v : Value), (Instr.typeAssert (.iface 146 v) 64 146 false).run Tryz.prog W = .ok v W := fun _ _ => by kernel_rfl
  have H1 := Lib.hid (fun w => b2i_any a w)
  have H2 := Lib.hid (fun w => b2i_any b w)
  have HE : Hid ((if a then (1 : Int) else 0) - (if b then 1 else 0) = 0 → a = b) := Lib.hid (by cases a <;> cases b <;> simp)
  obtain ⟨x, hx⟩ : ∃ x : Int, x = if a then 1 else 0 := ⟨_, rfl⟩
  obtain ⟨y, hy⟩ : ∃ y : Int, y = if b then 1 else 0 := ⟨_, rfl⟩
  have hxy : IntKind.i64.wrap (x - y) = x - y := by rw [IntKind.wrap_i64, hx, hy]; split <;> split <;> omega
  rw [← hx] at H1 HE
  rw [← hy] at H2 HE
  have H3 := Lib.hid (fun w => three37 (x - y) w)
  clear hx hy
  go_enter Tryz.func314, Tryz.ntmps314
  go_wp2_with fail
  refine (H1.out _).mono ?_
  rintro e w1 ⟨rfl, rfl⟩
  go_wp2_with fail
  refine (H2.out _).mono ?_
  rintro e w1 ⟨rfl, rfl⟩
  go_wp2_with fail
  refine (H3.out _).mono ?_
  rintro e w1 ⟨r, rfl, hr, rfl⟩
  have HR : Hid (r = true → a = b) := Lib.hid fun h => HE.out (hr h)
  clear hr
  go_wp2
  go_ret2
  exact CmpOut.mk' HR.out (Below.refl _ _)

theorem cstStr (a b : ByteArray) (d : Int) (w : World) : Calls Tryz.prog 332 #[.string a, .int .i8 37, .iface 149 (.string b), .int .i64 d] w (CmpOut (a = b) w) := by
  have has : ∀ (W : World) (v : Value), (Instr.typeAssert (.iface 149 v) 64 149 false).run Tryz.prog W = .ok v W := fun _ _ => by kernel_rfl
  have H1 := Lib.hid (fun w => Tryz.strings_Compare a b w)
  have HE : Hid (Lib.compareBytes a.data.toList b.data.toList = 0 → a = b) := Lib.hid fun h => by
    have h1 := cmpBytes_eq _ _ h
    have h2 : a.data = b.data := Array.toList_inj.1 h1
    cases a
    cases b
    exact congrArg _ h2
  generalize Lib.compareBytes a.data.toList b.data.toList = x at H1 HE
  have H3 := Lib.hid (fun w => three37 x w)
  go_enter Tryz.func332, Tryz.ntmps332
  go_wp2_with fail
  refine (H1.out _).mono ?_
  rintro e w1 ⟨rfl, rfl⟩
  go_wp2_with fail
  refine (H3.out _).mono ?_
  rintro e w1 ⟨r, rfl, hr, rfl⟩
  have HR : Hid (r = true → a = b) := Lib.hid fun h => HE.out (hr h)
  clear hr
  go_wp2
  go_ret2
  exact CmpOut.mk' HR.out (Below.refl _ _)

theorem cstByt (a b : ByteArray) (d : Int) (w : World) : Calls Tryz.prog 343 #[.string a, .int .i8 37, .iface 150 (.string b), .int .i64 d] w (CmpOut (a = b) w) := by
  have has : ∀ (W : World) (v : Value), (Instr.typeAssert (.iface 150 v) 64 150 false).run Tryz.prog W = .ok v W := fun _ _ => by kernel_rfl
  have H1 := Lib.hid (fun w => Tryz.strings_Compare a b w)
  have HE : Hid (Lib.compareBytes a.data.toList b.data.toList = 0 → a = b) := Lib.hid fun h => by
    have h1 := cmpBytes_eq _ _ h
    have h2 : a.data = b.data := Array.toList_inj.1 h1
    cases a
    cases b
    exact congrArg _ h2
  generalize Lib.compareBytes a.data.toList b.data.toList = x at H1 HE
  have H3 := Lib.hid (fun w => three37 x w)
  go_enter Tryz.func343, Tryz.ntmps343
  go_wp2_with fail
  refine (H1.out _).mono ?_
  rintro e w1 ⟨rfl, rfl⟩
  go_wp2_with fail
  refine (H3.out _).mono ?_
  rintro e w1 ⟨r, rfl, hr, rfl⟩
  have HR : Hid (r = true → a = b) := Lib.hid fun h => HE.out (hr h)
  clear hr
  go_wp2
  go_ret2
  exact CmpOut.mk' HR.out (Below.refl _ _)
end Go.Proofs.YtloloifngbmibaaGreatDoor
set_option linter.unusedVariables false
set_option linter.unusedSimpArgs false
set_option maxRecDepth 4000
namespace Go.Proofs.YtloloifngbmibaaGreatDoor
open Go.RowKit

/-- The kind as Clean reckons it. -/
def kd (k : Int) : Int := (wrap64 (k.tmod 10 + 10)).tmod 10
theorem kd_bd (k : Int) : 0 ≤ kd k ∧ kd k ≤ 9 := by
  have h1 := Int.tmod_lt_of_pos k (show (0 : Int) < 10 by decide)
  have h2 := Int.lt_tmod_of_pos k (show (0 : Int) < 10 by decide)
  generalize hx : k.tmod 10 = x at h1 h2
  have e : wrap64 (x + 10) = x + 10 := by unfold wrap64; omega
  unfold kd
  rw [hx, e, Int.tmod_eq_emod_of_nonneg (by omega)]
  omega

theorem cln0 (k : Int) (n : Bool) (Am Aq : Option Addr) (nm cm nq cq : Nat) (b : Int) (s : ByteArray) (dp J : Int) (e : kd k = J) (hp : J = 0 ∨ (J = 6 ∧ dp ≤ 0))  (w : World) :
    Calls Tryz.prog 16 #[.agg #[.int .i64 k, .bool n, .slice Am nm cm, .int .u64 b, .string s, .slice Aq nq cq], .int .i64 dp] w fun e w' => e = .returned (.agg #[.int .i64 0, .bool false, .slice none 0 0, .int .u64 0, .string ⟨#[]⟩, .slice none 0 0]) ∧ Below w.heap.size w w' := by
  rcases hp with rfl | ⟨rfl, hd⟩
  · by_cases hd : dp ≤ 0
    all_goals
      go_enter Tryz.func16, Tryz.ntmps16
      go_upto_region 2 with fail
      rw [show (wrap64 (k.tmod 10 + 10)).tmod 10 = _ from e]
      clear e
      go_wp2
      refine bodyPost_ret (v := .agg #[.int .i64 0, .bool false, .slice none 0 0, .int .u64 0, .string ⟨#[]⟩, .slice none 0 0]) (by simp [results, Tryz.results16, go_sem]) rfl ⟨rfl, ?_⟩
      exact (((Below.refl _ _).alloc (Nat.le_refl _) _).alloc (by simp) _)
  ·
    go_enter Tryz.func16, Tryz.ntmps16
    go_upto_region 2 with fail
    rw [show (wrap64 (k.tmod 10 + 10)).tmod 10 = _ from e]
    clear e
    go_wp2
    refine bodyPost_ret (v := .agg #[.int .i64 0, .bool false, .slice none 0 0, .int .u64 0, .string ⟨#[]⟩, .slice none 0 0]) (by simp [results, Tryz.results16, go_sem]) rfl ⟨rfl, ?_⟩
    exact (((Below.refl _ _).alloc (Nat.le_refl _) _).alloc (by simp) _)

theorem cln3 (k : Int) (n : Bool) (Am Aq : Option Addr) (nm cm nq cq : Nat) (b : Int) (s : ByteArray) (dp J : Int) (e : kd k = J) (hp : J = 3 ∨ (J = 9 ∧ dp ≤ 0))  (w : World) :
    Calls Tryz.prog 16 #[.agg #[.int .i64 k, .bool n, .slice Am nm cm, .int .u64 b, .string s, .slice Aq nq cq], .int .i64 dp] w fun e w' => e = .returned (.agg #[.int .i64 3, .bool false, .slice none 0 0, .int .u64 b, .string ⟨#[]⟩, .slice none 0 0]) ∧ Below w.heap.size w w' := by
  rcases hp with rfl | ⟨rfl, hd⟩
  · by_cases hd : dp ≤ 0
    all_goals
      go_enter Tryz.func16, Tryz.ntmps16
      go_upto_region 2 with fail
      rw [show (wrap64 (k.tmod 10 + 10)).tmod 10 = _ from e]
      clear e
      go_wp2
      refine bodyPost_ret (v := .agg #[.int .i64 3, .bool false, .slice none 0 0, .int .u64 b, .string ⟨#[]⟩, .slice none 0 0]) (by simp [results, Tryz.results16, go_sem]) rfl ⟨rfl, ?_⟩
      exact (((Below.refl _ _).alloc (Nat.le_refl _) _).alloc (by simp) _)
  ·
    go_enter Tryz.func16, Tryz.ntmps16
    go_upto_region 2 with fail
    rw [show (wrap64 (k.tmod 10 + 10)).tmod 10 = _ from e]
    clear e
    go_wp2
    refine bodyPost_ret (v := .agg #[.int .i64 3, .bool false, .slice none 0 0, .int .u64 b, .string ⟨#[]⟩, .slice none 0 0]) (by simp [results, Tryz.results16, go_sem]) rfl ⟨rfl, ?_⟩
    exact (((Below.refl _ _).alloc (Nat.le_refl _) _).alloc (by simp) _)

theorem cln4 (k : Int) (n : Bool) (Am Aq : Option Addr) (nm cm nq cq : Nat) (b : Int) (s : ByteArray) (dp J : Int) (e : kd k = J) (hp : J = 4 ∨ (J = 10 ∧ dp ≤ 0)) (hs : s.size ≤ 9223372036854775807) (w : World) :
    Calls Tryz.prog 16 #[.agg #[.int .i64 k, .bool n, .slice Am nm cm, .int .u64 b, .string s, .slice Aq nq cq], .int .i64 dp] w fun e w' => e = .returned (.agg #[.int .i64 4, .bool false, .slice none 0 0, .int .u64 0, .string (s.extract 0 (min (s.size : Int) 60).toNat), .slice none 0 0]) ∧ Below w.heap.size w w' := by
  rcases hp with rfl | ⟨rfl, hd⟩
  · by_cases hd : dp ≤ 0
    all_goals
      go_enter Tryz.func16, Tryz.ntmps16
      go_upto_region 2 with fail
      rw [show (wrap64 (k.tmod 10 + 10)).tmod 10 = _ from e]
      clear e
      go_wp2
      refine bodyPost_ret (v := .agg #[.int .i64 4, .bool false, .slice none 0 0, .int .u64 0, .string (s.extract 0 (min (s.size : Int) 60).toNat), .slice none 0 0]) (by simp [results, Tryz.results16, go_sem]) rfl ⟨rfl, ?_⟩
      exact (((Below.refl _ _).alloc (Nat.le_refl _) _).alloc (by simp) _)
  ·
    go_enter Tryz.func16, Tryz.ntmps16
    go_upto_region 2 with fail
    rw [show (wrap64 (k.tmod 10 + 10)).tmod 10 = _ from e]
    clear e
    go_wp2
    refine bodyPost_ret (v := .agg #[.int .i64 4, .bool false, .slice none 0 0, .int .u64 0, .string (s.extract 0 (min (s.size : Int) 60).toNat), .slice none 0 0]) (by simp [results, Tryz.results16, go_sem]) rfl ⟨rfl, ?_⟩
    exact (((Below.refl _ _).alloc (Nat.le_refl _) _).alloc (by simp) _)

theorem cln5 (k : Int) (n : Bool) (Am Aq : Option Addr) (nm cm nq cq : Nat) (b : Int) (s : ByteArray) (dp J : Int) (e : kd k = J) (hp : J = 5 ∨ (J = 11 ∧ dp ≤ 0)) (hs : s.size ≤ 9223372036854775807) (w : World) :
    Calls Tryz.prog 16 #[.agg #[.int .i64 k, .bool n, .slice Am nm cm, .int .u64 b, .string s, .slice Aq nq cq], .int .i64 dp] w fun e w' => e = .returned (.agg #[.int .i64 5, .bool false, .slice none 0 0, .int .u64 0, .string (s.extract 0 (min (s.size : Int) 60).toNat), .slice none 0 0]) ∧ Below w.heap.size w w' := by
  rcases hp with rfl | ⟨rfl, hd⟩
  · by_cases hd : dp ≤ 0
    all_goals
      go_enter Tryz.func16, Tryz.ntmps16
      go_upto_region 2 with fail
      rw [show (wrap64 (k.tmod 10 + 10)).tmod 10 = _ from e]
      clear e
      go_wp2
      refine bodyPost_ret (v := .agg #[.int .i64 5, .bool false, .slice none 0 0, .int .u64 0, .string (s.extract 0 (min (s.size : Int) 60).toNat), .slice none 0 0]) (by simp [results, Tryz.results16, go_sem]) rfl ⟨rfl, ?_⟩
      exact (((Below.refl _ _).alloc (Nat.le_refl _) _).alloc (by simp) _)
  ·
    go_enter Tryz.func16, Tryz.ntmps16
    go_upto_region 2 with fail
    rw [show (wrap64 (k.tmod 10 + 10)).tmod 10 = _ from e]
    clear e
    go_wp2
    refine bodyPost_ret (v := .agg #[.int .i64 5, .bool false, .slice none 0 0, .int .u64 0, .string (s.extract 0 (min (s.size : Int) 60).toNat), .slice none 0 0]) (by simp [results, Tryz.results16, go_sem]) rfl ⟨rfl, ?_⟩
    exact (((Below.refl _ _).alloc (Nat.le_refl _) _).alloc (by simp) _)

end Go.Proofs.YtloloifngbmibaaGreatDoor
