/- Walk of the reference's Same at two Vals of the kind Int that are told alike. -/
import Derived.Test.YtgcdcchmdcdflaaVal
set_option linter.unusedVariables false
namespace Go.Proofs.Ytgcdcchmdcdflaa
open Go.RowKit

/-- An integer of the reference that is there in a world. -/
def HSp (v : Value) (neg : Bool) (mag : List Int) (W : World) : Prop := ∃ S : Nat → Prop, SpI W S v neg mag ∧ ∀ k, S k → k < W.heap.size
theorem HSp.up {v : Value} {neg : Bool} {mag : List Int} {W W' : World} (hb : Below W.heap.size W W') (h : HSp v neg mag W) : HSp v neg mag W' := by
  obtain ⟨S, h1, h2⟩ := h
  exact ⟨S, h1.keep (still_below hb h2), fun k hk => Nat.lt_of_lt_of_le (h2 k hk) hb.size⟩
theorem cmp_held {v v' : Value} {n1 n2 : Bool} {a b : List Int} {W : World} (hn : a.length ≤ 9223372036854775807) (hn' : b.length ≤ 9223372036854775807) (h : HSp v n1 a W) (h' : HSp v' n2 b W) :
    Calls Try.prog 17 #[v, v'] W fun e w' => e = .returned (.int .i64 (cmpI n1 a n2 b)) ∧ Below W.heap.size W w' := by
  obtain ⟨S, h1, h2⟩ := h
  obtain ⟨S', h1', h2'⟩ := h'
  exact cmp_any S S' v v' n1 n2 a b hn hn' W h1 h1' h2 h2'

/-- The cells of two boxed Vals. -/
def Kin2 (w : World) (x0 x1 x2 x3 x4 x5 y0 y1 y2 y3 y4 y5 : Value) (W : World) : Prop :=
  Below w.heap.size w W ∧ W.cell? ⟨w.heap.size, 0, none⟩ = some x0 ∧ W.cell? ⟨w.heap.size, 1, none⟩ = some x1 ∧ W.cell? ⟨w.heap.size, 2, none⟩ = some x2 ∧ W.cell? ⟨w.heap.size, 3, none⟩ = some x3 ∧ W.cell? ⟨w.heap.size, 4, none⟩ = some x4 ∧ W.cell? ⟨w.heap.size, 5, none⟩ = some x5 ∧
    W.cell? ⟨w.heap.size + 1, 0, none⟩ = some y0 ∧ W.cell? ⟨w.heap.size + 1, 1, none⟩ = some y1 ∧ W.cell? ⟨w.heap.size + 1, 2, none⟩ = some y2 ∧ W.cell? ⟨w.heap.size + 1, 3, none⟩ = some y3 ∧ W.cell? ⟨w.heap.size + 1, 4, none⟩ = some y4 ∧ W.cell? ⟨w.heap.size + 1, 5, none⟩ = some y5
theorem Kin2.up {w W W' : World} {x0 x1 x2 x3 x4 x5 y0 y1 y2 y3 y4 y5 : Value} (hb : Below W.heap.size W W') (h : Kin2 w x0 x1 x2 x3 x4 x5 y0 y1 y2 y3 y4 y5 W) : Kin2 w x0 x1 x2 x3 x4 x5 y0 y1 y2 y3 y4 y5 W' := by
  obtain ⟨h0, h1, h2, h3, h4, h5, h6, h7, h8, h9, h10, h11, h12⟩ := h
  exact ⟨below_up h0 hb, cell_up hb h1, cell_up hb h2, cell_up hb h3, cell_up hb h4, cell_up hb h5, cell_up hb h6, cell_up hb h7, cell_up hb h8, cell_up hb h9, cell_up hb h10, cell_up hb h11, cell_up hb h12⟩
theorem Kin2.at_ {w : World} {x0 x1 x2 x3 x4 x5 y0 y1 y2 y3 y4 y5 : Value} {t : TypeId} : Kin2 w x0 x1 x2 x3 x4 x5 y0 y1 y2 y3 y4 y5 (((w.alloc (.cells #[x0, x1, x2, x3, x4, x5] t)).alloc (.cells #[y0, y1, y2, y3, y4, y5] t)).drew) :=
  ⟨(((Below.refl _ _).alloc (Nat.le_refl _) _).alloc (by simp) _).drew, by simp, by simp, by simp, by simp, by simp, by simp, by simp, by simp, by simp, by simp, by simp, by simp⟩

theorem same_int (S S' : Nat → Prop) (neg : Bool) (v v' : Value) (l : List Int) (hn : l.length ≤ 140737488355328) (w : World) (h : SlV w S .u8 v l) (h' : SlV w S' .u8 v' l) (hS : ∀ k, S k → k < w.heap.size) (hS' : ∀ k, S' k → k < w.heap.size) :
    Calls Try.prog 8 #[.agg #[.int .i64 2, .bool neg, v, .int .u64 0, .string { data := #[] }, .slice none 0 0], .agg #[.int .i64 2, .bool neg, v', .int .u64 0, .string { data := #[] }, .slice none 0 0]] w fun e w' => e = .returned (.bool true) ∧ Below w.heap.size w w' := by
  have HX : Hid (∀ W : World, Below w.heap.size w W → Calls Try.prog 16 #[.agg #[.int .i64 2, .bool neg, v, .int .u64 0, .string { data := #[] }, .slice none 0 0]] W fun e w' => ∃ v', e = .returned v' ∧ HSp v' (sgn2 neg (strip l)) (strip l) w' ∧ Below W.heap.size W w') :=
    fun W hW => (num_any S 2 neg v l 0 _ _ rfl hn W (h.keep (still_below hW hS)) (fun k hk => Nat.lt_of_lt_of_le (hS k hk) hW.size)).mono fun e w' ⟨v', he, hs, hb⟩ => ⟨v', he, ⟨_, hs, fun k hk => hk.2⟩, hb⟩
  have HY : Hid (∀ W : World, Below w.heap.size w W → Calls Try.prog 16 #[.agg #[.int .i64 2, .bool neg, v', .int .u64 0, .string { data := #[] }, .slice none 0 0]] W fun e w' => ∃ v', e = .returned v' ∧ HSp v' (sgn2 neg (strip l)) (strip l) w' ∧ Below W.heap.size W w') :=
    fun W hW => (num_any S' 2 neg v' l 0 _ _ rfl hn W (h'.keep (still_below hW hS')) (fun k hk => Nat.lt_of_lt_of_le (hS' k hk) hW.size)).mono fun e w' ⟨v', he, hs, hb⟩ => ⟨v', he, ⟨_, hs, fun k hk => hk.2⟩, hb⟩
  obtain ⟨A, c, rfl, _, _⟩ := h
  obtain ⟨A', c', rfl, _, _⟩ := h'
  have hc0 : cmpI (sgn2 neg (strip l)) (strip l) (sgn2 neg (strip l)) (strip l) = 0 := by
    simp [cmpI, ordL_self]
  have e0 := beq_yes hc0
  have hsl : (strip l).length ≤ 9223372036854775807 := by
    have : (strip l).length ≤ l.length := by simp [strip]
    omega
  have HSL := Lib.hid hsl
  have e1 : (neg == neg) = true := by cases neg <;> rfl
  have h0 : Hid (Kin2 w _ _ _ _ _ _ _ _ _ _ _ _ _) := Kin2.at_ (w := w) (t := 26) (x0 := .int .i64 2) (x1 := .bool neg) (x2 := .slice A l.length c) (x3 := .int .u64 0) (x4 := .string { data := #[] }) (x5 := .slice none 0 0) (y0 := .int .i64 2) (y1 := .bool neg) (y2 := .slice A' l.length c') (y3 := .int .u64 0) (y4 := .string { data := #[] }) (y5 := .slice none 0 0)
  have hstep := Lib.hid (fun W W' hb h => Kin2.up (w := w) (W := W) (W' := W') (x0 := .int .i64 2) (x1 := .bool neg) (x2 := .slice A l.length c) (x3 := .int .u64 0) (x4 := .string { data := #[] }) (x5 := .slice none 0 0) (y0 := .int .i64 2) (y1 := .bool neg) (y2 := .slice A' l.length c') (y3 := .int .u64 0) (y4 := .string { data := #[] }) (y5 := .slice none 0 0) hb h)
  clear hc0 hsl hS hS' hn
  go_enter Try.func8, Try.ntmps8
  go_wp2
  go_region_held3 (fun W => Below w.heap.size w W ∧ W.cell? ⟨w.heap.size, 0, none⟩ = some (.int .i64 2) ∧ W.cell? ⟨w.heap.size, 1, none⟩ = some (.bool neg) ∧ W.cell? ⟨w.heap.size, 2, none⟩ = some (.slice A l.length c) ∧ W.cell? ⟨w.heap.size, 3, none⟩ = some (.int .u64 0) ∧ W.cell? ⟨w.heap.size, 4, none⟩ = some (.string { data := #[] }) ∧ W.cell? ⟨w.heap.size, 5, none⟩ = some (.slice none 0 0) ∧
      W.cell? ⟨w.heap.size + 1, 0, none⟩ = some (.int .i64 2) ∧ W.cell? ⟨w.heap.size + 1, 1, none⟩ = some (.bool neg) ∧ W.cell? ⟨w.heap.size + 1, 2, none⟩ = some (.slice A' l.length c') ∧ W.cell? ⟨w.heap.size + 1, 3, none⟩ = some (.int .u64 0) ∧ W.cell? ⟨w.heap.size + 1, 4, none⟩ = some (.string { data := #[] }) ∧ W.cell? ⟨w.heap.size + 1, 5, none⟩ = some (.slice none 0 0))
    (first | exact h0.out | exact hstep.out _ _ ‹Below _ _ _› h0.out | exact hstep.out _ _ ‹Below _ _ _› (by assumption))
    (first
      | (go_at_call 16; (with_reducible refine (HX.out _ ?_).mono ?_); (first | exact h0.out.1 | exact (‹Below w.heap.size w _ ∧ _›).1); rintro e w' ⟨v1, rfl, hv, hb⟩)
      | (go_at_call 16; (with_reducible refine (HY.out _ ?_).mono ?_); (first | exact h0.out.1 | exact (‹Below w.heap.size w _ ∧ _›).1); rintro e w' ⟨v1, rfl, hv, hb⟩)
      | (go_at_call 17; refine (cmp_held (n1 := sgn2 neg (strip l)) (n2 := sgn2 neg (strip l)) (a := strip l) (b := strip l) HSL.out HSL.out (HSp.up ‹Below _ _ _› ‹HSp _ _ _ _›) ‹HSp _ _ _ _›).mono ?_; rintro e w' ⟨rfl, hb⟩))
  obtain ⟨hB, _⟩ := ‹Below w.heap.size w _ ∧ _›
  clear h0 hstep HX HY
  go_wp2
  go_ret
  exact ⟨rfl, hB⟩
end Go.Proofs.Ytgcdcchmdcdflaa
