/- Numbers of the language told as Vals: what is shared with MakeInts. -/
import Derived.Test.YtloloifngbmibaaGreatDoorM19
import Derived.Test.YtloloifngbmibaaGreatDoorM20
set_option linter.unusedVariables false
namespace Go.Proofs.YtloloifngbmibaaGreatDoor
open Go.RowKit
theorem lz_lt (l : List Int) (h : ∃ x ∈ l, ¬ x = 0) : lz l < l.length := by
  induction l with
  | nil => obtain ⟨x, hx, _⟩ := h; cases hx
  | cons y ys ih =>
    simp only [lz, List.length_cons]
    split
    · rename_i hy
      have : lz ys < ys.length := ih (by
        obtain ⟨x, hx, hx0⟩ := h
        rcases List.mem_cons.1 hx with rfl | hx
        · exact absurd hy hx0
        · exact ⟨x, hx, hx0⟩)
      omega
    · omega
theorem strip_be8_pos (u : Int) (h0 : 0 < u) (h1 : u < 18446744073709551616) : 0 < (strip (be8 u)).length := by
  have : lz (be8 u) < (be8 u).length := lz_lt _ (by
    by_cases hall : ∀ x ∈ be8 u, x = 0
    · exfalso
      simp only [be8, List.mem_cons, List.not_mem_nil, or_false, forall_eq_or_imp, forall_eq] at hall
      omega
    · simpa using hall)
  rw [strip, List.length_drop]
  omega
theorem strip_be8_zero : strip (be8 0) = [] := by decide
theorem strip_abs (x : Int) : strip (beB (absW x)) = strip (be8 (x.natAbs : Int)) := by
  unfold absW
  split
  · rename_i h
    subst h
    decide
  · simp [beB]
theorem neg_abs (x : Int) (h0 : -18446744073709551616 < x) (h1 : x < 18446744073709551616) : sgn2 (decide (x < 0)) (strip (be8 (x.natAbs : Int))) = decide (x < 0) := by
  by_cases h : x < 0
  · have := strip_be8_pos (x.natAbs : Int) (by omega) (by omega)
    simp [sgn2, h, this]
  · simp [sgn2, h]
theorem sgB_abs (x : Int) : decide (sgB (decide (x < 0)) (absW x) < 0) = decide (x < 0) := by
  unfold sgB absW
  by_cases h0 : x = 0
  · simp [h0]
  · by_cases h : x < 0
    · simp [h0, h]
    · simp [h0, h]
theorem sgB_false (l : List Int) : decide (sgB false l < 0) = false := by
  unfold sgB
  split <;> simp
theorem absW_bd (x : Int) (h0 : -18446744073709551616 < x) (h1 : x < 18446744073709551616) : ∀ y ∈ absW x, 0 ≤ y ∧ y < 18446744073709551616 := by
  unfold absW
  split
  · simp
  · intro y hy
    simp at hy
    omega

def HVal (v : Value) (neg : Bool) (mag : List Int) (W : World) : Prop := ∃ S : Nat → Prop, ValI W S v neg mag ∧ ∀ k, S k → k < W.heap.size
theorem ValI.keep {w w' : World} {S : Nat → Prop} {v : Value} {neg : Bool} {mag : List Int} (h : ValI w S v neg mag) (hk : Still S w w') : ValI w' S v neg mag := by
  obtain ⟨mv, h1, h2⟩ := h
  exact ⟨mv, h1, h2.keep hk⟩

theorem num_of (w : World) (v : Value) (neg nb : Bool) (x : Int) (hnb : decide (sgB neg (absW x) < 0) = nb) (h0 : -18446744073709551616 < x) (h1 : x < 18446744073709551616) (W : World) (h : NewI W v neg (absW x) w) :
    Calls Tryz.prog 60 #[v] w fun e w' => ∃ mv, e = .returned (.agg #[.int .i64 2, .bool nb, mv, .int .u64 0, .string { data := #[] }, .slice none 0 0]) ∧ SlV w' (Nw w w') .u8 mv (strip (be8 (x.natAbs : Int))) ∧ Below w.heap.size w w' := by
  obtain ⟨s, a, rfl, _, hb⟩ := h
  refine (number_any w _ s a neg (absW x) (Nat.le_trans (absW_len x) (by omega)) (absW_bd x h0 h1) hb (fun k hk => hk.2)).mono ?_
  rintro e w' ⟨v, he, ⟨mv, hv, hs⟩, hbe⟩
  refine ⟨mv, by rw [he, hv, hnb], ?_, hbe⟩
  rw [← strip_abs]
  exact hs

/-- A Val of the kind Int. -/
@[reducible] def valI (neg : Bool) (m : Value) : Value := .agg #[.int .i64 2, .bool neg, m, .int .u64 0, .string { data := #[] }, .slice none 0 0]
@[reducible] def valZ : Array Value := #[.int .i64 0, .bool false, .slice none 0 0, .int .u64 0, .string { data := #[] }, .slice none 0 0]
end Go.Proofs.YtloloifngbmibaaGreatDoor
