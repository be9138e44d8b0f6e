/- Walk of Position.String. -/
import Derived.Test.YtgcdcchmdcdflaaDoorBld
import Derived.Test.YtgcdcchmdcdflaaDoorUp
import Derived.Test.YtgcdcchmdcdflaaDoorShelf
import Derived.Lib.SmallJoins
import Derived.Lib.ItoaLen
import Derived.Lib.AppendIntMem
import Derived.Deep.RegionHeld3
set_option linter.unusedVariables false
namespace Go.Proofs.YtgcdcchmdcdflaaDoor
open Go.RowKit

theorem gPow : Tryd.prog.globalNamed "internal/strconv.uint64pow10" = some 0 := by kernel_rfl
abbrev Tab (w : World) : Prop := Lib.TabIs Tryd.prog w "internal/strconv.uint64pow10" .u64 Lib.pow10Tab
theorem tab_up {w w' : World} (h : Tab w) (hb : Below w.heap.size w w') : Tab w' := Go.Joins.tab_stays gPow h hb (Nat.le_refl _)

/-- What Itoa tells. -/
def it (n : Int) : ByteArray := ⟨(Lib.itoa n).toArray⟩
theorem it_size (n : Int) (h0 : 0 ≤ n) (h1 : n ≤ 100000) : (it n).size ≤ 21 := by
  have := Lib.itoa_length_le n (by omega) (by omega)
  show (Lib.itoa n).toArray.size ≤ 21
  simpa using this
theorem itoa_any (n : Int) (h0 : 0 ≤ n) (h1 : n ≤ 100000) (w : World) (h : Tab w) : Calls Tryd.prog 19 #[.int .i64 n] w fun e w' => e = .returned (.string (it n)) ∧ Below w.heap.size w w' := by
  refine (Tryd.strconv_Itoa n (by omega) (by omega) w h).mono ?_
  rintro e w' ⟨rfl, k, os, rfl⟩
  exact ⟨rfl, Lib.below_grow _ w (Nat.le_refl _) k os⟩

/-- What a position tells. -/
def posT (a b : Int) : ByteArray := ({ data := #[102] } ++ { data := #[58] } ++ it a ++ { data := #[58] }) ++ it b
theorem posT_size (a b : Int) (ha : 1 ≤ a ∧ a ≤ 100000) (hb : 1 ≤ b ∧ b ≤ 100000) : (posT a b).size ≤ 60 := by
  have h1 := it_size a (by omega) (by omega)
  have h2 := it_size b (by omega) (by omega)
  unfold posT
  simp only [ByteArray.size_append]
  show 1 + 1 + (it a).size + 1 + (it b).size ≤ 60
  omega

theorem pos_any (g : Nat) (a b : Int) (ha : 1 ≤ a ∧ a ≤ 100000) (hb : 1 ≤ b ∧ b ≤ 100000) (w : World) (h : w.cell? ⟨g, 0, none⟩ = some (.string { data := #[102] })) (hg : g < w.heap.size) (ht : Tab w) :
    Calls Tryd.prog 15 #[.agg #[.pointer (some ⟨g, 0, none⟩), .int .i32 a, .int .i32 b]] w fun e w' => e = .returned (.string (posT a b)) ∧ Below w.heap.size w w' := by
  have HA := Lib.hid ha
  have HB := Lib.hid hb
  have HT : Hid (∀ W : World, Below w.heap.size w W → Tab W) := Lib.hid fun W hW => tab_up ht hW
  have s1 := it_size a (by omega) (by omega)
  have s2 := it_size b (by omega) (by omega)
  have hbl := Lib.hid ((Below.refl w.heap.size w).alloc (Nat.le_refl _) (.cells #[.pointer (some ⟨g, 0, none⟩), .int .i32 a, .int .i32 b] 39))
  have ea : wrap64 a = a := by unfold wrap64; omega
  have eb : wrap64 b = b := by unfold wrap64; omega
  have da : decide (0 < a) = true := dec_yes (by omega)
  have db : decide (0 < b) = true := dec_yes (by omega)
  clear ht ha hb
  go_enter Tryd.func15, Tryd.ntmps15
  go_wp2_with fail
  refine (file_any g { data := #[102] } a b _ ((World.cell?_of_block (a := ⟨g, 0, none⟩) (Below.heap_alloc w _ g hg)).trans h) (by simp; omega)).mono ?_
  rintro e w1 ⟨rfl, hb1⟩
  have hB := below_up hbl.out hb1
  have hrow := (Blk.new w 39 #[.pointer (some ⟨g, 0, none⟩), .int .i32 a, .int .i32 b]).below hb1 (by simp)
  have c0 := hrow.cell 0
  have c1 := hrow.cell 1
  have c2 := hrow.cell 2
  simp at c0 c1 c2
  have HBL := Lib.hid hB
  clear hb1 hB hrow hbl h hg
  have h0 : Hid (Below w.heap.size w w1.drew ∧ w1.drew.cell? ⟨w.heap.size, 1, none⟩ = some (.int .i32 a) ∧ w1.drew.cell? ⟨w.heap.size, 2, none⟩ = some (.int .i32 b)) := Lib.hid ⟨HBL.out.drew, c1, c2⟩
  have hstep : Hid (∀ W W' : World, Below W.heap.size W W' → (Below w.heap.size w W ∧ W.cell? ⟨w.heap.size, 1, none⟩ = some (.int .i32 a) ∧ W.cell? ⟨w.heap.size, 2, none⟩ = some (.int .i32 b)) → (Below w.heap.size w W' ∧ W'.cell? ⟨w.heap.size, 1, none⟩ = some (.int .i32 a) ∧ W'.cell? ⟨w.heap.size, 2, none⟩ = some (.int .i32 b))) :=
    Lib.hid fun W W' hb h => ⟨below_up h.1 hb, cell_up hb h.2.1, cell_up hb h.2.2⟩
  have HIa : Hid (∀ W : World, Below w.heap.size w W → Calls Tryd.prog 19 #[.int .i64 (IntKind.i64.wrap a)] W fun e w' => e = .returned (.string (it a)) ∧ Below W.heap.size W w') := Lib.hid fun W hW => by rw [IntWalk.i64_left, ea]; exact itoa_any a (by have := HA.out; omega) (by have := HA.out; omega) W (HT.out W hW)
  have HIb : Hid (∀ W : World, Below w.heap.size w W → Calls Tryd.prog 19 #[.int .i64 (IntKind.i64.wrap b)] W fun e w' => e = .returned (.string (it b)) ∧ Below W.heap.size W w') := Lib.hid fun W hW => by rw [IntWalk.i64_left, eb]; exact itoa_any b (by have := HB.out; omega) (by have := HB.out; omega) W (HT.out W hW)
  have z1 : ¬ 9223372036854775807 < 2 + (it a).size := by omega
  have z2 : ¬ 9223372036854775807 < 2 + (it a).size + 1 := by omega
  have z3 : ¬ 9223372036854775807 < 2 + (it a).size + 1 + (it b).size := by omega
  clear s1 s2
  go_upto_region 4 with fail
  go_region_held3 (fun W => Below w.heap.size w W ∧ W.cell? ⟨w.heap.size, 1, none⟩ = some (.int .i32 a) ∧ W.cell? ⟨w.heap.size, 2, none⟩ = some (.int .i32 b)) (first | assumption | exact h0.out | exact hstep.out _ _ ‹Below _ _ _› h0.out | exact hstep.out _ _ ‹Below _ _ _› (by assumption))
    (first | (go_at_call 19; (with_reducible refine (HIa.out _ ?_).mono ?_); (first | exact h0.out.1 | exact (‹Below w.heap.size w _ ∧ _›).1); rintro e w' ⟨rfl, hb⟩) | (go_at_call 19; (with_reducible refine (HIb.out _ ?_).mono ?_); (first | exact h0.out.1 | exact (‹Below w.heap.size w _ ∧ _›).1); rintro e w' ⟨rfl, hb⟩))
  obtain ⟨hB, _⟩ := ‹Below w.heap.size w _ ∧ _›
  go_wp2
  go_ret
  exact ⟨rfl, hB⟩
end Go.Proofs.YtgcdcchmdcdflaaDoor
