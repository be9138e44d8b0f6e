/- Walks of package bigall's small functions on a magnitude that is nil at first. -/
import Derived.Test.YtgcdcchmdcdflaaBase
set_option linter.unusedVariables false
namespace Go.Proofs.Ytgcdcchmdcdflaa
open Go.RowKit

theorem make_nil0 (w : World) :
    Calls Try.prog 38 #[.slice none 0 0, .int .i64 0] w fun e w' => e = .returned (.slice none 0 0) ∧ w = w' := by
  go_enter Try.func38, Try.ntmps38
  go_wp2
  go_ret
  exact ⟨rfl, rfl⟩

theorem make_nil1 (w : World) :
    Calls Try.prog 38 #[.slice none 0 0, .int .i64 1] w fun e w' => e = .returned (.slice (some ⟨w.heap.size, 0, none⟩) 1 1) ∧ w.alloc (.cells #[.int .u64 0] 71) = w' := by
  have hmk : ∀ w, (Instr.makeSlice 61 (.int .i64 1) (.int .i64 1)).run Try.prog w = .ok (.slice (some ⟨w.heap.size, 0, none⟩) 1 1) (w.alloc (.cells #[.int .u64 0] 71)) := fun _ => by kernel_rfl
  go_enter Try.func38, Try.ntmps38
  go_wp2
  go_ret
  exact ⟨rfl, rfl⟩

theorem info_word : (Try.prog.info? 71).map (fun i => (i.zero, i.size, i.bytes)) = some (some (.int .u64 0), 1, 8) := by kernel_rfl

theorem make_niln (n : Nat) (h1 : 2 ≤ n) (h2 : n ≤ 4294967296) (w : World) :
    Calls Try.prog 38 #[.slice none 0 0, .int .i64 n] w fun e w' => e = .returned (.slice (some ⟨w.heap.size, 0, none⟩) n (n + 4)) ∧ w.alloc (.cells (madeCells #[.int .u64 0] (n + 4)) 71) = w' := by
  obtain ⟨i0, hi, hz0, hz1, hz2⟩ := info_parts info_word
  have hmk : ∀ w, (Instr.makeSlice 61 (.int .i64 (n : Int)) (.int .i64 ((n : Int) + 4))).run Try.prog w = .ok (.slice (some ⟨w.heap.size, 0, none⟩) n (n + 4)) (w.alloc (.cells (madeCells #[.int .u64 0] (n + 4)) 71)) := fun w => by
    have h := run_make (P := Try.prog) w 61 71 i0 (.int .u64 0) Try.underlying61 hi hz0 .i64 .i64 (n : Int) ((n : Int) + 4) (by omega) (by omega) (by rw [hz2]; omega) (by omega)
    rw [hz1] at h
    have e : ((n : Int) + 4).toNat = n + 4 := by omega
    simpa [e, Value.cells] using h
  go_enter Try.func38, Try.ntmps38
  go_wp2
  go_ret
  exact ⟨rfl, rfl⟩

theorem setWord_nil0 (w : World) :
    Calls Try.prog 37 #[.slice none 0 0, .int .u64 0] w fun e w' => e = .returned (.slice none 0 0) ∧ w = w' := by
  go_enter Try.func37, Try.ntmps37
  go_wp2
  go_ret
  exact ⟨rfl, rfl⟩

theorem setWord_nil1 (x : Int) (hx : ¬ x = 0) (w : World) :
    Calls Try.prog 37 #[.slice none 0 0, .int .u64 x] w fun e w' => e = .returned (.slice (some ⟨w.heap.size, 0, none⟩) 1 1) ∧ w.alloc (.cells #[.int .u64 x] 71) = w' := by
  have hx0 := beq_no hx
  clear hx
  go_enter Try.func37, Try.ntmps37
  go_wp2_with (go_at_call 38; refine (make_nil1 _).mono ?_; rintro e w' ⟨rfl, rfl⟩)
  go_ret
  exact ⟨rfl, rfl⟩

theorem setUint64_nil0 (w : World) :
    Calls Try.prog 34 #[.slice none 0 0, .int .u64 0] w fun e w' => e = .returned (.slice none 0 0) ∧ w = w' := by
  go_enter Try.func34, Try.ntmps34
  go_wp2_with (go_at_call 37; refine (setWord_nil0 _).mono ?_; rintro e w' ⟨rfl, rfl⟩)
  go_ret
  exact ⟨rfl, rfl⟩

theorem setUint64_nil1 (x : Int) (hx : ¬ x = 0) (h0 : 0 ≤ x) (h1 : x ≤ 18446744073709551615) (w : World) :
    Calls Try.prog 34 #[.slice none 0 0, .int .u64 x] w fun e w' => e = .returned (.slice (some ⟨w.heap.size, 0, none⟩) 1 1) ∧ w.alloc (.cells #[.int .u64 x] 71) = w' := by
  have hx' := Lib.hid hx
  clear hx
  go_enter Try.func34, Try.ntmps34
  go_wp2_with (go_at_call 37; refine (setWord_nil1 _ hx'.out _).mono ?_; rintro e w' ⟨rfl, rfl⟩)
  go_ret
  exact ⟨rfl, rfl⟩

theorem set_nil0 (A : Option Addr) (c : Nat) (w : World) :
    Calls Try.prog 36 #[.slice none 0 0, .slice A 0 c] w fun e w' => e = .returned (.slice none 0 0) ∧ w = w' := by
  go_enter Try.func36, Try.ntmps36
  go_wp2_with (first | (go_at_call 38; refine (make_nil0 _).mono ?_; rintro e w' ⟨rfl, rfl⟩) | (refine wpList_copy_nothing rfl _ _ 61 61 rfl 71 Try.underlying61 (by kernel_rfl) none A 0 0 0 c rfl rfl rfl ?_))
  go_ret
  exact ⟨rfl, rfl⟩

theorem size_word : (Try.prog.info? 71).map (·.size) = some 1 := by kernel_rfl

/-- What a copy of a magnitude is: a new block with some room. -/
def Copied (w : World) (xs : List Int) (v : Value) (w' : World) : Prop :=
  ∃ zs : List Int, v = .slice (some ⟨w.heap.size, 0, none⟩) xs.length (xs ++ zs).length ∧ w' = w.alloc (.cells (ints .u64 (xs ++ zs)).toArray 71)

theorem set_nil (S : Nat → Prop) (A : Option Addr) (c : Nat) (xs : List Int) (h0 : 0 < xs.length) (h1 : xs.length ≤ 4294967296) (w : World) (hr : Rd w S A (ints .u64 xs)) :
    Calls Try.prog 36 #[.slice none 0 0, .slice A xs.length c] w fun e w' => ∃ v, e = .returned v ∧ Copied w xs v w' := by
  obtain ⟨b, o, rfl, hS, hc⟩ := hr (by rw [ints_length]; exact h0)
  have hb : b < w.heap.size := World.block_lt_of_cell? w ⟨b, o + 0, none⟩ (hc 0 _ (ints_get _ _ 0 h0))
  have hc1 : Hid (∀ (o' : Obj) (j : Nat) (v : Value), (ints .u64 xs)[j]? = some v → (w.alloc o').cell? ((⟨b, o, none⟩ : Addr).add j) = some v) := by
    intro o' j v hj
    have e : (⟨b, o, none⟩ : Addr).add j = ⟨b, o + j, none⟩ := by unfold Addr.add; split <;> simp_all
    rw [e, World.cell?_alloc_lt w _ _ hb]
    exact hc j v hj
  clear hc hr
  by_cases hn : xs.length = 1
  · obtain ⟨x, rfl⟩ : ∃ x, xs = [x] := by
      match xs, hn with
      | [x], _ => exact ⟨x, rfl⟩
    clear hn h0 h1
    have hm : Calls Try.prog 36 #[.slice none 0 0, .slice (some ⟨b, o, none⟩) 1 c] w fun e w' => e = .returned (.slice (some ⟨w.heap.size, 0, none⟩) 1 1) ∧ w.alloc (.cells (ints .u64 [x]).toArray 71) = w' := by
      go_enter Try.func36, Try.ntmps36
      go_wp2_with (first | (go_at_call 38; refine (make_nil1 _).mono ?_; rintro e w' ⟨rfl, rfl⟩) | (refine wpList_copy_own rfl _ _ 61 61 rfl 71 Try.underlying61 size_word w.heap.size 0 1 1 ⟨b, o, none⟩ 1 c rfl rfl #[.int .u64 0] 71 (heap_alloc_new w _) (ints .u64 [x]) rfl (hc1.out _) (by simp [ints]) (ints_one _ _) ?_; rw [setRow_alloc]))
      go_ret
      exact ⟨rfl, rfl⟩
    exact hm.mono fun e w' ⟨he, hw⟩ => ⟨_, he, [], by simp, by simpa using hw.symm⟩
  · have hn2 : 2 ≤ xs.length := by omega
    clear hn h0
    obtain ⟨n, hn⟩ : ∃ n, n = xs.length := ⟨_, rfl⟩
    rw [← hn] at hn2 h1 ⊢
    have hm : Calls Try.prog 36 #[.slice none 0 0, .slice (some ⟨b, o, none⟩) n c] w fun e w' => e = .returned (.slice (some ⟨w.heap.size, 0, none⟩) n (n + 4)) ∧ w.alloc (.cells (ints .u64 (xs ++ [0, 0, 0, 0])).toArray 71) = w' := by
      have H := Lib.hid hn
      clear hn
      have hfin : Hid (((madeCells #[Value.int .u64 0] (n + 4)).toList.take 0 ++ (ints .u64 xs ++ (madeCells #[Value.int .u64 0] (n + 4)).toList.drop (0 + (ints .u64 xs).length))).toArray = (ints .u64 (xs ++ [0, 0, 0, 0])).toArray) := by
        show _ = _
        rw [ints_append, ints_length, ← H.out]
        congr 1
        simp only [List.take_zero, List.nil_append, Nat.zero_add]
        congr 1
        rw [madeCells_one]
        simp [ints, List.drop_replicate]
      go_enter Try.func36, Try.ntmps36
      go_wp2_with (first | (go_at_call 38; refine (make_niln n hn2 h1 _).mono ?_; rintro e w' ⟨rfl, rfl⟩) | (refine wpList_copy_own rfl _ _ 61 61 rfl 71 Try.underlying61 size_word w.heap.size 0 n (n + 4) ⟨b, o, none⟩ n c rfl rfl (madeCells #[.int .u64 0] (n + 4)) 71 (heap_alloc_new w _) (ints .u64 xs) (by rw [ints_length, ← H.out]; exact (Nat.min_self n).symm) (hc1.out _) (by rw [ints_length, ← H.out, size_madeCells]; omega) (ints_one _ _) ?_; rw [setRow_alloc, hfin.out]))
      go_ret
      exact ⟨rfl, rfl⟩
    exact hm.mono fun e w' ⟨he, hw⟩ => ⟨_, he, [0, 0, 0, 0], by simp [hn], hw.symm⟩

end Go.Proofs.Ytgcdcchmdcdflaa
