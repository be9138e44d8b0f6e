/- Walks of the small functions that FnStack reaches. -/
import Derived.Test.YtgcdcchmdcdflaaDoorFr
set_option linter.unusedVariables false
namespace Go.Proofs.YtgcdcchmdcdflaaDoor
open Go.RowKit

theorem fits4_any (s : ByteArray) (a b : Int) (w : World) :
    Calls Tryd.prog 7 #[.agg #[.string s, .int .i64 a, .int .i64 b]] w fun e w' => ∃ r, e = .returned (.bool r) ∧ Below w.heap.size w w' := by
  have hb := Lib.hid ((Below.refl w.heap.size w).alloc (Nat.le_refl _) (.cells #[.string s, .int .i64 a, .int .i64 b] 30))
  go_enter Tryd.func7, Tryd.ntmps7
  go_wp2
  all_goals go_ret
  all_goals exact ⟨_, rfl, hb.out⟩

theorem makePos_any (p : Addr) (a b : Int) (w : World) :
    Calls Tryd.prog 8 #[.pointer (some p), .int .i32 a, .int .i32 b] w fun e w' => e = .returned (.agg #[.pointer (some p), .int .i32 a, .int .i32 b]) ∧ Below w.heap.size w w' := by
  have hb := Lib.hid ((Below.refl w.heap.size w).alloc (Nat.le_refl _) (.cells #[.pointer (some p), .int .i32 a, .int .i32 b] 39))
  go_enter Tryd.func8, Tryd.ntmps8
  go_wp2
  exact bodyPost_ret (v := .agg #[.pointer (some p), .int .i32 a, .int .i32 b]) (by simp [results, Tryd.results8, go_sem]) rfl ⟨rfl, hb.out⟩

theorem told_any (s : ByteArray) (v : Value) (a b : Int) (ha : 1 ≤ a ∧ a ≤ 100000) (hb : 1 ≤ b ∧ b ≤ 100000) (w : World) :
    Calls Tryd.prog 11 #[.agg #[.string s, v, .int .i32 a, .int .i32 b]] w fun e w' => e = .returned (.agg #[.string s, .int .i64 a, .int .i64 b]) ∧ Below w.heap.size w w' := by
  have hw : IntKind.i64.wrap a = a ∧ IntKind.i64.wrap b = b := by simp only [IntKind.wrap_i64]; omega
  have hbel := Lib.hid (((Below.refl w.heap.size w).alloc (Nat.le_refl _) (.cells #[.string s, v, .int .i32 a, .int .i32 b] 42)).alloc (by simp) (.cells #[.string s, .int .i64 a, .int .i64 b] 30))
  obtain ⟨e1, e2⟩ := hw
  clear ha hb
  go_enter Tryd.func11, Tryd.ntmps11
  go_wp2
  exact bodyPost_ret (v := .agg #[.string s, .int .i64 a, .int .i64 b]) (by simp [results, Tryd.results11, go_sem]) rfl ⟨rfl, hbel.out⟩

theorem fits3_any (S : Nat → Prop) (A : Option Addr) (c : Nat) (l : List Fr) (hlen : l.length ≤ 9223372036854775807) (w : World) (h : Rd w S A (frs l)) (hS : ∀ k, S k → k < w.heap.size) :
    Calls Tryd.prog 4 #[.slice A l.length c] w fun e w' => ∃ r, e = .returned (.bool r) ∧ Below w.heap.size w w' := by
  have H : Hid (∀ W : World, Below w.heap.size w W → Rd W S A (frs l)) := fun W hW => h.keep (still_below hW hS)
  have HN := Lib.hid hlen
  have h0 := Lib.hid (Below.refl w.heap.size w)
  clear h hS hlen
  go_enter Tryd.func4, Tryd.ntmps4
  have hd : ∃ d : Bool, decide ((2147483647 : Int) < (l.length : Int)) = d := ⟨_, rfl⟩
  obtain ⟨d, hd⟩ := hd
  cases d with
  | true =>
    go_wp2
    go_ret
    exact ⟨_, rfl, h0.out⟩
  | false =>
    go_wp2
    clear hd
    go_loopw [10] (fun i wr => ∃ k : Nat, i = .int .i64 (k : Int) ∧ k ≤ l.length ∧ Hid (Below w.heap.size w wr)) (fun i _ => ((l.length : Int) - intOf i).toNat)
    case atStart => exact ⟨0, rfl, by omega, h0⟩
    case round =>
      obtain ⟨k, rfl, hk, hb⟩ := hrel
      by_cases hlt : k < l.length
      · obtain ⟨f, hf, b, o, rfl, hSb, c0, c1, c2⟩ := rd_fr (H.out _ hb.out) hlt
        have HL := HN.out
        go_wp2_with fail
        refine (fits4_any _ _ _ _).mono ?_
        rintro e w2 ⟨r, rfl, hb2⟩
        have hb3 := Lib.hid (below_up (below_al hb.out _) hb2)
        clear hb2
        cases r with
        | false =>
          go_wp2
          go_ret
          exact ⟨_, rfl, hb3.out⟩
        | true =>
          go_wp2
          go_roundw
          case rel => exact ⟨k + 1, by simp, by omega, hb3⟩
          case measure => simp [intOf]; omega
      · have : k = l.length := by omega
        subst this
        go_wp2
        go_ret
        exact ⟨_, rfl, hb.out⟩
end Go.Proofs.YtgcdcchmdcdflaaDoor
