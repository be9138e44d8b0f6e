/- Walks of the reference's order and Cmp, bytesOf, Small, IntVal. Walks of the words' sums and products: bits.Add, bits.Sub, mulAddWWW. Walk of bitsDiv64, where the divisor's highest bit is set. -/
import Derived.Test.YtloloifngbmibaaGreatDoorM02
import Derived.Deep.QuietTactic
import Derived.BigQuiet
import Derived.Deep.RegionHeld3
import Derived.Test.YtloloifngbmibaaGreatDoorM01
import Derived.Test.YtloloifngbmibaaGreatDoorShelf
import Derived.Laws.Externs
import Derived.Lib.ItoaNum
import Derived.Deep.CutBlock
import Derived.Deep.DeepCutAuto
import Derived.Laws.Bits64b
set_option linter.unusedVariables false
set_option maxRecDepth 4000
namespace Go.Proofs.YtloloifngbmibaaGreatDoor
open Go.RowKit

/-- Two lists of one length, by the first place at which they differ. -/
def cmpL : List Int → List Int → Int
  | x :: xs, y :: ys => if x = y then cmpL xs ys else if x < y then -1 else 1
  | _, _ => 0
theorem cmpL_self (l : List Int) : cmpL l l = 0 := by
  induction l with
  | nil => rfl
  | cons x xs ih => simp [cmpL, ih]
/-- Two magnitudes. -/
def ordL (a b : List Int) : Int := if a.length = b.length then cmpL a b else if a.length < b.length then -1 else 1
theorem ordL_self (l : List Int) : ordL l l = 0 := by simp [ordL, cmpL_self]
def Cmpat (a b : List Int) (k : Nat) : Prop := cmpL (a.drop k) (b.drop k) = cmpL a b
theorem cmpat_eq (a b : List Int) (k : Nat) (h : Cmpat a b k) (ha : k < a.length) (hb : k < b.length) : cmpL a b = if (a[k]?.getD 0) = (b[k]?.getD 0) then cmpL (a.drop (k + 1)) (b.drop (k + 1)) else if (a[k]?.getD 0) < (b[k]?.getD 0) then -1 else 1 := by
  unfold Cmpat at h
  rw [List.drop_eq_getElem_cons ha, List.drop_eq_getElem_cons hb] at h
  rw [← h]
  simp [cmpL, ha, hb]
theorem cmpat_end (a b : List Int) (k : Nat) (h : Cmpat a b k) (ha : a.length ≤ k) : cmpL a b = 0 := by
  unfold Cmpat at h
  rw [List.drop_eq_nil_of_le ha] at h
  rw [← h]
  rfl

theorem order_any (S S' : Nat → Prop) (A A' : Option Addr) (c c' : Nat) (a b : List Int) (hn : a.length ≤ 9223372036854775807) (hn' : b.length ≤ 9223372036854775807) (w : World) (h : Rd w S A (ints .u8 a)) (h' : Rd w S' A' (ints .u8 b)) :
    Calls Tryz.prog 26 #[.slice A a.length c, .slice A' b.length c'] w fun e w' => e = .returned (.int .i64 (ordL a b)) ∧ ∃ n, w.drewN n = w' := by
  by_cases hl : a.length = b.length
  · obtain ⟨n, hna⟩ : ∃ n, n = a.length := ⟨_, rfl⟩
    have hnb : n = b.length := by omega
    rw [← hna, ← hnb]
    rw [← hna] at hn
    have HA := Lib.hid hna
    have HB := Lib.hid hnb
    have HO : Hid (ordL a b = cmpL a b) := by
      show _ = _
      simp [ordL, hl]
    have H := Lib.hid h
    have H' := Lib.hid h'
    clear hna hnb hl hn' h h'
    have e0 : ((n : Int) != (n : Int)) = false := by simp
    go_enter Tryz.func26, Tryz.ntmps26
    go_wp2
    go_loopw [5] (fun i wr => ∃ k : Nat, k ≤ n ∧ i = .int .i64 k ∧ Hid (Cmpat a b k) ∧ ∃ m, wr = w.drewN m) (fun i _ => n - (intOf i).toNat)
    case atStart => exact ⟨0, Nat.zero_le _, rfl, rfl, 0, rfl⟩
    case round =>
      obtain ⟨k, hk, rfl, hz, m, rfl⟩ := hrel
      by_cases hlt : k < n
      · obtain ⟨b1, o1, hA, _, c1⟩ := rd_int H.out (j := k) (by rw [← HA.out]; exact hlt)
        obtain ⟨b2, o2, hA', _, c2⟩ := rd_int H'.out (j := k) (by rw [← HB.out]; exact hlt)
        cases hA
        cases hA'
        have hstep := cmpat_eq a b k hz.out (by rw [← HA.out]; exact hlt) (by rw [← HB.out]; exact hlt)
        obtain ⟨x, hx⟩ : ∃ x, x = a[k]?.getD 0 := ⟨_, rfl⟩
        obtain ⟨y, hy⟩ : ∃ y, y = b[k]?.getD 0 := ⟨_, rfl⟩
        rw [← hx] at c1 hstep
        rw [← hy] at c2 hstep
        have HS := Lib.hid hstep
        clear hx hy hstep
        by_cases hxy : x = y
        · subst hxy
          have e1 : (x != x) = false := by simp
          go_wp2
          go_quiet (fail)
          go_wp2
          go_roundw
          case rel => exact ⟨k + 1, by omega, by go_num, by have := HS.out; simp at this; exact this.symm, _, rfl⟩
          case measure => simp [intOf]; omega
        · have e1 := bne_yes hxy
          by_cases hlt2 : x < y
          · have e2 := dec_yes hlt2
            have hfin : Hid (cmpL a b = -1) := by
              show _ = _
              rw [HS.out, if_neg hxy, if_pos hlt2]
            clear hxy
            go_wp2
            go_quiet (fail)
            go_wp2
            go_quiet (fail)
            go_wp2
            go_ret
            refine ⟨?_, _, by rw [World.drewN_drewN, World.drewN_drewN]⟩
            rw [HO.out, hfin.out]
            rfl
          · have e2 := dec_no hlt2
            have hfin : Hid (cmpL a b = 1) := by
              show _ = _
              rw [HS.out, if_neg hxy, if_neg hlt2]
            clear hxy
            go_wp2
            go_quiet (fail)
            go_wp2
            go_quiet (fail)
            go_wp2
            go_ret
            refine ⟨?_, _, by rw [World.drewN_drewN, World.drewN_drewN]⟩
            rw [HO.out, hfin.out]
            rfl
      · have hfin : Hid (cmpL a b = 0) := cmpat_end a b k hz.out (by rw [← HA.out]; omega)
        go_wp2
        go_ret
        refine ⟨?_, _, rfl⟩
        rw [HO.out, hfin.out]
        rfl
  · have e0 : ((a.length : Int) != (b.length : Int)) = true := bne_yes (by omega)
    by_cases hlt : a.length < b.length
    · have hO : Hid (ordL a b = -1) := by
        show _ = _
        rw [ordL, if_neg hl, if_pos hlt]
      clear hl h h'
      go_enter Tryz.func26, Tryz.ntmps26
      go_wp2
      go_ret
      exact ⟨by rw [hO.out]; rfl, 0, rfl⟩
    · have hO : Hid (ordL a b = 1) := by
        show _ = _
        rw [ordL, if_neg hl, if_neg hlt]
      clear hl h h'
      go_enter Tryz.func26, Tryz.ntmps26
      go_wp2
      go_ret
      exact ⟨by rw [hO.out]; rfl, 0, rfl⟩

theorem cell_up {W W' : World} {p : Addr} {u : Value} (hb : Below W.heap.size W W') (h : W.cell? p = some u) : W'.cell? p = some u := (hb.cell (World.block_lt_of_cell? W p h)).trans h
theorem frz_up {W W' : World} {p : Addr} {u : Value} (hb : Below W.heap.size W W') (h : W.cell? p = some u) (hf : W.frozen? p = false) : W'.frozen? p = false := (hb.frozen (World.block_lt_of_cell? W p h)).trans hf
theorem bcells {W w1 : World} (hb : Below W.heap.size W w1) : Below W.heap.size W w1 ∧ (∀ b o, b < W.heap.size → w1.cell? ⟨b, o, none⟩ = W.cell? ⟨b, o, none⟩) ∧ (∀ b o, b < W.heap.size → w1.frozen? ⟨b, o, none⟩ = W.frozen? ⟨b, o, none⟩) ∧ W.heap.size ≤ w1.heap.size :=
  ⟨hb, fun b o h => hb.cell (p := ⟨b, o, none⟩) h, fun b o h => hb.frozen (p := ⟨b, o, none⟩) h, hb.size⟩

/-- Two integers of the reference. -/
def cmpI (n1 : Bool) (a : List Int) (n2 : Bool) (b : List Int) : Int :=
  if sgI n1 a.length = sgI n2 b.length then (if n1 then ordL b a else ordL a b) else if sgI n1 a.length < sgI n2 b.length then -1 else 1

/-- What the two boxed integers hold. -/
def Kin (w : World) (n1 : Bool) (v : Value) (n2 : Bool) (v' : Value) (W : World) : Prop :=
  Below w.heap.size w W ∧ W.cell? ⟨w.heap.size, 0, none⟩ = some (.bool n1) ∧ W.cell? ⟨w.heap.size, 1, none⟩ = some v ∧ W.cell? ⟨w.heap.size + 1, 0, none⟩ = some (.bool n2) ∧ W.cell? ⟨w.heap.size + 1, 1, none⟩ = some v'
theorem Kin.up {w W W' : World} {n1 n2 : Bool} {v v' : Value} (hb : Below W.heap.size W W') (h : Kin w n1 v n2 v' W) : Kin w n1 v n2 v' W' :=
  ⟨below_up h.1 hb, cell_up hb h.2.1, cell_up hb h.2.2.1, cell_up hb h.2.2.2.1, cell_up hb h.2.2.2.2⟩

theorem cmp_any (S S' : Nat → Prop) (v v' : Value) (n1 n2 : Bool) (a b : List Int) (hn : a.length ≤ 9223372036854775807) (hn' : b.length ≤ 9223372036854775807) (w : World) (h : SpI w S v n1 a) (h' : SpI w S' v' n2 b) (hS : ∀ k, S k → k < w.heap.size) (hS' : ∀ k, S' k → k < w.heap.size) :
    Calls Tryz.prog 12 #[v, v'] w fun e w' => e = .returned (.int .i64 (cmpI n1 a n2 b)) ∧ Below w.heap.size w w' := by
  obtain ⟨mv, rfl, A, c, rfl, hlc, hr⟩ := h
  obtain ⟨mv', rfl, A', c', rfl, hlc', hr'⟩ := h'
  have H : Hid (∀ W : World, Below w.heap.size w W → Rd W S A (ints .u8 a)) := fun W hW => hr.keep (still_below hW hS)
  have H' : Hid (∀ W : World, Below w.heap.size w W → Rd W S' A' (ints .u8 b)) := fun W hW => hr'.keep (still_below hW hS')
  have HN := Lib.hid hn
  have HN' := Lib.hid hn'
  clear hr hr' hS hS' hlc hlc' hn hn'
  by_cases hs : sgI n1 a.length = sgI n2 b.length
  · have e0 := bne_no hs
    have hO : Hid (cmpI n1 a n2 b = if n1 then ordL b a else ordL a b) := by
      show _ = _
      rw [cmpI, if_pos hs]
    clear hs
    go_enter Tryz.func12, Tryz.ntmps12
    go_wp2
    have h0 : Hid (Kin w n1 (.slice A a.length c) n2 (.slice A' b.length c') (((w.alloc (.cells #[.bool n1, .slice A a.length c] 32)).alloc (.cells #[.bool n2, .slice A' b.length c'] 32)).drew)) :=
      ⟨(((Below.refl _ _).alloc (Nat.le_refl _) _).alloc (by simp) _).drew, by simp, by simp, by simp, by simp⟩
    have hstep := Lib.hid (fun W W' hb h => Kin.up (w := w) (n1 := n1) (n2 := n2) (v := .slice A a.length c) (v' := .slice A' b.length c') (W := W) (W' := W') hb h)
    go_region_held3 (fun W => Below w.heap.size w W ∧ W.cell? ⟨w.heap.size, 0, none⟩ = some (.bool n1) ∧ W.cell? ⟨w.heap.size, 1, none⟩ = some (.slice A a.length c) ∧ W.cell? ⟨w.heap.size + 1, 0, none⟩ = some (.bool n2) ∧ W.cell? ⟨w.heap.size + 1, 1, none⟩ = some (.slice A' b.length c')) (first | exact h0.out | exact hstep.out _ _ ‹Below _ _ _› h0.out | exact hstep.out _ _ ‹Below _ _ _› (by assumption))
      (first | (go_at_call 25; refine (spSign_any _ _ _ _ _).mono ?_; rintro e w' ⟨rfl, hb⟩))
    clear h0 hstep
    obtain ⟨hB, c0, c1, c2, c3⟩ := ‹Below w.heap.size w _ ∧ _›
    have HB := Lib.hid hB
    clear hB
    cases n1 with
    | false =>
      go_wp2_with (go_at_call 26; refine (order_any S S' A A' c c' a b HN.out HN'.out _ (H.out _ HB.out) (H'.out _ HB.out)).mono ?_; rintro e w2 ⟨rfl, m, rfl⟩)
      go_ret
      exact ⟨by rw [hO.out]; rfl, below_drewN' HB.out _⟩
    | true =>
      go_wp2_with (go_at_call 26; refine (order_any S' S A' A c' c b a HN'.out HN.out _ (H'.out _ HB.out) (H.out _ HB.out)).mono ?_; rintro e w2 ⟨rfl, m, rfl⟩)
      go_ret
      exact ⟨by rw [hO.out]; rfl, below_drewN' HB.out _⟩
  · have e0 := bne_yes hs
    have hO : Hid (cmpI n1 a n2 b = if sgI n1 a.length < sgI n2 b.length then -1 else 1) := by
      show _ = _
      rw [cmpI, if_neg hs]
    have hd : ∃ d : Bool, decide (sgI n1 a.length < sgI n2 b.length) = d ∧ Hid (cmpI n1 a n2 b = if d then -1 else 1) := by
      refine ⟨_, rfl, ?_⟩
      show _ = _
      rw [hO.out]
      by_cases h : sgI n1 a.length < sgI n2 b.length <;> simp [h]
    clear hO hs
    obtain ⟨d, hd1, hO⟩ := hd
    have h0 : Hid (Kin w n1 (.slice A a.length c) n2 (.slice A' b.length c') (((w.alloc (.cells #[.bool n1, .slice A a.length c] 32)).alloc (.cells #[.bool n2, .slice A' b.length c'] 32)).drew)) :=
      ⟨(((Below.refl _ _).alloc (Nat.le_refl _) _).alloc (by simp) _).drew, by simp, by simp, by simp, by simp⟩
    have hstep := Lib.hid (fun W W' hb h => Kin.up (w := w) (n1 := n1) (n2 := n2) (v := .slice A a.length c) (v' := .slice A' b.length c') (W := W) (W' := W') hb h)
    go_enter Tryz.func12, Tryz.ntmps12
    go_wp2
    go_region_held3 (fun W => Below w.heap.size w W ∧ W.cell? ⟨w.heap.size, 0, none⟩ = some (.bool n1) ∧ W.cell? ⟨w.heap.size, 1, none⟩ = some (.slice A a.length c) ∧ W.cell? ⟨w.heap.size + 1, 0, none⟩ = some (.bool n2) ∧ W.cell? ⟨w.heap.size + 1, 1, none⟩ = some (.slice A' b.length c')) (first | exact h0.out | exact hstep.out _ _ ‹Below _ _ _› h0.out | exact hstep.out _ _ ‹Below _ _ _› (by assumption))
      (first | (go_at_call 25; refine (spSign_any _ _ _ _ _).mono ?_; rintro e w' ⟨rfl, hb⟩))
    clear h0
    obtain ⟨hB, c0, c1, c2, c3⟩ := ‹Below w.heap.size w _ ∧ _›
    obtain ⟨W, hW⟩ : ∃ W, W = w' := ⟨_, rfl⟩
    rw [← hW] at hB c0 c1 c2 c3 ⊢
    have h1 : Hid (Kin w n1 (.slice A a.length c) n2 (.slice A' b.length c') W.drew) := ⟨hB.drew, c0, c1, c2, c3⟩
    have HB := Lib.hid hB
    clear hW hb hB
    go_wp2
    go_region_held3 (fun W => Below w.heap.size w W ∧ W.cell? ⟨w.heap.size, 0, none⟩ = some (.bool n1) ∧ W.cell? ⟨w.heap.size, 1, none⟩ = some (.slice A a.length c) ∧ W.cell? ⟨w.heap.size + 1, 0, none⟩ = some (.bool n2) ∧ W.cell? ⟨w.heap.size + 1, 1, none⟩ = some (.slice A' b.length c')) (first | exact h1.out | exact hstep.out _ _ ‹Below _ _ _› h1.out | exact hstep.out _ _ ‹Below _ _ _› (by assumption))
      (first | (go_at_call 25; refine (spSign_any _ _ _ _ _).mono ?_; rintro e w' ⟨rfl, hb⟩))
    clear h1 hstep
    obtain ⟨hB2, _⟩ := ‹Below w.heap.size w _ ∧ _›
    cases d
    all_goals
      go_wp2
      go_ret
      exact ⟨by rw [hO.out]; rfl, hB2⟩
end Go.Proofs.YtloloifngbmibaaGreatDoor
set_option linter.unusedVariables false
set_option maxRecDepth 4000
namespace Go.Proofs.YtloloifngbmibaaGreatDoor
open Go.RowKit

theorem add64_call (x y c : Nat) (hc : c ≤ 1) (w : World) :
    (callFunc 227 #[.int .u64 x, .int .u64 y, .int .u64 c]).run Tryz.prog w =
      .ok (.value (.tuple #[.int .u64 (((x + y + c) % 18446744073709551616 : Nat) : Int), .int .u64 (((x + y + c) / 18446744073709551616 : Nat) : Int)])) w := by
  rw [run_callFunc_extern Tryz.func227 (by kernel_rfl) (by kernel_rfl) (by kernel_rfl) (e := add64Entry) (by kernel_rfl), run_add64 x y c (by omega) (by omega) (by omega) (by omega)]
  simp only [Result.andThen]
  congr 5 <;> omega

def subEntry : Array Value → Sem Value := fun args => do
  let (x, y, b) ← Extern.MathBitsCarry.three "Sub64" args
  pure (Extern.MathBitsCarry.pair ((x + Extern.MathBitsCarry.m64 - y - b) % Extern.MathBitsCarry.m64) (if x < y + b then 1 else 0))
theorem run_sub {P : Program} (x y b : Nat) (hb : b ≤ 1) (w : World) :
    (subEntry #[.int .u64 x, .int .u64 y, .int .u64 b]).run P w =
      .ok (.tuple #[.int .u64 (((x + 18446744073709551616 - y - b) % 18446744073709551616 : Nat) : Int), .int .u64 ((if x < y + b then 1 else 0 : Nat) : Int)]) w := by
  have : b = 0 ∨ b = 1 := by omega
  rcases this with rfl | rfl <;> rfl
theorem sub64_call (x y b : Nat) (hb : b ≤ 1) (w : World) :
    (callFunc 242 #[.int .u64 x, .int .u64 y, .int .u64 b]).run Tryz.prog w =
      .ok (.value (.tuple #[.int .u64 (((x + 18446744073709551616 - y - b) % 18446744073709551616 : Nat) : Int), .int .u64 ((if x < y + b then 1 else 0 : Nat) : Int)])) w := by
  rw [run_callFunc_extern Tryz.func242 (by kernel_rfl) (by kernel_rfl) (by kernel_rfl) (e := subEntry) (by kernel_rfl), run_sub x y b hb]
  rfl

theorem bitsAdd_any (x y c : Nat) (hc : c ≤ 1) (w : World) :
    Calls Tryz.prog 212 #[.int .u64 x, .int .u64 y, .int .u64 c] w fun e w' => e = .returned (.tuple #[.int .u64 (((x + y + c) % 18446744073709551616 : Nat) : Int), .int .u64 (((x + y + c) / 18446744073709551616 : Nat) : Int)]) ∧ w' = w := by
  have h := fun w => add64_call x y c hc w
  obtain ⟨s, hs⟩ : ∃ s, s = (x + y + c) % 18446744073709551616 := ⟨_, rfl⟩
  obtain ⟨d, hd⟩ : ∃ d, d = (x + y + c) / 18446744073709551616 := ⟨_, rfl⟩
  rw [← hs, ← hd]
  rw [← hs, ← hd] at h
  clear hs hd
  go_enter Tryz.func212, Tryz.ntmps212
  go_wp2
  exact bodyPost_ret (v := .tuple #[.int .u64 s, .int .u64 d]) (by simp [results, Tryz.results212, go_sem]) rfl ⟨rfl, rfl⟩

theorem bitsSub_any (x y b : Nat) (hb : b ≤ 1) (w : World) :
    Calls Tryz.prog 237 #[.int .u64 x, .int .u64 y, .int .u64 b] w fun e w' => e = .returned (.tuple #[.int .u64 (((x + 18446744073709551616 - y - b) % 18446744073709551616 : Nat) : Int), .int .u64 ((if x < y + b then 1 else 0 : Nat) : Int)]) ∧ w' = w := by
  have h := fun w => sub64_call x y b hb w
  obtain ⟨s, hs⟩ : ∃ s, s = (x + 18446744073709551616 - y - b) % 18446744073709551616 := ⟨_, rfl⟩
  obtain ⟨d, hd⟩ : ∃ d : Nat, d = (if x < y + b then 1 else 0) := ⟨_, rfl⟩
  rw [← hs, ← hd]
  rw [← hs, ← hd] at h
  clear hs hd
  go_enter Tryz.func237, Tryz.ntmps237
  go_wp2
  exact bodyPost_ret (v := .tuple #[.int .u64 s, .int .u64 d]) (by simp [results, Tryz.results237, go_sem]) rfl ⟨rfl, rfl⟩

theorem mulAddWWW_any (x y c : Nat) (hx : x < 18446744073709551616) (hy : y < 18446744073709551616) (hc : c < 18446744073709551616) (w : World) :
    Calls Tryz.prog 220 #[.int .u64 x, .int .u64 y, .int .u64 c] w fun e w' => e = .returned (.tuple #[.int .u64 (((x * y + c) / 18446744073709551616 : Nat) : Int), .int .u64 (((x * y + c) % 18446744073709551616 : Nat) : Int)]) ∧ w' = w := by
  have hxy : x * y ≤ 18446744073709551615 * 18446744073709551615 := Nat.mul_le_mul (by omega) (by omega)
  have HM := Lib.hid (fun w => Tryz.bits_Mul x y hx hy w)
  obtain ⟨p, hp⟩ : ∃ p, p = x * y := ⟨_, rfl⟩
  rw [← hp] at hxy ⊢
  rw [← hp] at HM
  clear hp
  have HA := Lib.hid (fun w => bitsAdd_any (p % 18446744073709551616) c 0 (by omega) w)
  have e1 : Hid ((p % 18446744073709551616 + c + 0) % 18446744073709551616 = (p + c) % 18446744073709551616) := Lib.hid (by omega)
  rw [e1.out] at HA
  obtain ⟨hi, h1⟩ : ∃ hi, hi = p / 18446744073709551616 := ⟨_, rfl⟩
  obtain ⟨cc, h2⟩ : ∃ cc, cc = (p % 18446744073709551616 + c + 0) / 18446744073709551616 := ⟨_, rfl⟩
  obtain ⟨r, h3⟩ : ∃ r, r = (p + c) / 18446744073709551616 := ⟨_, rfl⟩
  have HE := Lib.hid (show hi + cc = r by omega)
  have hb : r < 18446744073709551616 := by omega
  rw [← h3]
  rw [← h1] at HM
  rw [← h2] at HA
  obtain ⟨lo, h4⟩ : ∃ lo, lo = p % 18446744073709551616 := ⟨_, rfl⟩
  rw [← h4] at HM HA
  obtain ⟨s, h5⟩ : ∃ s, s = (p + c) % 18446744073709551616 := ⟨_, rfl⟩
  rw [← h5] at HA ⊢
  have ew : IntKind.u64.wrap ((hi : Int) + (cc : Int)) = (r : Int) := by
    have := HE.out
    simp only [IntKind.wrap_u64]
    omega
  clear h1 h2 h3 h4 h5 hxy e1 hb
  go_enter Tryz.func220, Tryz.ntmps220
  go_wp2_with (first | (go_at_call 235; refine (HM.out _).mono ?_; rintro e w' ⟨rfl, rfl⟩) | (go_at_call 212; refine (HA.out _).mono ?_; rintro e w' ⟨rfl, rfl⟩))
  exact bodyPost_ret (v := .tuple #[.int .u64 r, .int .u64 s]) (by simp [results, Tryz.results220, go_sem]) rfl ⟨rfl, rfl⟩
end Go.Proofs.YtloloifngbmibaaGreatDoor
set_option linter.unusedVariables false
set_option maxRecDepth 4000
namespace Go.Proofs.YtloloifngbmibaaGreatDoor
open Go.RowKit

theorem bitLen_top (y : Nat) (h0 : 9223372036854775808 ≤ y) (h1 : y < 18446744073709551616) : Lib.bitLen y = 64 := by
  obtain ⟨h2, h3, h4⟩ := Lib.bitLenAux_bounds 64 y (by simpa using h1) (by omega)
  unfold Lib.bitLen
  rcases Nat.lt_or_ge (Lib.bitLenAux 64 y) 64 with h | h
  · have : 2 ^ Lib.bitLenAux 64 y ≤ 2 ^ 63 := Nat.pow_le_pow_right (by decide) (by omega)
    omega
  · rcases Nat.lt_or_ge 64 (Lib.bitLenAux 64 y) with h5 | h5
    · have : 2 ^ 64 ≤ 2 ^ (Lib.bitLenAux 64 y - 1) := Nat.pow_le_pow_right (by decide) (by omega)
      omega
    · omega
theorem lz_top (y : Nat) (h0 : 9223372036854775808 ≤ y) (h1 : y < 18446744073709551616) (w : World) :
    Calls Tryz.prog 243 #[.int .u64 y] w fun e w' => e = .returned (.int .i64 0) ∧ w' = w := by
  have h := Tryz.bits_LeadingZeros64 y w (by omega) (by omega)
  simp only [Int.toNat_natCast, bitLen_top y h0 h1] at h
  exact h

theorem and32 (y : Nat) (hy : y < 18446744073709551616) : bits .and .u64 (y : Int) 4294967295 = ((y % 4294967296 : Nat) : Int) := by
  have h := bits_and_u64_nat y 4294967295 hy (by decide)
  rw [show y &&& 4294967295 = y % 4294967296 from Nat.and_two_pow_sub_one_eq_mod y 32] at h
  exact h
theorem or0 (a : Nat) (ha : a < 18446744073709551616) : bits .or .u64 (a : Int) 0 = (a : Int) := by
  have h := bits_or_u64_nat a 0 ha (by decide)
  simpa using h
theorem bitsDiv64_any (a l y : Nat) (hy0 : 9223372036854775808 ≤ y) (hy1 : y < 18446744073709551616) (ha : a < y) (hl : l < 18446744073709551616) (w : World) :
    Calls Tryz.prog 238 #[.int .u64 a, .int .u64 l, .int .u64 y] w fun e w' => ∃ r : Int, e = .returned (.tuple #[.int .u64 (((a * 18446744073709551616 + l) / y : Nat) : Int), .int .u64 r]) ∧ ∃ n, w.drewN n = w' := by
  have e1 : ((y : Int) == 0) = false := beq_no (by omega)
  have e2 := dec_no (show ¬ (y : Int) ≤ (a : Int) by omega)
  by_cases ha0 : a = 0
  · subst ha0
    have f1 : IntKind.u64.wrap ((l : Int) / (y : Int)) = ((l / y : Nat) : Int) := by
      have h : l / y ≤ l := Nat.div_le_self _ _
      rw [← Int.natCast_ediv]
      generalize l / y = F at h ⊢
      simp only [IntKind.wrap_u64]
      omega
    have e4 : ¬ y = 0 := by omega
    have HF : Hid ((0 * 18446744073709551616 + l) / y = l / y) := Lib.hid (by rw [Nat.zero_mul, Nat.zero_add])
    obtain ⟨F, hF⟩ : ∃ F, F = l / y := ⟨_, rfl⟩
    rw [← hF] at f1 HF
    clear hF
    go_enter Tryz.func238, Tryz.ntmps238
    go_wp2
    go_quiet (fail)
    go_wp2
    refine bodyPost_ret (v := .tuple #[.int .u64 F, .int .u64 ((l : Int) % (y : Int))]) (by simp [results, Tryz.results238, go_sem]) rfl ⟨_, by rw [HF.out], _, rfl⟩
  · have e3 : ((a : Int) == 0) = false := beq_no (by omega)
    have HLZ := Lib.hid (fun w => lz_top y hy0 hy1 w)
    obtain ⟨yn1, d1⟩ : ∃ n, n = y / 4294967296 := ⟨_, rfl⟩
    obtain ⟨yn0, d2⟩ : ∃ n, n = y % 4294967296 := ⟨_, rfl⟩
    obtain ⟨un1, d3⟩ : ∃ n, n = l / 4294967296 := ⟨_, rfl⟩
    obtain ⟨un0, d4⟩ : ∃ n, n = l % 4294967296 := ⟨_, rfl⟩
    have f1 : (y : Int) / 4294967296 = (yn1 : Int) := by omega
    have f2 : bits .and .u64 (y : Int) 4294967295 = (yn0 : Int) := by rw [and32 _ (by omega), d2]
    have f3 : (l : Int) / 4294967296 = (un1 : Int) := by omega
    have f4 : bits .and .u64 (l : Int) 4294967295 = (un0 : Int) := by rw [and32 _ (by omega), d4]
    have f5 : bits .or .u64 (a : Int) ((l : Int) / 18446744073709551616) = (a : Int) := by
      rw [show (l : Int) / 18446744073709551616 = 0 by omega, or0 _ (by omega)]
    have b1 : yn0 < 4294967296 := by omega
    have b2 : 2147483648 ≤ yn1 := by omega
    have b3 : yn1 < 4294967296 := by omega
    have b4 : un1 < 4294967296 := by omega
    have b5 : un0 < 4294967296 := by omega
    have hyy : y = yn1 * 4294967296 + yn0 := by omega
    obtain ⟨hdg, hdq, hdr⟩ := dig_start b1 b2 (hyy ▸ ha) b4
    obtain ⟨q0, g1⟩ : ∃ q, q = a / yn1 := ⟨_, rfl⟩
    obtain ⟨r0, g2⟩ : ∃ q, q = a % yn1 := ⟨_, rfl⟩
    rw [← g1, ← g2] at hdg
    rw [← g1] at hdq
    rw [← g2] at hdr
    have f6 : IntKind.u64.wrap ((a : Int) / (yn1 : Int)) = (q0 : Int) := by
      rw [← Int.natCast_ediv, ← g1]
      simp only [IntKind.wrap_u64]
      omega
    have f7 : IntKind.u64.wrap ((q0 : Int) * (yn1 : Int)) = ((q0 * yn1 : Nat) : Int) := by
      have := hdg.sum
      simp only [IntKind.wrap_u64, ← Int.natCast_mul]
      omega
    obtain ⟨p0, g3⟩ : ∃ p, p = q0 * yn1 := ⟨_, rfl⟩
    rw [← g3] at f7
    have f8 : IntKind.u64.wrap ((a : Int) - (p0 : Int)) = (r0 : Int) := by
      have := hdg.sum
      simp only [IntKind.wrap_u64]
      omega
    have e4 : ¬ yn1 = 0 := by omega
    have e5 : ((yn1 : Int) == 0) = false := beq_no (by omega)
    obtain ⟨Q1, hQ1⟩ : ∃ Q, Q = (a * 4294967296 + un1) / (yn1 * 4294967296 + yn0) := ⟨_, rfl⟩
    have HDG := Lib.hid hdg
    have HQ1 := Lib.hid hQ1
    have HB := Lib.hid (show yn0 < 4294967296 ∧ 2147483648 ≤ yn1 ∧ yn1 < 4294967296 ∧ un1 < 4294967296 ∧ un0 < 4294967296 ∧ y = yn1 * 4294967296 + yn0 ∧ q0 ≤ 4294967297 ∧ r0 < yn1 ∧ l = un1 * 4294967296 + un0 from ⟨b1, b2, b3, b4, b5, hyy, hdq, hdr, by omega⟩)
    clear b1 b2 b3 b4 b5 hyy hdq hdr d1 d2 d3 d4 g1 g2 g3 hdg hQ1
    go_enter Tryz.func238, Tryz.ntmps238
    go_upto_block 0 with (go_at_call 243; refine (HLZ.out _).mono ?_; rintro e w' ⟨rfl, rfl⟩)
    go_cut [15, 16] from 67 to 85 (fun q r wx => q = .int .u64 Q1 ∧ wx = w')
    case first =>
      go_wp2_with fail
      go_loop [15, 16] (fun qv rv => ∃ q r : Nat, qv = .int .u64 q ∧ rv = .int .u64 r ∧ Hid (Dig a un1 yn1 yn0 q r) ∧ Hid (q ≤ 4294967297) ∧ Hid (r < 4294967296)) (fun qv _ => (intOf qv).toNat)
      case atStart => exact ⟨q0, r0, rfl, rfl, HDG, Lib.hid HB.out.2.2.2.2.2.2.1, Lib.hid (by have := HB.out; omega)⟩
      case round =>
        obtain ⟨q, r, rfl, rfl, hD, hq, hr⟩ := hrel
        have hbody : Hid (4294967296 ≤ q ∨ 4294967296 * r + un1 < q * yn0 → ∃ q' r', q = q' + 1 ∧ r' = r + yn1 ∧ Hid (Dig a un1 yn1 yn0 q' r') ∧ q' ≤ 4294967296) := Lib.hid fun hc => by
          obtain ⟨h1, h2⟩ := dig_step HB.out.1 HB.out.2.1 (HB.out.2.2.2.2.2.1 ▸ ha) HB.out.2.2.2.1 hD.out hc
          exact ⟨q - 1, r + yn1, by omega, rfl, Lib.hid h2, by have := hq.out; omega⟩
        have HRB := hr.out
        have HYB := HB.out.2.2.1
        obtain ⟨p, hp⟩ : ∃ p, p = q * yn0 := ⟨_, rfl⟩
        have hpb : p < 18446744073709551616 := by
          have h1 := hq.out
          have h2 := HB.out.1
          have : q * yn0 ≤ 4294967297 * 4294967295 := Nat.mul_le_mul h1 (by omega)
          omega
        have m1 : IntKind.u64.wrap ((q : Int) * (yn0 : Int)) = (p : Int) := by
          rw [← Int.natCast_mul, ← hp]
          simp only [IntKind.wrap_u64]
          omega
        have m2 : IntKind.u64.wrap (4294967296 * (r : Int)) = 4294967296 * (r : Int) := by
          simp only [IntKind.wrap_u64]
          omega
        have m3 : IntKind.u64.wrap (4294967296 * (r : Int) + (un1 : Int)) = 4294967296 * (r : Int) + (un1 : Int) := by
          have := HB.out.2.2.2.1
          simp only [IntKind.wrap_u64]
          omega
        have HP := Lib.hid hp
        by_cases hc : 4294967296 ≤ q ∨ 4294967296 * r + un1 < q * yn0
        · obtain ⟨q', r', hq', hr', hD', hq2⟩ := hbody.out hc
          have m4 : IntKind.u64.wrap ((q : Int) - 1) = (q' : Int) := by
            simp only [IntKind.wrap_u64]
            omega
          have m5 : IntKind.u64.wrap ((r : Int) + (yn1 : Int)) = (r' : Int) := by
            simp only [IntKind.wrap_u64]
            omega
          have hMS : Hid (q' < q) := Lib.hid (by omega)
          have HQX := Lib.hid hq2
          rw [← hp] at hc
          have hc2 : (decide ((4294967296 : Int) ≤ (q : Int)) = true) ∨ (decide ((4294967296 : Int) ≤ (q : Int)) = false ∧ decide (4294967296 * (r : Int) + (un1 : Int) < (p : Int)) = true) := by
            by_cases h : 4294967296 ≤ q
            · exact .inl (dec_yes (by omega))
            · exact .inr ⟨dec_no (by omega), dec_yes (by omega)⟩
          clear hc hq' hr' hp hpb hbody hq hr HRB HYB
          by_cases hb : 4294967296 ≤ r'
          · have c1 := dec_yes (show (4294967296 : Int) ≤ (r' : Int) by omega)
            have HE := Lib.hid (dig_break HB.out.1 HB.out.2.1 hD'.out hq2 hb)
            clear hb hq2
            rcases hc2 with hc2 | ⟨hc2, hc3⟩
            all_goals
              go_wp2_with fail
              go_meet
              case rel => exact ⟨by rw [HE.out, ← HQ1.out], rfl⟩
          · have c1 := dec_no (show ¬ (4294967296 : Int) ≤ (r' : Int) by omega)
            have HRR := Lib.hid (show r' < 4294967296 by omega)
            clear hb hq2
            rcases hc2 with hc2 | ⟨hc2, hc3⟩
            all_goals
              go_wp2_with fail
              go_round
              case rel => exact ⟨q', r', rfl, rfl, hD', Lib.hid (by have := HQX.out; omega), HRR⟩
              case measure => have := hMS.out; simp [intOf]; omega
        · have c1 := dec_no (show ¬ (4294967296 : Int) ≤ (q : Int) by omega)
          have c2 := dec_no (show ¬ 4294967296 * (r : Int) + (un1 : Int) < (p : Int) by rw [hp] ; omega)
          have HE := Lib.hid (dig_end HB.out.1 HB.out.2.1 hD.out (by omega))
          clear hc hp hpb hbody hq hr HRB HYB
          go_wp2_with fail
          go_meet
          case rel => exact ⟨by rw [HE.out, ← HQ1.out], rfl⟩
    case rest =>
      obtain ⟨rfl, rfl⟩ := hcut
      obtain ⟨a2, d5⟩ : ∃ n, n = a * 4294967296 + un1 - Q1 * y := ⟨_, rfl⟩
      have hq1 : Q1 = (a * 4294967296 + un1) / y := by rw [HQ1.out, ← HB.out.2.2.2.2.2.1]
      have hP : Q1 * y ≤ a * 4294967296 + un1 := by rw [hq1]; exact Nat.div_mul_le_self _ _
      have hP2 : a2 = (a * 4294967296 + un1) % y := by
        rw [d5, hq1]
        generalize a * 4294967296 + un1 = X
        have := Nat.mod_add_div X y
        rw [Nat.mul_comm y] at this
        omega
      have ha2 : a2 < y := by rw [hP2]; exact Nat.mod_lt _ (by omega)
      have hQ1b : Q1 < 4294967296 := by rw [HQ1.out]; exact dig_q HB.out.1 HB.out.2.1 (HB.out.2.2.2.2.2.1 ▸ ha) HB.out.2.2.2.1
      obtain ⟨s1, d6⟩ : ∃ n, n = (a * 4294967296) % 18446744073709551616 := ⟨_, rfl⟩
      obtain ⟨s2, d7⟩ : ∃ n, n = (s1 + un1) % 18446744073709551616 := ⟨_, rfl⟩
      obtain ⟨P, hPd⟩ : ∃ n, n = Q1 * y := ⟨_, rfl⟩
      rw [← hPd] at hP d5
      obtain ⟨s3, d8⟩ : ∃ n, n = P % 18446744073709551616 := ⟨_, rfl⟩
      have t1 : IntKind.u64.wrap ((a : Int) * 4294967296) = (s1 : Int) := by
        simp only [IntKind.wrap_u64]
        omega
      have t2 : IntKind.u64.wrap ((s1 : Int) + (un1 : Int)) = (s2 : Int) := by
        simp only [IntKind.wrap_u64]
        omega
      have t3 : IntKind.u64.wrap ((Q1 : Int) * (y : Int)) = (s3 : Int) := by
        rw [← Int.natCast_mul, ← hPd]
        simp only [IntKind.wrap_u64]
        omega
      have t4 : IntKind.u64.wrap ((s2 : Int) - (s3 : Int)) = (a2 : Int) := by
        simp only [IntKind.wrap_u64]
        omega
      have HA2 : Hid (a2 < yn1 * 4294967296 + yn0) := Lib.hid (by rw [← HB.out.2.2.2.2.2.1]; exact ha2)
      obtain ⟨hdg, hdq, hdr⟩ := dig_start HB.out.1 HB.out.2.1 HA2.out HB.out.2.2.2.2.1
      obtain ⟨q3, g1⟩ : ∃ q, q = a2 / yn1 := ⟨_, rfl⟩
      obtain ⟨r3, g2⟩ : ∃ q, q = a2 % yn1 := ⟨_, rfl⟩
      rw [← g1, ← g2] at hdg
      rw [← g1] at hdq
      rw [← g2] at hdr
      have t6 : IntKind.u64.wrap ((a2 : Int) / (yn1 : Int)) = (q3 : Int) := by
        rw [← Int.natCast_ediv, ← g1]
        simp only [IntKind.wrap_u64]
        omega
      have t7 : IntKind.u64.wrap ((q3 : Int) * (yn1 : Int)) = ((q3 * yn1 : Nat) : Int) := by
        have := hdg.sum
        simp only [IntKind.wrap_u64, ← Int.natCast_mul]
        omega
      obtain ⟨p3, g3⟩ : ∃ p, p = q3 * yn1 := ⟨_, rfl⟩
      rw [← g3] at t7
      have t8 : IntKind.u64.wrap ((a2 : Int) - (p3 : Int)) = (r3 : Int) := by
        have := hdg.sum
        simp only [IntKind.wrap_u64]
        omega
      obtain ⟨Q2, hQ2⟩ : ∃ Q, Q = (a2 * 4294967296 + un0) / (yn1 * 4294967296 + yn0) := ⟨_, rfl⟩
      have hQ2b : Q2 < 4294967296 := by rw [hQ2]; exact dig_q HB.out.1 HB.out.2.1 HA2.out HB.out.2.2.2.2.1
      have t9 : IntKind.u64.wrap ((Q1 : Int) * 4294967296) = (Q1 : Int) * 4294967296 := by
        simp only [IntKind.wrap_u64]
        omega
      have t10 : IntKind.u64.wrap ((Q1 : Int) * 4294967296 + (Q2 : Int)) = ((Q1 * 4294967296 + Q2 : Nat) : Int) := by
        simp only [IntKind.wrap_u64]
        omega
      have HFIN : Hid (Q1 * 4294967296 + Q2 = (a * 18446744073709551616 + l) / y) := Lib.hid (by
        have hl2 := HB.out.2.2.2.2.2.2.2.2
        have hyy := HB.out.2.2.2.2.2.1
        rw [hQ2, ← hyy]
        have e : a * 18446744073709551616 + l = (a2 * 4294967296 + un0) + Q1 * 4294967296 * y := by
          have h3 : Q1 * 4294967296 * y = P * 4294967296 := by rw [hPd, Nat.mul_right_comm]
          rw [h3, hl2]
          omega
        rw [e, Nat.add_mul_div_right _ _ (by omega)]
        exact Nat.add_comm _ _)
      obtain ⟨F, hF⟩ : ∃ F, F = Q1 * 4294967296 + Q2 := ⟨_, rfl⟩
      rw [← hF] at t10 HFIN
      have HDG2 := Lib.hid hdg
      have HQ2 := Lib.hid hQ2
      have HQ3 := Lib.hid (show q3 ≤ 4294967297 ∧ r3 < yn1 from ⟨hdq, hdr⟩)
      clear d5 hq1 hP hP2 ha2 hQ1b d6 d7 hPd d8 g1 g2 g3 hdg hdq hdr hQ2 hQ2b hF
      go_upto_block 2 with fail
      go_cut [18, 16] from 102 to 120 (fun q r wx => q = .int .u64 Q2 ∧ wx = wc)
      case first =>
        go_wp2_with fail
        go_loop [18, 16] (fun qv rv => ∃ q r : Nat, qv = .int .u64 q ∧ rv = .int .u64 r ∧ Hid (Dig a2 un0 yn1 yn0 q r) ∧ Hid (q ≤ 4294967297) ∧ Hid (r < 4294967296)) (fun qv _ => (intOf qv).toNat)
        case atStart => exact ⟨q3, r3, rfl, rfl, HDG2, Lib.hid HQ3.out.1, Lib.hid (by have := HB.out; have := HQ3.out; omega)⟩
        case round =>
          obtain ⟨q, r, rfl, rfl, hD, hq, hr⟩ := hrel
          have hbody : Hid (4294967296 ≤ q ∨ 4294967296 * r + un0 < q * yn0 → ∃ q' r', q = q' + 1 ∧ r' = r + yn1 ∧ Hid (Dig a2 un0 yn1 yn0 q' r') ∧ q' ≤ 4294967296) := Lib.hid fun hc => by
            obtain ⟨h1, h2⟩ := dig_step HB.out.1 HB.out.2.1 HA2.out HB.out.2.2.2.2.1 hD.out hc
            exact ⟨q - 1, r + yn1, by omega, rfl, Lib.hid h2, by have := hq.out; omega⟩
          have HRB := hr.out
          have HYB := HB.out.2.2.1
          obtain ⟨p, hp⟩ : ∃ p, p = q * yn0 := ⟨_, rfl⟩
          have hpb : p < 18446744073709551616 := by
            have h1 := hq.out
            have h2 := HB.out.1
            have : q * yn0 ≤ 4294967297 * 4294967295 := Nat.mul_le_mul h1 (by omega)
            omega
          have m1 : IntKind.u64.wrap ((q : Int) * (yn0 : Int)) = (p : Int) := by
            rw [← Int.natCast_mul, ← hp]
            simp only [IntKind.wrap_u64]
            omega
          have m2 : IntKind.u64.wrap (4294967296 * (r : Int)) = 4294967296 * (r : Int) := by
            simp only [IntKind.wrap_u64]
            omega
          have m3 : IntKind.u64.wrap (4294967296 * (r : Int) + (un0 : Int)) = 4294967296 * (r : Int) + (un0 : Int) := by
            have := HB.out.2.2.2.2.1
            simp only [IntKind.wrap_u64]
            omega
          have HP := Lib.hid hp
          by_cases hc : 4294967296 ≤ q ∨ 4294967296 * r + un0 < q * yn0
          · obtain ⟨q', r', hq', hr', hD', hq2⟩ := hbody.out hc
            have m4 : IntKind.u64.wrap ((q : Int) - 1) = (q' : Int) := by
              simp only [IntKind.wrap_u64]
              omega
            have m5 : IntKind.u64.wrap ((r : Int) + (yn1 : Int)) = (r' : Int) := by
              simp only [IntKind.wrap_u64]
              omega
            have hMS : Hid (q' < q) := Lib.hid (by omega)
            have HQX := Lib.hid hq2
            rw [← hp] at hc
            have hc2 : (decide ((4294967296 : Int) ≤ (q : Int)) = true) ∨ (decide ((4294967296 : Int) ≤ (q : Int)) = false ∧ decide (4294967296 * (r : Int) + (un0 : Int) < (p : Int)) = true) := by
              by_cases h : 4294967296 ≤ q
              · exact .inl (dec_yes (by omega))
              · exact .inr ⟨dec_no (by omega), dec_yes (by omega)⟩
            clear hc hq' hr' hp hpb hbody hq hr HRB HYB
            by_cases hb : 4294967296 ≤ r'
            · have c1 := dec_yes (show (4294967296 : Int) ≤ (r' : Int) by omega)
              have HE := Lib.hid (dig_break HB.out.1 HB.out.2.1 hD'.out hq2 hb)
              clear hb hq2
              rcases hc2 with hc2 | ⟨hc2, hc3⟩
              all_goals
                go_wp2_with fail
                go_meet
                case rel => exact ⟨by rw [HE.out, ← HQ2.out], rfl⟩
            · have c1 := dec_no (show ¬ (4294967296 : Int) ≤ (r' : Int) by omega)
              have HRR := Lib.hid (show r' < 4294967296 by omega)
              clear hb hq2
              rcases hc2 with hc2 | ⟨hc2, hc3⟩
              all_goals
                go_wp2_with fail
                go_round
                case rel => exact ⟨q', r', rfl, rfl, hD', Lib.hid (by have := HQX.out; omega), HRR⟩
                case measure => have := hMS.out; simp [intOf]; omega
          · have c1 := dec_no (show ¬ (4294967296 : Int) ≤ (q : Int) by omega)
            have c2 := dec_no (show ¬ 4294967296 * (r : Int) + (un0 : Int) < (p : Int) by rw [hp] ; omega)
            have HE := Lib.hid (dig_end HB.out.1 HB.out.2.1 hD.out (by omega))
            clear hc hp hpb hbody hq hr HRB HYB
            go_wp2_with fail
            go_meet
            case rel => exact ⟨by rw [HE.out, ← HQ2.out], rfl⟩
      case rest =>
        obtain ⟨rfl, rfl⟩ := hcut
        go_wp2
        refine bodyPost_ret (v := .tuple #[.int .u64 F, .int .u64 (IntKind.u64.wrap (IntKind.u64.wrap (IntKind.u64.wrap ((a2 : Int) * 4294967296) + (un0 : Int)) - IntKind.u64.wrap ((Q2 : Int) * (y : Int))))]) (by simp [results, Tryz.results238, go_sem]) rfl ⟨_, by rw [HFIN.out], 0, rfl⟩
end Go.Proofs.YtloloifngbmibaaGreatDoor
