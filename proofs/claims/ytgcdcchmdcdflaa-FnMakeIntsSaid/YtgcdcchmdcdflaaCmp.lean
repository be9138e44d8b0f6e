/- Walks of the reference's order and Cmp, bytesOf, Small, IntVal. -/
import Derived.Test.YtgcdcchmdcdflaaSpec
import Derived.Deep.QuietTactic
import Derived.BigQuiet
import Derived.Deep.RegionHeld3
set_option linter.unusedVariables false
namespace Go.Proofs.Ytgcdcchmdcdflaa
open Go.RowKit

/-- Two lists of one length, by the first place at which they differ. -/
def cmpL : List Int → List Int → Int
  | x :: xs, y :: ys => if x = y then cmpL xs ys else if x < y then -1 else 1
  | _, _ => 0
theorem cmpL_self (l : List Int) : cmpL l l = 0 := by
  induction l with
  | nil => rfl
  | cons x xs ih => simp [cmpL, ih]
/-- Two magnitudes. -/
def ordL (a b : List Int) : Int := if a.length = b.length then cmpL a b else if a.length < b.length then -1 else 1
theorem ordL_self (l : List Int) : ordL l l = 0 := by simp [ordL, cmpL_self]
def Cmpat (a b : List Int) (k : Nat) : Prop := cmpL (a.drop k) (b.drop k) = cmpL a b
theorem cmpat_eq (a b : List Int) (k : Nat) (h : Cmpat a b k) (ha : k < a.length) (hb : k < b.length) : cmpL a b = if (a[k]?.getD 0) = (b[k]?.getD 0) then cmpL (a.drop (k + 1)) (b.drop (k + 1)) else if (a[k]?.getD 0) < (b[k]?.getD 0) then -1 else 1 := by
  unfold Cmpat at h
  rw [List.drop_eq_getElem_cons ha, List.drop_eq_getElem_cons hb] at h
  rw [← h]
  simp [cmpL, ha, hb]
theorem cmpat_end (a b : List Int) (k : Nat) (h : Cmpat a b k) (ha : a.length ≤ k) : cmpL a b = 0 := by
  unfold Cmpat at h
  rw [List.drop_eq_nil_of_le ha] at h
  rw [← h]
  rfl

theorem order_any (S S' : Nat → Prop) (A A' : Option Addr) (c c' : Nat) (a b : List Int) (hn : a.length ≤ 9223372036854775807) (hn' : b.length ≤ 9223372036854775807) (w : World) (h : Rd w S A (ints .u8 a)) (h' : Rd w S' A' (ints .u8 b)) :
    Calls Try.prog 29 #[.slice A a.length c, .slice A' b.length c'] w fun e w' => e = .returned (.int .i64 (ordL a b)) ∧ ∃ n, w.drewN n = w' := by
  by_cases hl : a.length = b.length
  · obtain ⟨n, hna⟩ : ∃ n, n = a.length := ⟨_, rfl⟩
    have hnb : n = b.length := by omega
    rw [← hna, ← hnb]
    rw [← hna] at hn
    have HA := Lib.hid hna
    have HB := Lib.hid hnb
    have HO : Hid (ordL a b = cmpL a b) := by
      show _ = _
      simp [ordL, hl]
    have H := Lib.hid h
    have H' := Lib.hid h'
    clear hna hnb hl hn' h h'
    have e0 : ((n : Int) != (n : Int)) = false := by simp
    go_enter Try.func29, Try.ntmps29
    go_wp2
    go_loopw [5] (fun i wr => ∃ k : Nat, k ≤ n ∧ i = .int .i64 k ∧ Hid (Cmpat a b k) ∧ ∃ m, wr = w.drewN m) (fun i _ => n - (intOf i).toNat)
    case atStart => exact ⟨0, Nat.zero_le _, rfl, rfl, 0, rfl⟩
    case round =>
      obtain ⟨k, hk, rfl, hz, m, rfl⟩ := hrel
      by_cases hlt : k < n
      · obtain ⟨b1, o1, hA, _, c1⟩ := rd_int H.out (j := k) (by rw [← HA.out]; exact hlt)
        obtain ⟨b2, o2, hA', _, c2⟩ := rd_int H'.out (j := k) (by rw [← HB.out]; exact hlt)
        cases hA
        cases hA'
        have hstep := cmpat_eq a b k hz.out (by rw [← HA.out]; exact hlt) (by rw [← HB.out]; exact hlt)
        obtain ⟨x, hx⟩ : ∃ x, x = a[k]?.getD 0 := ⟨_, rfl⟩
        obtain ⟨y, hy⟩ : ∃ y, y = b[k]?.getD 0 := ⟨_, rfl⟩
        rw [← hx] at c1 hstep
        rw [← hy] at c2 hstep
        have HS := Lib.hid hstep
        clear hx hy hstep
        by_cases hxy : x = y
        · subst hxy
          have e1 : (x != x) = false := by simp
          go_wp2
          go_quiet (fail)
          go_wp2
          go_roundw
          case rel => exact ⟨k + 1, by omega, by go_num, by have := HS.out; simp at this; exact this.symm, _, rfl⟩
          case measure => simp [intOf]; omega
        · have e1 := bne_yes hxy
          by_cases hlt2 : x < y
          · have e2 := dec_yes hlt2
            have hfin : Hid (cmpL a b = -1) := by
              show _ = _
              rw [HS.out, if_neg hxy, if_pos hlt2]
            clear hxy
            go_wp2
            go_quiet (fail)
            go_wp2
            go_quiet (fail)
            go_wp2
            go_ret
            refine ⟨?_, _, by rw [World.drewN_drewN, World.drewN_drewN]⟩
            rw [HO.out, hfin.out]
            rfl
          · have e2 := dec_no hlt2
            have hfin : Hid (cmpL a b = 1) := by
              show _ = _
              rw [HS.out, if_neg hxy, if_neg hlt2]
            clear hxy
            go_wp2
            go_quiet (fail)
            go_wp2
            go_quiet (fail)
            go_wp2
            go_ret
            refine ⟨?_, _, by rw [World.drewN_drewN, World.drewN_drewN]⟩
            rw [HO.out, hfin.out]
            rfl
      · have hfin : Hid (cmpL a b = 0) := cmpat_end a b k hz.out (by rw [← HA.out]; omega)
        go_wp2
        go_ret
        refine ⟨?_, _, rfl⟩
        rw [HO.out, hfin.out]
        rfl
  · have e0 : ((a.length : Int) != (b.length : Int)) = true := bne_yes (by omega)
    by_cases hlt : a.length < b.length
    · have hO : Hid (ordL a b = -1) := by
        show _ = _
        rw [ordL, if_neg hl, if_pos hlt]
      clear hl h h'
      go_enter Try.func29, Try.ntmps29
      go_wp2
      go_ret
      exact ⟨by rw [hO.out]; rfl, 0, rfl⟩
    · have hO : Hid (ordL a b = 1) := by
        show _ = _
        rw [ordL, if_neg hl, if_neg hlt]
      clear hl h h'
      go_enter Try.func29, Try.ntmps29
      go_wp2
      go_ret
      exact ⟨by rw [hO.out]; rfl, 0, rfl⟩

theorem cell_up {W W' : World} {p : Addr} {u : Value} (hb : Below W.heap.size W W') (h : W.cell? p = some u) : W'.cell? p = some u := (hb.cell (World.block_lt_of_cell? W p h)).trans h
theorem frz_up {W W' : World} {p : Addr} {u : Value} (hb : Below W.heap.size W W') (h : W.cell? p = some u) (hf : W.frozen? p = false) : W'.frozen? p = false := (hb.frozen (World.block_lt_of_cell? W p h)).trans hf
theorem bcells {W w1 : World} (hb : Below W.heap.size W w1) : Below W.heap.size W w1 ∧ (∀ b o, b < W.heap.size → w1.cell? ⟨b, o, none⟩ = W.cell? ⟨b, o, none⟩) ∧ (∀ b o, b < W.heap.size → w1.frozen? ⟨b, o, none⟩ = W.frozen? ⟨b, o, none⟩) ∧ W.heap.size ≤ w1.heap.size :=
  ⟨hb, fun b o h => hb.cell (p := ⟨b, o, none⟩) h, fun b o h => hb.frozen (p := ⟨b, o, none⟩) h, hb.size⟩

/-- Two integers of the reference. -/
def cmpI (n1 : Bool) (a : List Int) (n2 : Bool) (b : List Int) : Int :=
  if sgI n1 a.length = sgI n2 b.length then (if n1 then ordL b a else ordL a b) else if sgI n1 a.length < sgI n2 b.length then -1 else 1

/-- What the two boxed integers hold. -/
def Kin (w : World) (n1 : Bool) (v : Value) (n2 : Bool) (v' : Value) (W : World) : Prop :=
  Below w.heap.size w W ∧ W.cell? ⟨w.heap.size, 0, none⟩ = some (.bool n1) ∧ W.cell? ⟨w.heap.size, 1, none⟩ = some v ∧ W.cell? ⟨w.heap.size + 1, 0, none⟩ = some (.bool n2) ∧ W.cell? ⟨w.heap.size + 1, 1, none⟩ = some v'
theorem Kin.up {w W W' : World} {n1 n2 : Bool} {v v' : Value} (hb : Below W.heap.size W W') (h : Kin w n1 v n2 v' W) : Kin w n1 v n2 v' W' :=
  ⟨below_up h.1 hb, cell_up hb h.2.1, cell_up hb h.2.2.1, cell_up hb h.2.2.2.1, cell_up hb h.2.2.2.2⟩

theorem cmp_any (S S' : Nat → Prop) (v v' : Value) (n1 n2 : Bool) (a b : List Int) (hn : a.length ≤ 9223372036854775807) (hn' : b.length ≤ 9223372036854775807) (w : World) (h : SpI w S v n1 a) (h' : SpI w S' v' n2 b) (hS : ∀ k, S k → k < w.heap.size) (hS' : ∀ k, S' k → k < w.heap.size) :
    Calls Try.prog 17 #[v, v'] w fun e w' => e = .returned (.int .i64 (cmpI n1 a n2 b)) ∧ Below w.heap.size w w' := by
  obtain ⟨mv, rfl, A, c, rfl, hlc, hr⟩ := h
  obtain ⟨mv', rfl, A', c', rfl, hlc', hr'⟩ := h'
  have H : Hid (∀ W : World, Below w.heap.size w W → Rd W S A (ints .u8 a)) := fun W hW => hr.keep (still_below hW hS)
  have H' : Hid (∀ W : World, Below w.heap.size w W → Rd W S' A' (ints .u8 b)) := fun W hW => hr'.keep (still_below hW hS')
  have HN := Lib.hid hn
  have HN' := Lib.hid hn'
  clear hr hr' hS hS' hlc hlc' hn hn'
  by_cases hs : sgI n1 a.length = sgI n2 b.length
  · have e0 := bne_no hs
    have hO : Hid (cmpI n1 a n2 b = if n1 then ordL b a else ordL a b) := by
      show _ = _
      rw [cmpI, if_pos hs]
    clear hs
    go_enter Try.func17, Try.ntmps17
    go_wp2
    have h0 : Hid (Kin w n1 (.slice A a.length c) n2 (.slice A' b.length c') (((w.alloc (.cells #[.bool n1, .slice A a.length c] 31)).alloc (.cells #[.bool n2, .slice A' b.length c'] 31)).drew)) :=
      ⟨(((Below.refl _ _).alloc (Nat.le_refl _) _).alloc (by simp) _).drew, by simp, by simp, by simp, by simp⟩
    have hstep := Lib.hid (fun W W' hb h => Kin.up (w := w) (n1 := n1) (n2 := n2) (v := .slice A a.length c) (v' := .slice A' b.length c') (W := W) (W' := W') hb h)
    go_region_held3 (fun W => Below w.heap.size w W ∧ W.cell? ⟨w.heap.size, 0, none⟩ = some (.bool n1) ∧ W.cell? ⟨w.heap.size, 1, none⟩ = some (.slice A a.length c) ∧ W.cell? ⟨w.heap.size + 1, 0, none⟩ = some (.bool n2) ∧ W.cell? ⟨w.heap.size + 1, 1, none⟩ = some (.slice A' b.length c')) (first | exact h0.out | exact hstep.out _ _ ‹Below _ _ _› h0.out | exact hstep.out _ _ ‹Below _ _ _› (by assumption))
      (first | (go_at_call 28; refine (spSign_any _ _ _ _ _).mono ?_; rintro e w' ⟨rfl, hb⟩))
    clear h0 hstep
    obtain ⟨hB, c0, c1, c2, c3⟩ := ‹Below w.heap.size w _ ∧ _›
    have HB := Lib.hid hB
    clear hB
    cases n1 with
    | false =>
      go_wp2_with (go_at_call 29; refine (order_any S S' A A' c c' a b HN.out HN'.out _ (H.out _ HB.out) (H'.out _ HB.out)).mono ?_; rintro e w2 ⟨rfl, m, rfl⟩)
      go_ret
      exact ⟨by rw [hO.out]; rfl, below_drewN' HB.out _⟩
    | true =>
      go_wp2_with (go_at_call 29; refine (order_any S' S A' A c' c b a HN'.out HN.out _ (H'.out _ HB.out) (H.out _ HB.out)).mono ?_; rintro e w2 ⟨rfl, m, rfl⟩)
      go_ret
      exact ⟨by rw [hO.out]; rfl, below_drewN' HB.out _⟩
  · have e0 := bne_yes hs
    have hO : Hid (cmpI n1 a n2 b = if sgI n1 a.length < sgI n2 b.length then -1 else 1) := by
      show _ = _
      rw [cmpI, if_neg hs]
    have hd : ∃ d : Bool, decide (sgI n1 a.length < sgI n2 b.length) = d ∧ Hid (cmpI n1 a n2 b = if d then -1 else 1) := by
      refine ⟨_, rfl, ?_⟩
      show _ = _
      rw [hO.out]
      by_cases h : sgI n1 a.length < sgI n2 b.length <;> simp [h]
    clear hO hs
    obtain ⟨d, hd1, hO⟩ := hd
    have h0 : Hid (Kin w n1 (.slice A a.length c) n2 (.slice A' b.length c') (((w.alloc (.cells #[.bool n1, .slice A a.length c] 31)).alloc (.cells #[.bool n2, .slice A' b.length c'] 31)).drew)) :=
      ⟨(((Below.refl _ _).alloc (Nat.le_refl _) _).alloc (by simp) _).drew, by simp, by simp, by simp, by simp⟩
    have hstep := Lib.hid (fun W W' hb h => Kin.up (w := w) (n1 := n1) (n2 := n2) (v := .slice A a.length c) (v' := .slice A' b.length c') (W := W) (W' := W') hb h)
    go_enter Try.func17, Try.ntmps17
    go_wp2
    go_region_held3 (fun W => Below w.heap.size w W ∧ W.cell? ⟨w.heap.size, 0, none⟩ = some (.bool n1) ∧ W.cell? ⟨w.heap.size, 1, none⟩ = some (.slice A a.length c) ∧ W.cell? ⟨w.heap.size + 1, 0, none⟩ = some (.bool n2) ∧ W.cell? ⟨w.heap.size + 1, 1, none⟩ = some (.slice A' b.length c')) (first | exact h0.out | exact hstep.out _ _ ‹Below _ _ _› h0.out | exact hstep.out _ _ ‹Below _ _ _› (by assumption))
      (first | (go_at_call 28; refine (spSign_any _ _ _ _ _).mono ?_; rintro e w' ⟨rfl, hb⟩))
    clear h0
    obtain ⟨hB, c0, c1, c2, c3⟩ := ‹Below w.heap.size w _ ∧ _›
    obtain ⟨W, hW⟩ : ∃ W, W = w' := ⟨_, rfl⟩
    rw [← hW] at hB c0 c1 c2 c3 ⊢
    have h1 : Hid (Kin w n1 (.slice A a.length c) n2 (.slice A' b.length c') W.drew) := ⟨hB.drew, c0, c1, c2, c3⟩
    have HB := Lib.hid hB
    clear hW hb hB
    go_wp2
    go_region_held3 (fun W => Below w.heap.size w W ∧ W.cell? ⟨w.heap.size, 0, none⟩ = some (.bool n1) ∧ W.cell? ⟨w.heap.size, 1, none⟩ = some (.slice A a.length c) ∧ W.cell? ⟨w.heap.size + 1, 0, none⟩ = some (.bool n2) ∧ W.cell? ⟨w.heap.size + 1, 1, none⟩ = some (.slice A' b.length c')) (first | exact h1.out | exact hstep.out _ _ ‹Below _ _ _› h1.out | exact hstep.out _ _ ‹Below _ _ _› (by assumption))
      (first | (go_at_call 28; refine (spSign_any _ _ _ _ _).mono ?_; rintro e w' ⟨rfl, hb⟩))
    clear h1 hstep
    obtain ⟨hB2, _⟩ := ‹Below w.heap.size w _ ∧ _›
    cases d
    all_goals
      go_wp2
      go_ret
      exact ⟨by rw [hO.out]; rfl, hB2⟩
end Go.Proofs.Ytgcdcchmdcdflaa
