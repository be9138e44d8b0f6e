/- The reference's Makes. The reference's Makes: what it tells. The thin package's scalar; lists, keys. -/
import Derived.Test.YtloloifngbmibaaGreatDoorM29
set_option linter.unusedVariables false
set_option linter.unusedSimpArgs false
set_option maxRecDepth 4000
namespace Go.Proofs.YtloloifngbmibaaGreatDoor
open Go.RowKit

def MakesOut (P : Prop) (w : World) (e : Ending) (w' : World) : Prop := ∃ r : Bool, e = .returned (.bool r) ∧ (r = true → P) ∧ Below w.heap.size w w'
theorem makes_false {P : Prop} {w w' : World} (h : Below w.heap.size w w') : MakesOut P w (.returned (.bool false)) w' := ⟨false, rfl, (fun h => nomatch h), h⟩
theorem makes_true {P : Prop} {w w' : World} (hp : P) (h : Below w.heap.size w w') : MakesOut P w (.returned (.bool true)) w' := ⟨true, rfl, fun _ => hp, h⟩

set_option maxHeartbeats 1000000 in
theorem makesA (P1 : Nat → Prop) (P3 : Nat → Nat → Prop) (k : Int) (ng : Bool) (Am : Option Addr) (nm cm : Nat) (b : Int) (s : ByteArray) (A : Option Addr) (n c : Nat) (hn : n ≤ 1000) (hnc : n ≤ c) (hk : k ≠ 8 ∧ k ≠ 9) (h0 : 0 ≤ k) (h9 : k ≤ 9) (w : World)
    (H1 : ∀ i, i < n → ∀ W, Below w.heap.size w W → ∃ u : Vc, KidAt W A i u ∧ Calls Tryz.prog 20 #[u.agg] W (MakesOut (P1 i) W)) :
    Calls Tryz.prog 20 #[.agg #[.int .i64 k, .bool ng, .slice Am nm cm, .int .u64 b, .string s, .slice A n c]] w (MakesOut (∀ i, i < n → P1 i) w) := by
  have HH1 := Lib.hid H1
  clear H1
  have hs := Lib.hid (Bv1.start w ⟨k, ng, .slice Am nm cm, b, s, .slice A n c⟩)
  have e8 := beq_no hk.1
  have e9 := beq_no hk.2
  have d0 : ¬ k < 0 := by omega
  have d9 : ¬ 9 < k := by omega
  clear hk h0 h9
  go_enter Tryz.func20, Tryz.ntmps20
  go_wp2
  go_loopw [3] (fun iv wr => ∃ (i : Nat), iv = .int .i64 i ∧ i ≤ n ∧ Hid (∀ j, j < i → P1 j) ∧ Hid (Bv1 w ⟨k, ng, .slice Am nm cm, b, s, .slice A n c⟩ wr)) (fun iv _ => n - (intOf iv).toNat)
  case atStart => exact ⟨0, rfl, Nat.zero_le _, Lib.hid (fun j hj => by omega), hs⟩
  case round =>
    obtain ⟨i, rfl, hi, hP, hB⟩ := hrel
    have b5 := hB.out.2.cell 5
    have b0 := hB.out.2.cell 0
    simp at b5 b0
    by_cases hlt : i < n
    · obtain ⟨u, ⟨b1, o1, rfl, u0, u1, u2, u3, u4, u5⟩, hc⟩ := HH1.out i hlt wr hB.out.lo
      have HC := Lib.hid hc
      have HME := Lib.hid (ms_lt hlt)
      have HSI := Lib.hid (Nat.succ_le_of_lt hlt)
      have w1k := Lib.hid (wr_suc i (Nat.le_trans hi (Nat.le_trans hn (by decide))))
      clear hc hi hlt hnc
      go_wp2_with fail
      refine HC.out.mono ?_
      rintro e w1 ⟨r, rfl, hr, hb1⟩
      have hB1 := Lib.hid (hB.out.up hb1)
      have HR := Lib.hid hr
      clear hB hb1 hr b5 b0 u0 u1 u2 u3 u4 u5 HC HH1
      cases r with
      | true =>
        have HP2 : Hid (∀ j, j < i + 1 → P1 j) := Lib.hid (fun j hj => by rcases Nat.lt_succ_iff_lt_or_eq.1 hj with h | h; exact hP.out j h; subst h; first | exact HR.out rfl | exact HR.out trivial)
        go_wp2
        go_roundw
        case rel => exact ⟨i + 1, by first | rfl | (rw [w1k.out]; rfl), HSI.out, HP2, hB1⟩
        case measure => first | exact HME.out | (rw [w1k.out]; exact HME.out)
      | false =>
        go_wp2
        go_ret
        exact makes_false hB1.out.lo
    · have hie : i = n := Nat.le_antisymm hi (Nat.not_lt.1 hlt)
      subst hie
      clear HH1 hlt hi
      have HL := Lib.hid hB.out.lo
      clear hB
      go_wp2
      go_loopw [5] (fun iv wr => Hid (Below w.heap.size w wr)) (fun iv _ => 0)
      case atStart => exact HL
      case round =>
        go_wp2
        go_ret
        exact makes_true hP.out hrel.out

set_option maxHeartbeats 1000000 in
theorem makes8 (P1 : Nat → Prop) (P3 : Nat → Nat → Prop) (k : Int) (ng : Bool) (Am : Option Addr) (nm cm : Nat) (b : Int) (s : ByteArray) (A : Option Addr) (n c : Nat) (hn : n ≤ 1000) (hnc : n ≤ c) (hk : k = 8) (h0 : 0 ≤ k) (h9 : k ≤ 9) (w : World)
    (H1 : ∀ i, i < n → ∀ W, Below w.heap.size w W → ∃ u : Vc, KidAt W A i u ∧ Calls Tryz.prog 20 #[u.agg] W (MakesOut (P1 i) W))
    (H2 : ∀ i, i < n → i % 2 = 0 → ∀ W, Below w.heap.size w W → ∃ u : Vc, KidAt W A i u ∧ Calls Tryz.prog 50 #[u.agg] W (fun e w' => e = .returned (.bool true) ∧ Below W.heap.size W w') ∧ ∀ W', Below W.heap.size W W' → Calls Tryz.prog 51 #[.slice A i c, .int .i64 2, u.agg] W' (FindOut (P3 i) i 2 W')) :
    Calls Tryz.prog 20 #[.agg #[.int .i64 k, .bool ng, .slice Am nm cm, .int .u64 b, .string s, .slice A n c]] w (MakesOut ((∀ i, i < n → P1 i) ∧ n % 2 = 0 ∧ (∀ i, i < n → i % 2 = 0 → ∀ j, j < i → j % 2 = 0 → ¬ P3 i j)) w) := by
  have HH1 := Lib.hid H1
  have HH2 := Lib.hid H2
  clear H1 H2
  have hs := Lib.hid (Bv1.start w ⟨k, ng, .slice Am nm cm, b, s, .slice A n c⟩)
  subst hk
  clear h0 h9
  by_cases hev : n % 2 = 0
  · have ev : ((n : Int) % 2 == 1) = false := beq_no (by omega)
    have HEV := Lib.hid hev
    clear hev
    go_enter Tryz.func20, Tryz.ntmps20
    go_wp2
    go_loopw [3] (fun iv wr => ∃ (i : Nat), iv = .int .i64 i ∧ i ≤ n ∧ Hid (∀ j, j < i → P1 j) ∧ Hid (Bv1 w ⟨8, ng, .slice Am nm cm, b, s, .slice A n c⟩ wr)) (fun iv _ => n - (intOf iv).toNat)
    case atStart => exact ⟨0, rfl, Nat.zero_le _, Lib.hid (fun j hj => by omega), hs⟩
    case round =>
      obtain ⟨i, rfl, hi, hP, hB⟩ := hrel
      have b5 := hB.out.2.cell 5
      have b0 := hB.out.2.cell 0
      simp at b5 b0
      by_cases hlt : i < n
      · obtain ⟨u, ⟨b1, o1, rfl, u0, u1, u2, u3, u4, u5⟩, hc⟩ := HH1.out i hlt wr hB.out.lo
        have HC := Lib.hid hc
        have HME := Lib.hid (ms_lt hlt)
        have HSI := Lib.hid (Nat.succ_le_of_lt hlt)
        have w1k := Lib.hid (wr_suc i (Nat.le_trans hi (Nat.le_trans hn (by decide))))
        clear hc hi hlt hnc
        go_wp2_with fail
        refine HC.out.mono ?_
        rintro e w1 ⟨r, rfl, hr, hb1⟩
        have hB1 := Lib.hid (hB.out.up hb1)
        have HR := Lib.hid hr
        clear hB hb1 hr b5 b0 u0 u1 u2 u3 u4 u5 HC HH1 HH2
        cases r with
        | true =>
          have HP2 : Hid (∀ j, j < i + 1 → P1 j) := Lib.hid (fun j hj => by rcases Nat.lt_succ_iff_lt_or_eq.1 hj with h | h; exact hP.out j h; subst h; first | exact HR.out rfl | exact HR.out trivial)
          go_wp2
          go_roundw
          case rel => exact ⟨i + 1, by first | rfl | (rw [w1k.out]; rfl), HSI.out, HP2, hB1⟩
          case measure => first | exact HME.out | (rw [w1k.out]; exact HME.out)
        | false =>
          go_wp2
          go_ret
          exact makes_false hB1.out.lo
      · have hie : i = n := Nat.le_antisymm hi (Nat.not_lt.1 hlt)
        subst hie
        clear HH1 hlt hi
        go_wp2
        clear b5 b0
        obtain ⟨wo, rfl⟩ : ∃ wo : World, wo = wr := ⟨_, rfl⟩
        go_loopw [5] (fun jv wr => ∃ (j : Nat), jv = .int .i64 j ∧ j ≤ i + 1 ∧ j % 2 = 0 ∧ Hid (∀ q, q < j → q % 2 = 0 → ∀ p, p < q → p % 2 = 0 → ¬ P3 q p) ∧ Hid (Bv1 w ⟨8, ng, .slice Am nm cm, b, s, .slice A i c⟩ wr)) (fun jv _ => i + 2 - (intOf jv).toNat)
        case atStart => exact ⟨0, rfl, Nat.zero_le _, rfl, Lib.hid (fun q hq => by omega), hB⟩
        case round =>
          obtain ⟨j, rfl, hj, hjm, hQ, hB⟩ := hrel
          have b5 := hB.out.2.cell 5
          simp at b5
          by_cases hlt : j < i
          · obtain ⟨u, ⟨b1, o1, rfl, hu⟩, hc, hf⟩ := HH2.out j hlt hjm wr.drew hB.out.lo.drew
            have HC := Lib.hid hc
            have HF := Lib.hid hf
            have HME : Hid (i + 2 - (j + 2) < i + 2 - j) := Lib.hid (by omega)
            have HSI : Hid (j + 2 ≤ i + 1 ∧ (j + 2) % 2 = 0) := Lib.hid ⟨by omega, by omega⟩
            have w1k : Hid (wrap64 ((j : Int) + 2) = (j : Int) + 2) := Lib.hid (wr_add j 2 (by omega))
            have HS6 := Lib.hid (show Bv1S w 8 ng (.slice Am nm cm) b s (.slice (some ⟨b1, o1, none⟩) i c) wr.drew ∧ Six wr.drew b1 (o1 + j * 6) u from ⟨hB.out.drew.s, hu⟩)
            have hjc : (j : Int) ≤ (c : Int) := by omega
            have hjc2 : j ≤ c := by omega
            have HBB := Lib.hid hB.out.drew
            have HJM := Lib.hid hjm
            clear hc hf hu hj hjm HH2 hB
            go_wp2_with fail
            go_region_held3 (fun W => Bv1S w 8 ng (.slice Am nm cm) b s (.slice (some ⟨b1, o1, none⟩) i c) W ∧ Six W b1 (o1 + j * 6) u)
              (first | (with_reducible assumption) | (with_reducible exact HS6.out) | (with_reducible exact ⟨((HS6.out.1.1.up hb2).up hb3).s, (HS6.out.2.up hb2).up hb3⟩) | (with_reducible exact ⟨(HS6.out.1.1.up hb2).s, HS6.out.2.up hb2⟩))
              (first
                | (go_at_call 50; (with_reducible refine HC.out.mono ?_); rintro e w2 ⟨rfl, hb2⟩)
                | (go_at_call 51; (with_reducible refine (HF.out _ hb2).mono ?_); rintro e w3 ⟨r, rfl, hr, hb3⟩))
            have hB3 := Lib.hid ((HBB.out.up hb2).up hb3)
            have HR := Lib.hid hr
            clear hb2 hb3 hr HS6 HBB HC HF b5 hjc hjc2
            by_cases hr0 : r < 0
            · have HQ2 : Hid (∀ q, q < j + 2 → q % 2 = 0 → ∀ p, p < q → p % 2 = 0 → ¬ P3 q p) := Lib.hid (fun q hq hqm => by
                by_cases h : q < j
                · exact hQ.out q h hqm
                · have hqj : q = j := by have := HJM.out; omega
                  rw [hqj]
                  exact HR.out hr0)
              go_wp2
              go_roundw
              case rel => exact ⟨j + 2, by first | rfl | (rw [w1k.out]; rfl), HSI.out.1, HSI.out.2, HQ2, hB3⟩
              case measure => first | exact HME.out | (rw [w1k.out]; exact HME.out)
            · have hr1 : 0 ≤ r := by omega
              clear hr0
              go_wp2
              go_ret
              exact makes_false hB3.out.lo
          · have HQ3 : Hid (∀ q, q < i → q % 2 = 0 → ∀ p, p < q → p % 2 = 0 → ¬ P3 q p) := Lib.hid (fun q hq => hQ.out q (by omega))
            have HL := Lib.hid hB.out.lo
            clear hB HH2
            go_wp2
            go_ret
            exact makes_true ⟨hP.out, HEV.out, HQ3.out⟩ HL.out
  · have ev : ((n : Int) % 2 == 1) = true := beq_yes (by omega)
    clear hev HH1 HH2
    have b0 := hs.out.lo
    go_enter Tryz.func20, Tryz.ntmps20
    go_wp2
    go_ret
    exact makes_false hs.out.lo

set_option maxHeartbeats 1000000 in
theorem makes9 (P1 : Nat → Prop) (P3 : Nat → Nat → Prop) (k : Int) (ng : Bool) (Am : Option Addr) (nm cm : Nat) (b : Int) (s : ByteArray) (A : Option Addr) (n c : Nat) (hn : n ≤ 1000) (hnc : n ≤ c) (hk : k = 9) (h0 : 0 ≤ k) (h9 : k ≤ 9) (w : World)
    (H1 : ∀ i, i < n → ∀ W, Below w.heap.size w W → ∃ u : Vc, KidAt W A i u ∧ Calls Tryz.prog 20 #[u.agg] W (MakesOut (P1 i) W))
    (H2 : ∀ i, i < n → i % 1 = 0 → ∀ W, Below w.heap.size w W → ∃ u : Vc, KidAt W A i u ∧ Calls Tryz.prog 50 #[u.agg] W (fun e w' => e = .returned (.bool true) ∧ Below W.heap.size W w') ∧ ∀ W', Below W.heap.size W W' → Calls Tryz.prog 51 #[.slice A i c, .int .i64 1, u.agg] W' (FindOut (P3 i) i 1 W')) :
    Calls Tryz.prog 20 #[.agg #[.int .i64 k, .bool ng, .slice Am nm cm, .int .u64 b, .string s, .slice A n c]] w (MakesOut ((∀ i, i < n → P1 i) ∧ (∀ i, i < n → i % 1 = 0 → ∀ j, j < i → j % 1 = 0 → ¬ P3 i j)) w) := by
  have HH1 := Lib.hid H1
  have HH2 := Lib.hid H2
  clear H1 H2
  have hs := Lib.hid (Bv1.start w ⟨k, ng, .slice Am nm cm, b, s, .slice A n c⟩)
  subst hk
  clear h0 h9
  go_enter Tryz.func20, Tryz.ntmps20
  go_wp2
  go_loopw [3] (fun iv wr => ∃ (i : Nat), iv = .int .i64 i ∧ i ≤ n ∧ Hid (∀ j, j < i → P1 j) ∧ Hid (Bv1 w ⟨9, ng, .slice Am nm cm, b, s, .slice A n c⟩ wr)) (fun iv _ => n - (intOf iv).toNat)
  case atStart => exact ⟨0, rfl, Nat.zero_le _, Lib.hid (fun j hj => by omega), hs⟩
  case round =>
    obtain ⟨i, rfl, hi, hP, hB⟩ := hrel
    have b5 := hB.out.2.cell 5
    have b0 := hB.out.2.cell 0
    simp at b5 b0
    by_cases hlt : i < n
    · obtain ⟨u, ⟨b1, o1, rfl, u0, u1, u2, u3, u4, u5⟩, hc⟩ := HH1.out i hlt wr hB.out.lo
      have HC := Lib.hid hc
      have HME := Lib.hid (ms_lt hlt)
      have HSI := Lib.hid (Nat.succ_le_of_lt hlt)
      have w1k := Lib.hid (wr_suc i (Nat.le_trans hi (Nat.le_trans hn (by decide))))
      clear hc hi hlt hnc
      go_wp2_with fail
      refine HC.out.mono ?_
      rintro e w1 ⟨r, rfl, hr, hb1⟩
      have hB1 := Lib.hid (hB.out.up hb1)
      have HR := Lib.hid hr
      clear hB hb1 hr b5 b0 u0 u1 u2 u3 u4 u5 HC HH1 HH2
      cases r with
      | true =>
        have HP2 : Hid (∀ j, j < i + 1 → P1 j) := Lib.hid (fun j hj => by rcases Nat.lt_succ_iff_lt_or_eq.1 hj with h | h; exact hP.out j h; subst h; first | exact HR.out rfl | exact HR.out trivial)
        go_wp2
        go_roundw
        case rel => exact ⟨i + 1, by first | rfl | (rw [w1k.out]; rfl), HSI.out, HP2, hB1⟩
        case measure => first | exact HME.out | (rw [w1k.out]; exact HME.out)
      | false =>
        go_wp2
        go_ret
        exact makes_false hB1.out.lo
    · have hie : i = n := Nat.le_antisymm hi (Nat.not_lt.1 hlt)
      subst hie
      clear HH1 hlt hi
      go_wp2
      clear b5 b0
      obtain ⟨wo, rfl⟩ : ∃ wo : World, wo = wr := ⟨_, rfl⟩
      go_loopw [5] (fun jv wr => ∃ (j : Nat), jv = .int .i64 j ∧ j ≤ i + 1 ∧ j % 1 = 0 ∧ Hid (∀ q, q < j → q % 1 = 0 → ∀ p, p < q → p % 1 = 0 → ¬ P3 q p) ∧ Hid (Bv1 w ⟨9, ng, .slice Am nm cm, b, s, .slice A i c⟩ wr)) (fun jv _ => i + 2 - (intOf jv).toNat)
      case atStart => exact ⟨0, rfl, Nat.zero_le _, rfl, Lib.hid (fun q hq => by omega), hB⟩
      case round =>
        obtain ⟨j, rfl, hj, hjm, hQ, hB⟩ := hrel
        have b5 := hB.out.2.cell 5
        simp at b5
        by_cases hlt : j < i
        · obtain ⟨u, ⟨b1, o1, rfl, hu⟩, hc, hf⟩ := HH2.out j hlt hjm wr.drew hB.out.lo.drew
          have HC := Lib.hid hc
          have HF := Lib.hid hf
          have HME : Hid (i + 2 - (j + 1) < i + 2 - j) := Lib.hid (by omega)
          have HSI : Hid (j + 1 ≤ i + 1 ∧ (j + 1) % 1 = 0) := Lib.hid ⟨by omega, by omega⟩
          have w1k : Hid (wrap64 ((j : Int) + 1) = (j : Int) + 1) := Lib.hid (wr_add j 1 (by omega))
          have HS6 := Lib.hid (show Bv1S w 9 ng (.slice Am nm cm) b s (.slice (some ⟨b1, o1, none⟩) i c) wr.drew ∧ Six wr.drew b1 (o1 + j * 6) u from ⟨hB.out.drew.s, hu⟩)
          have hjc : (j : Int) ≤ (c : Int) := by omega
          have hjc2 : j ≤ c := by omega
          have HBB := Lib.hid hB.out.drew
          have HJM := Lib.hid hjm
          clear hc hf hu hj hjm HH2 hB
          go_wp2_with fail
          go_region_held3 (fun W => Bv1S w 9 ng (.slice Am nm cm) b s (.slice (some ⟨b1, o1, none⟩) i c) W ∧ Six W b1 (o1 + j * 6) u)
            (first | (with_reducible assumption) | (with_reducible exact HS6.out) | (with_reducible exact ⟨((HS6.out.1.1.up hb2).up hb3).s, (HS6.out.2.up hb2).up hb3⟩) | (with_reducible exact ⟨(HS6.out.1.1.up hb2).s, HS6.out.2.up hb2⟩))
            (first
              | (go_at_call 50; (with_reducible refine HC.out.mono ?_); rintro e w2 ⟨rfl, hb2⟩)
              | (go_at_call 51; (with_reducible refine (HF.out _ hb2).mono ?_); rintro e w3 ⟨r, rfl, hr, hb3⟩))
          have hB3 := Lib.hid ((HBB.out.up hb2).up hb3)
          have HR := Lib.hid hr
          clear hb2 hb3 hr HS6 HBB HC HF b5 hjc hjc2
          by_cases hr0 : r < 0
          · have HQ2 : Hid (∀ q, q < j + 1 → q % 1 = 0 → ∀ p, p < q → p % 1 = 0 → ¬ P3 q p) := Lib.hid (fun q hq hqm => by
              by_cases h : q < j
              · exact hQ.out q h hqm
              · have hqj : q = j := by have := HJM.out; omega
                rw [hqj]
                exact HR.out hr0)
            go_wp2
            go_roundw
            case rel => exact ⟨j + 1, by first | rfl | (rw [w1k.out]; rfl), HSI.out.1, HSI.out.2, HQ2, hB3⟩
            case measure => first | exact HME.out | (rw [w1k.out]; exact HME.out)
          · have hr1 : 0 ≤ r := by omega
            clear hr0
            go_wp2
            go_ret
            exact makes_false hB3.out.lo
        · have HQ3 : Hid (∀ q, q < i → q % 1 = 0 → ∀ p, p < q → p % 1 = 0 → ¬ P3 q p) := Lib.hid (fun q hq => hQ.out q (by omega))
          have HL := Lib.hid hB.out.lo
          clear hB HH2
          go_wp2
          go_ret
          exact makes_true ⟨hP.out, HQ3.out⟩ HL.out

end Go.Proofs.YtloloifngbmibaaGreatDoor
set_option linter.unusedVariables false
set_option linter.unusedSimpArgs false
set_option maxRecDepth 4000
namespace Go.Proofs.YtloloifngbmibaaGreatDoor
open Go.RowKit

/-- A value that can be made. -/
def MakeT : Nat → Tr → Prop
  | 0, _ => True
  | d + 1, t => (∀ u ∈ t.kids, MakeT d u) ∧ (t.k = 8 → t.kids.length % 2 = 0 ∧ Dist d 2 t.kids) ∧ (t.k = 9 → Dist d 1 t.kids)

/-- What Clean makes can be made. -/
theorem Good.make : ∀ {d : Nat} {t : Tr}, Good d t → MakeT d t
  | 0, _, _ => trivial
  | d + 1, t, g => ⟨fun u hu => (g.2.2.1 u hu).make, fun h => (g.2.2.2.1 h).2, fun h => (g.2.2.2.2 h).2.2⟩
theorem HVs.take {d : Nat} {ts : List Tr} {A : Option Addr} {W : World} (h : HVs d ts A W) (n : Nat) : HVs d (ts.take n) A W := by
  obtain ⟨S, xs, h1, h2, h3, h4⟩ := h
  refine ⟨S, xs.take n, by simp [h1], fun hn => ?_, fun i y u hy hu => ?_, h4⟩
  · obtain ⟨b, o, e, hb, hc⟩ := h2 (by rw [vcs_len] at hn ⊢; simp at hn; omega)
    refine ⟨b, o, e, hb, fun j u hu => hc j u ?_⟩
    have hj := (List.getElem?_eq_some_iff.1 hu).1
    rw [vcs_len] at hj
    have e2 : vcs xs = vcs (xs.take n) ++ vcs (xs.drop n) := by rw [← vcs_app, List.take_append_drop]
    rw [e2, List.getElem?_append_left (by rw [vcs_len]; exact hj)]
    exact hu
  · have hi : i < n := by
      have := (List.getElem?_eq_some_iff.1 hy).1
      simp at this
      omega
    rw [List.getElem?_take, if_pos hi] at hy hu
    exact h3 i y u hy hu

theorem makes_any : ∀ (d : Nat) {t : Tr} {x : Vc} {w : World}, HV (d + 1) t x w → Good d t → Calls Tryz.prog 20 #[x.agg] w (MakesOut (MakeT d t) w) := by
  have hcore : ∀ (d : Nat) {t : Tr} {x : Vc} {w : World}, HV (d + 1) t x w → GoodH t → t.k ≠ 8 ∧ t.k ≠ 9 → (P : Nat → Prop) → (∀ i, i < t.kids.length → ∀ W, Below w.heap.size w W → ∀ A, HVs d t.kids A W → ∃ u : Vc, KidAt W A i u ∧ Calls Tryz.prog 20 #[u.agg] W (MakesOut (P i) W)) →
      Calls Tryz.prog 20 #[x.agg] w (MakesOut (∀ i, i < t.kids.length → P i) w) := by
    intro d t x w h g hk P HK
    obtain ⟨A, c, hq, hc, hks⟩ := h.kids
    obtain ⟨S, h1, h2⟩ := id h
    obtain ⟨e1, e2, e3, e4, Am, cm, em, hcm, hr⟩ := h1.head
    obtain ⟨k, n, m, b, s, q⟩ := x
    simp only at e1 e2 e3 e4 em hq
    subst e1 e2 e3 e4 em hq
    exact makesA P (fun _ _ => True) t.k t.neg Am t.mag.length cm t.bits t.text A t.kids.length c (by have := g.kl; omega) hc hk g.k.1 g.k.2 w (fun i hi W hW => HK i hi W hW A (hks.up hW))
  intro d
  induction d with
  | zero =>
    intro t x w h g
    refine (hcore 0 h g.head ⟨by have := g.2.1; omega, by have := g.2.1; omega⟩ (fun _ => True) (fun i hi => by rw [g.2.2] at hi; simp at hi)).mono ?_
    rintro e w' ⟨r, rfl, _, hb⟩
    exact ⟨r, rfl, fun _ => trivial, hb⟩
  | succ d ih =>
    intro t x w h g
    have gh := g.head
    have HK : ∀ i, i < t.kids.length → ∀ W, Below w.heap.size w W → ∀ A, HVs (d + 1) t.kids A W → ∃ u : Vc, KidAt W A i u ∧ Calls Tryz.prog 20 #[u.agg] W (MakesOut (∀ u, t.kids[i]? = some u → MakeT d u) W) := by
      intro i hi W hW A hA
      obtain ⟨y, u, hu, hy, hya⟩ := hA.at_ hi
      refine ⟨y, hya, (ih hy (g.2.2.1 u (List.mem_of_getElem? hu))).mono ?_⟩
      rintro e w' ⟨r, rfl, hr, hb⟩
      refine ⟨r, rfl, fun h u' hu' => ?_, hb⟩
      rw [hu] at hu'
      injection hu' with hu'
      subst hu'
      exact hr h
    have hall : (∀ i, i < t.kids.length → ∀ u, t.kids[i]? = some u → MakeT d u) → ∀ u ∈ t.kids, MakeT d u := fun h u hu => by
      obtain ⟨i, hi⟩ := List.getElem?_of_mem hu
      exact h i (List.getElem?_eq_some_iff.1 hi).1 u hi
    by_cases hk : t.k ≠ 8 ∧ t.k ≠ 9
    · refine (hcore (d + 1) h gh hk _ HK).mono ?_
      rintro e w' ⟨r, rfl, hr, hb⟩
      exact ⟨r, rfl, fun h => ⟨hall (hr h), fun h8 => absurd h8 hk.1, fun h9 => absurd h9 hk.2⟩, hb⟩
    · obtain ⟨A, c, hq, hc, hks⟩ := h.kids
      obtain ⟨S, h1, h2⟩ := id h
      obtain ⟨e1, e2, e3, e4, Am, cm, em, hcm, hr⟩ := h1.head
      obtain ⟨k, n, m, b, s, q⟩ := x
      simp only at e1 e2 e3 e4 em hq
      subst e1 e2 e3 e4 em hq
      have H2 : ∀ st, 1 ≤ st ∧ st ≤ 2 → KeysT d st t.kids → ∀ i, i < t.kids.length → i % st = 0 → ∀ W, Below w.heap.size w W → ∃ u : Vc, KidAt W A i u ∧ Calls Tryz.prog 50 #[u.agg] W (fun e w' => e = .returned (.bool true) ∧ Below W.heap.size W w') ∧
          ∀ W', Below W.heap.size W W' → Calls Tryz.prog 51 #[.slice A i c, .int .i64 st, u.agg] W' (FindOut (fun j => ∃ u v, t.kids[i]? = some u ∧ t.kids[j]? = some v ∧ canon d v = canon d u) i st W') := by
        intro st hst hkeys i hi him W hW
        obtain ⟨y, u, hu, hy, hya⟩ := (hks.up hW).at_ hi
        have hgu := g.2.2.1 u (List.mem_of_getElem? hu)
        have hku := hkeys i u him hu
        have hh := hashx_any d hy hgu
        rw [key_hashB hku] at hh
        refine ⟨y, hya, hh, fun W' hW' => ?_⟩
        have hlen : (t.kids.take i).length = i := by rw [List.length_take]; omega
        have hf := find_any d st hst (ts := t.kids.take i) (A := A) (c := c) (key := u) (x := y) (w := W') (by rw [hlen]; have := gh.kl; omega) ((hks.up (below_up hW hW')).take i) (hy.up hW') (fun j v hj hv => by
          have hjl : j < i := by have := (List.getElem?_eq_some_iff.1 hv).1; rw [hlen] at this; exact this
          rw [List.getElem?_take, if_pos hjl] at hv
          exact ⟨g.2.2.1 v (List.mem_of_getElem? hv), hkeys j v hj hv⟩) hgu hku
        rw [hlen] at hf
        refine hf.mono ?_
        rintro e w' ⟨r, rfl, hr', hb⟩
        refine ⟨r, rfl, fun h j hj hjm hp => hr' h j hj hjm ?_, hb⟩
        obtain ⟨u', v, hu', hv, he⟩ := hp
        rw [hu] at hu'
        injection hu' with hu'
        subst hu'
        exact ⟨v, by rw [List.getElem?_take, if_pos hj]; exact hv, he⟩
      have hdist : ∀ st, (∀ i, i < t.kids.length → i % st = 0 → ∀ j, j < i → j % st = 0 → ¬ ∃ u v, t.kids[i]? = some u ∧ t.kids[j]? = some v ∧ canon d v = canon d u) → Dist d st t.kids := fun st h i j u v hj hi hjm hu hv he => h i (List.getElem?_eq_some_iff.1 hu).1 hi j hj hjm ⟨u, v, hu, hv, he⟩
      have hcase : t.k = 8 ∨ t.k = 9 := by omega
      rcases hcase with h8 | h9
      · refine (makes8 (fun i => ∀ u, t.kids[i]? = some u → MakeT d u) (fun i j => ∃ u v, t.kids[i]? = some u ∧ t.kids[j]? = some v ∧ canon d v = canon d u) t.k t.neg Am t.mag.length cm t.bits t.text A t.kids.length c (by have := gh.kl; omega) hc h8 gh.k.1 gh.k.2 w (fun i hi W hW => HK i hi W hW A (hks.up hW)) (H2 2 (by decide) (g.2.2.2.1 h8).1)).mono ?_
        rintro e w' ⟨r, rfl, hr', hb⟩
        exact ⟨r, rfl, fun h => ⟨hall (hr' h).1, fun _ => ⟨(hr' h).2.1, hdist 2 (hr' h).2.2⟩, fun h9 => by omega⟩, hb⟩
      · refine (makes9 (fun i => ∀ u, t.kids[i]? = some u → MakeT d u) (fun i j => ∃ u v, t.kids[i]? = some u ∧ t.kids[j]? = some v ∧ canon d v = canon d u) t.k t.neg Am t.mag.length cm t.bits t.text A t.kids.length c (by have := gh.kl; omega) hc h9 gh.k.1 gh.k.2 w (fun i hi W hW => HK i hi W hW A (hks.up hW)) (H2 1 (by decide) (g.2.2.2.2 h9).1)).mono ?_
        rintro e w' ⟨r, rfl, hr', hb⟩
        exact ⟨r, rfl, fun h => ⟨hall (hr' h).1, fun h8 => by omega, fun _ => hdist 1 (hr' h).2⟩, hb⟩
end Go.Proofs.YtloloifngbmibaaGreatDoor
set_option linter.unusedVariables false
set_option linter.unusedSimpArgs false
set_option maxRecDepth 4000
namespace Go.Proofs.YtloloifngbmibaaGreatDoor
open Go.RowKit

theorem floatOf_any (u : Nat) (hu : u < 18446744073709551616) (w : World) : Calls Tryz.prog 85 #[.int .u64 (u : Int)] w fun e w' => e = .returned (.float .f64 u) ∧ w' = w := by
  have hb := fun W => ffb_call u W
  have hc : ∀ W : World, (convert 83 147 (.float .f64 u)).run Tryz.prog W = .ok (.float .f64 u) W := fun W => by kernel_rfl
  clear hu
  go_enter Tryz.func85, Tryz.ntmps85
  go_wp2
  go_ret
  exact ⟨rfl, rfl⟩

/-- What a maker of values hands back. -/
def MadeOut (d : Nat) (t : Tr) (w : World) (e : Ending) (w' : World) : Prop := ∃ v, e = .returned (.tuple #[v, .bool true]) ∧ FV false d w.heap.size w'.heap.size t w' v ∧ Below w.heap.size w w'
theorem FVF.fv {fz : Bool} {d a b : Nat} {t : Tr} {W : World} {v : Value} (h : FVF a b t W v) : FV fz d a b t W v := by
  cases d with
  | zero => exact h
  | succ d => exact .inl h

theorem scalar_any {d d' : Nat} {t : Tr} {x : Vc} {w : World} (h : HV d t x w) (g : GoodH t) (hk : t.k < 6) : Calls Tryz.prog 54 #[.int .i64 t.k, x.agg] w (MadeOut d' t w) := by
  have hH : ∀ W, Below w.heap.size w W → HV d t x W := fun W hW => h.up hW
  have HWH := Lib.hid (fun W (hW : Below w.heap.size w W) => whI_any (h.up hW) g)
  obtain ⟨S, h1, h2⟩ := h
  obtain ⟨A', nq, cq, hq, _⟩ := h1.kidsV
  obtain ⟨e1, e2, e3, e4, A, cm, em, hcm, hr⟩ := h1.head
  obtain ⟨k, n, m, b, s, q⟩ := x
  simp only at e1 e2 e3 e4 em hq
  subst e1 e2 e3 e4 em hq
  have hal : Below w.heap.size w (w.alloc (.cells (VcB ⟨t.k, t.neg, .slice A t.mag.length cm, t.bits, t.text, .slice A' nq cq⟩) 26)) := below_al (Below.refl _ _) _
  have HAL := Lib.hid hal
  have hk0 := g.k.1
  have hb0 := g.b
  have HBO := Lib.hid g.bool
  obtain ⟨k, hkk⟩ : ∃ k, k = t.k := ⟨_, rfl⟩
  obtain ⟨bt, hbt⟩ : ∃ bt, bt = t.bits := ⟨_, rfl⟩
  obtain ⟨ng, hng⟩ : ∃ ng, ng = t.neg := ⟨_, rfl⟩
  obtain ⟨ml, hml⟩ : ∃ ml, ml = t.mag.length := ⟨_, rfl⟩
  obtain ⟨tx, htx⟩ : ∃ tx, tx = t.text := ⟨_, rfl⟩
  rw [← hkk, ← hbt] at HBO
  rw [← hkk, ← hbt, ← hng, ← hml, ← htx] at HWH
  rw [← hkk, ← hbt, ← hng, ← hml, ← htx] at HAL
  rw [← hkk, ← hbt, ← hng, ← hml, ← htx]
  rw [← hkk] at hk hk0
  rw [← hbt] at hb0
  have HK := Lib.hid hkk
  have HBT := Lib.hid hbt
  have HTX := Lib.hid htx
  have HNG := Lib.hid hng
  clear hH h1 h2 hr hal hkk hbt hng hml htx g
  have hcase : k = 0 ∨ k = 1 ∨ k = 2 ∨ k = 3 ∨ k = 4 ∨ k = 5 := by omega
  clear hk hk0
  rcases hcase with rfl | rfl | rfl | rfl | rfl | rfl
  · go_enter Tryz.func54, Tryz.ntmps54
    go_wp2
    go_ret2
    exact ⟨_, rfl, (FVF.none HK.out.symm).fv, HAL.out⟩
  · have hb1 : bt ≤ 1 := by have := HBO.out rfl; omega
    have HV : Hid (∀ W, FVF w.heap.size W.heap.size t W (.iface 146 (.bool (bt == 1)))) := Lib.hid fun W => by
      rw [HBT.out]
      exact .bool HK.out.symm
    have HAD := Lib.hid HAL.out.drew
    clear HBO HWH HAL
    go_enter Tryz.func54, Tryz.ntmps54
    go_wp2
    go_quiet (fail)
    go_wp2
    go_ret2
    exact ⟨_, rfl, (HV.out _).fv, below_drewN' (below_al (Below.refl _ _) _) _⟩
  · go_enter Tryz.func54, Tryz.ntmps54
    go_wp2_with fail
    refine (HWH.out _ HAL.out).mono ?_
    rintro e w2 ⟨v, rfl, hsi, hb⟩
    obtain ⟨sv, av, rfl⟩ := hsi.shape
    have HSI := Lib.hid ((hsi.low HAL.out.size).smi)
    have HB := Lib.hid (below_up HAL.out hb)
    clear hsi hb HWH HAL
    go_wp2
    go_ret2
    refine ⟨_, rfl, (FVF.int _ HK.out.symm ?_).fv, HB.out⟩
    rw [← HNG.out]
    exact HSI.out
  · obtain ⟨u, rfl⟩ := Int.eq_ofNat_of_zero_le hb0.1
    have hu : u < 18446744073709551616 := by omega
    have HF := Lib.hid (fun w => floatOf_any u hu w)
    clear hu hb0 HWH HBO
    go_enter Tryz.func54, Tryz.ntmps54
    go_wp2_with fail
    refine (HF.out _).mono ?_
    rintro e w2 ⟨rfl, rfl⟩
    go_wp2
    go_ret2
    refine ⟨_, rfl, ?_, HAL.out⟩
    have h1 := FVF.flt (a := w.heap.size) (b := (w.alloc (.cells (VcB ⟨3, ng, .slice A ml cm, (u : Int), tx, .slice A' nq cq⟩) 26)).heap.size) (W := w.alloc (.cells (VcB ⟨3, ng, .slice A ml cm, (u : Int), tx, .slice A' nq cq⟩) 26)) HK.out.symm
    rw [← HBT.out] at h1
    exact h1.fv
  · go_enter Tryz.func54, Tryz.ntmps54
    go_wp2
    go_ret2
    refine ⟨_, rfl, ?_, HAL.out⟩
    rw [HTX.out]
    exact (FVF.str HK.out.symm).fv
  · go_enter Tryz.func54, Tryz.ntmps54
    go_wp2
    go_ret2
    refine ⟨_, rfl, ?_, HAL.out⟩
    rw [HTX.out]
    exact (FVF.byt HK.out.symm).fv
end Go.Proofs.YtloloifngbmibaaGreatDoor
