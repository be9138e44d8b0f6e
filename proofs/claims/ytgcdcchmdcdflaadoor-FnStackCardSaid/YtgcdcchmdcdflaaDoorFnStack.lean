/- Walk of FnStack. -/
import Derived.Test.YtgcdcchmdcdflaaDoorStackOf
import Derived.BigQuiet
set_option linter.unusedVariables false
namespace Go.Proofs.YtgcdcchmdcdflaaDoor
open Go.RowKit

theorem rem_any (pops : Int) (m : Nat) (h0 : 0 ≤ pops) (h1 : pops < 256) (hm : m ≤ 20) : ∃ n : Nat, n ≤ m ∧ wrap64 pops = pops ∧ wrap64 ((m : Int) + 1) = (m : Int) + 1 ∧ pops.tmod ((m : Int) + 1) = (n : Int) := by
  have h2 := Int.tmod_nonneg ((m : Int) + 1) h0
  have h3 := Int.tmod_lt_of_pos pops (show (0 : Int) < (m : Int) + 1 by omega)
  refine ⟨(pops.tmod ((m : Int) + 1)).toNat, by omega, ?_, ?_, by omega⟩
  · unfold wrap64; omega
  · unfold wrap64; omega

set_option maxHeartbeats 1000000 in
theorem fnStack_any (S : Nat → Prop) (A : Option Addr) (c : Nat) (l : List Fr) (hlen : l.length ≤ 9223372036854775807) (hc : l.length ≤ c) (pops : Int) (hp0 : 0 ≤ pops) (hp1 : pops < 256) (w : World) (h : Rd w S A (frs l)) (hS : ∀ k, S k → k < w.heap.size) (ht : Tab w) :
    Calls Tryd.prog 3 #[.slice A l.length c, .int .u8 pops] w fun e w' => e = .returned (.bool true) ∧ Below w.heap.size w w' := by
  have H : Hid (∀ W : World, Below w.heap.size w W → Rd W S A (frs l) ∧ (∀ k, S k → k < W.heap.size)) := Lib.hid fun W hW => ⟨h.keep (still_below hW hS), fun k hk => Nat.lt_of_lt_of_le (hS k hk) hW.size⟩
  have HT : Hid (∀ W : World, Below w.heap.size w W → Tab W) := Lib.hid fun W hW => tab_up ht hW
  have HL := Lib.hid hlen
  have HC := Lib.hid hc
  have HP := Lib.hid (And.intro hp0 hp1)
  have h0 := Lib.hid (Below.refl w.heap.size w)
  clear h hS ht hlen hc hp0 hp1
  go_enter Tryd.func3, Tryd.ntmps3
  go_wp2_with fail
  refine (fits3_any S A c l HL.out _ (H.out _ h0.out).1 (H.out _ h0.out).2).mono ?_
  rintro e w1 ⟨r, rfl, hb1⟩
  have hB1 := Lib.hid hb1
  clear hb1
  cases r with
  | false =>
    go_wp2
    go_ret
    exact ⟨rfl, hB1.out⟩
  | true =>
    go_wp2_with fail
    refine (stackFrames_any S A c l HL.out HC.out _ (H.out _ hB1.out).1 (H.out _ hB1.out).2).mono ?_
    rintro e w2 ⟨v, fs, rfl, hfl, hfo, hown, hb2⟩
    have hB2 := Lib.hid (below_up hB1.out hb2)
    obtain ⟨A5, q5, rfl, hq5, hr5, _⟩ := own_rd hown
    obtain ⟨n, hn, e1, e2, e3⟩ := rem_any pops fs.length HP.out.1 HP.out.2 hfl
    have HN := Lib.hid hn
    have HF := Lib.hid hfl
    have HO := Lib.hid hfo
    have HR5 : Hid (∀ W : World, Below w2.heap.size w2 W → Rd W (fun j => w1.heap.size ≤ j ∧ j < w2.heap.size) A5 (frs fs)) := Lib.hid fun W hW => hr5.keep (still_below hW fun k hk => hk.2)
    have hz : ¬ ((fs.length : Int) + 1 = 0) := by omega
    clear hb2 hown hq5 hr5 hn hfl hfo
    go_wp2_with fail
    refine (stackOf_any _ A5 q5 fs n (by have := HF.out; omega) HN.out HO.out _ (HR5.out _ (Below.refl _ _)) (fun k hk => hk.2) (HT.out _ hB2.out)).mono ?_
    rintro e w3 ⟨A1, c1, A2, c2, rfl, hr1, hr2, hb3⟩
    have hB3 := Lib.hid (below_up hB2.out hb3)
    have hB23 := Lib.hid hb3
    have HR1 : Hid (∀ W : World, Below w3.heap.size w3 W → Rd W (fun j => w2.heap.size ≤ j ∧ j < w3.heap.size) A1 (frs fs.reverse)) := Lib.hid fun W hW => hr1.keep (still_below hW fun k hk => hk.2)
    have HR2 : Hid (∀ W : World, Below w3.heap.size w3 W → Rd W (fun j => w2.heap.size ≤ j ∧ j < w3.heap.size) A2 (frs (fs.reverse.take n))) := Lib.hid fun W hW => hr2.keep (still_below hW fun k hk => hk.2)
    have e4 : wrap64 ((fs.length : Int) - (n : Int)) = ((fs.length - n : Nat) : Int) := by have := HN.out; have := HF.out; unfold wrap64; omega
    have hnw := Lib.hid (Blk.new w3 26 #[.slice A1 fs.length c1, .slice A2 n c2, .int .i64 ((fs.length - n : Nat) : Int), .bool true])
    have hb0 := Lib.hid ((Below.refl w3.heap.size w3).alloc (Nat.le_refl _) (.cells #[.slice A1 fs.length c1, .slice A2 n c2, .int .i64 ((fs.length - n : Nat) : Int), .bool true] 26))
    clear hb3 hr1 hr2 e1 e2 e3 hz
    go_wp2
    go_loopw [64] (fun i wr => ∃ k : Nat, i = .int .i64 (k : Int) ∧ k ≤ fs.length ∧ Hid (Below w3.heap.size w3 wr) ∧ Hid (Blk wr w3.heap.size 26 #[.slice A1 fs.length c1, .slice A2 n c2, .int .i64 ((fs.length - n : Nat) : Int), .bool true])) (fun i _ => ((fs.length : Int) - intOf i).toNat)
    case atStart => exact ⟨0, rfl, by omega, hb0, hnw⟩
    case round =>
      obtain ⟨k, rfl, hk, hbr, hbl⟩ := hrel
      by_cases hlt : k < fs.length
      · obtain ⟨f, hf, b1, o1, rfl, hSb1, a0, a1, a2⟩ := rd_fr (HR1.out _ hbr.out) (show k < fs.reverse.length by simpa using hlt)
        obtain ⟨f', hf', b5, o5, rfl, hSb5, x0, x1, x2⟩ := rd_fr (HR5.out _ (hB23.out.trans (hbr.out.mono hB23.out.size))) (show fs.length - 1 - k < fs.length by omega)
        have hff : f' = f := by
          have := List.getElem?_reverse hlt
          rw [hf, hf'] at this
          exact (Option.some.inj this).symm
        subst hff
        have HFR := Lib.hid hf
        have k1 : b1 < wr.heap.size := Nat.lt_of_lt_of_le hSb1.2 hbr.out.size
        have k5 : b5 < wr.heap.size := Nat.lt_of_lt_of_le hSb5.2 (Nat.le_trans hB23.out.size hbr.out.size)
        have k3 : w3.heap.size < wr.heap.size := hbl.out.lt
        have d1 : wr.cell? ⟨w3.heap.size, 1, none⟩ = some (.slice A2 n c2) := hbl.out.cell 1
        have e5 := (at_idx fs.length k hlt (by have := HF.out; omega)).1
        have e6 := (at_idx fs.length k hlt (by have := HF.out; omega)).2
        have e5w : IntKind.i64.wrap ((fs.length : Int) - 1) = (fs.length : Int) - 1 := by rw [IntWalk.i64_left]; exact e5
        have e6w : IntKind.i64.wrap ((fs.length : Int) - 1 - (k : Int)) = ((fs.length - 1 - k : Nat) : Int) := by rw [IntWalk.i64_left]; exact e6
        have j0 : (0 : Int) ≤ ((fs.length - 1 - k : Nat) : Int) := by omega
        have j1 : ((fs.length - 1 - k : Nat) : Int) < (fs.length : Int) := by omega
        have w1k : wrap64 ((k : Int) + 1) = (k : Int) + 1 := by have := HF.out; unfold wrap64; omega
        have HM := Lib.hid (meas_lt hlt)
        have HLT := Lib.hid hlt
        have hb4 := Lib.hid (below_al hbr.out (.cells #[.string f'.nm, .int .i64 f'.ln, .int .i64 f'.cl] 30))
        have hbl4 := Lib.hid (hbl.out.alloc (.cells #[.string f'.nm, .int .i64 f'.ln, .int .i64 f'.cl] 30))
        generalize hjj : fs.length - 1 - k = jj at *
        clear hf hf' hSb1 hSb5 hjj hk
        by_cases hkn : k < n
        · obtain ⟨f2, hf2, b2, o2, rfl, hSb2, y0, y1, y2⟩ := rd_fr (HR2.out _ hbr.out) (show k < (fs.reverse.take n).length from by rw [List.length_take, List.length_reverse]; exact Nat.lt_min.2 ⟨hkn, hlt⟩)
          have hff2 : f2 = f' := by
            rw [List.getElem?_take_of_lt hkn] at hf2
            exact Option.some.inj (hf2.symm.trans HFR.out)
          subst hff2
          have k2 : b2 < wr.heap.size := Nat.lt_of_lt_of_le hSb2.2 hbr.out.size
          have hd : decide ((k : Int) < (n : Int)) = true := dec_yes (Int.ofNat_lt.2 hkn)
          have hkn0 : (k : Int) < (n : Int) := Int.ofNat_lt.2 hkn
          clear hf2 hSb2 hkn HFR
          go_upto_region 11 with fail
          go_quiet (fail)
          clear e5w e6w e5 e6 j0 j1 a0 a1 a2 x0 x1 x2 k1 k5 k3 d1
          have hb5 := Lib.hid (below_drewN' hb4.out nq)
          have hbl5 := Lib.hid (hbl4.out.drewN nq)
          go_wp2
          go_roundw
          case rel => exact ⟨k + 1, by first | rfl | (rw [w1k]; rfl), HLT.out, hb5, hbl5⟩
          case measure => first | exact HM.out | (rw [w1k]; exact HM.out)
        · have hd : decide ((k : Int) < (n : Int)) = false := dec_no (fun h => hkn (Int.ofNat_lt.1 h))
          have hd2 : decide (k < n) = false := dec_no hkn
          have hle : n ≤ k := Nat.le_of_not_lt hkn
          have hlei : (n : Int) ≤ (k : Int) := Int.ofNat_le.2 hle
          go_upto_region 11 with fail
          go_quiet (fail)
          clear e5w e6w e5 e6 j0 j1 a0 a1 a2 x0 x1 x2 k1 k5 k3 d1
          have hb5 := Lib.hid (below_drewN' hb4.out nq)
          have hbl5 := Lib.hid (hbl4.out.drewN nq)
          go_wp2
          go_roundw
          case rel => exact ⟨k + 1, by first | rfl | (rw [w1k]; rfl), HLT.out, hb5, hbl5⟩
          case measure => first | exact HM.out | (rw [w1k]; exact HM.out)
      · have : k = fs.length := by omega
        subst this
        have hS1 := stackOf_any (fun j => j = wr.heap.size) (some ⟨wr.heap.size, 0, none⟩) 1 [⟨{ data := #[102] }, 1, 1⟩] 1 (by decide) (by decide) (fun g hg => by rw [List.mem_singleton.1 hg]; exact ⟨by decide, by decide, by decide, by decide, by decide⟩)
          (wr.alloc (.cells #[.string { data := #[102] }, .int .i64 1, .int .i64 1] 30)) (Rd.of_blk (ys := []) (Blk.new wr 30 #[.string { data := #[102] }, .int .i64 1, .int .i64 1]) rfl) (fun k hk => by rw [hk]; simp) (HT.out _ (below_al (below_up hB3.out hbr.out) _))
        have HS1 := Lib.hid hS1
        have hB4 := Lib.hid (below_al (below_up hB3.out hbr.out) (.cells #[.string { data := #[102] }, .int .i64 1, .int .i64 1] 30))
        clear hS1 hk hlt
        go_wp2_with fail
        refine HS1.out.mono ?_
        rintro e w5 ⟨B1, d1, B2, d2, rfl, hr1, hr2, hb5⟩
        have hB5 := Lib.hid (below_up hB4.out hb5)
        obtain ⟨g, hg, b, o, rfl, hSb, a0, a1, a2⟩ := rd_fr hr1 (i := 0) (by decide)
        obtain rfl : ⟨{ data := #[102] }, 1, 1⟩ = g := Option.some.inj hg
        have k1 := hSb.2
        simp at a0
        clear hr1 hr2 hb5 hg a1 a2 hSb
        go_wp2
        go_ret
        exact ⟨rfl, below_al hB5.out _⟩
end Go.Proofs.YtgcdcchmdcdflaaDoor
