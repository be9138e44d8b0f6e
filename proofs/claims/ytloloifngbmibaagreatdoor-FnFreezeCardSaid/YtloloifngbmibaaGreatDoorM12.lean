/- Walk of Rat.SetFloat64. Walks: beUint32, beUint64, bigEndianWord. What a row of bytes is worth, the highest first: plain facts. Bytes into words: plain facts; the walk of nat.setBytes. -/
import Derived.Test.YtloloifngbmibaaGreatDoorM11
import Derived.Lib.EndianBits
set_option linter.unusedVariables false
set_option linter.unusedSimpArgs false
set_option maxRecDepth 4000
namespace Go.Proofs.YtloloifngbmibaaGreatDoor
open Go.RowKit

set_option maxHeartbeats 2000000 in
theorem setFloat_any (u rb : Nat) (hu : u < 18446744073709551616) (hf : fex u ≠ 2047) (w : World) (hr : Blk w rb 292 #[.bool false, .slice none 0 0, .bool false, .slice none 0 0]) :
    Calls Tryz.prog 164 #[.pointer (some ⟨rb, 0, none⟩), .float .f64 u] w fun e w' => e = .returned (.pointer (some ⟨rb, 0, none⟩)) ∧ FltOut rb u w w' := by
  have hb := fun w => fbits_call u w
  have f1 := and52 u hu
  have f2 := and2047 u hu
  have f3 := or52 (u % 4503599627370496) (by omega)
  have lx : fex u < 2048 := Nat.mod_lt _ (by decide)
  have f4 : wrap64 (fex u : Int) = (fex u : Int) := by simp only [wrap64]; omega
  have f5 : ((fex u : Int) == 2047) = false := beq_no (by omega)
  have HR := Lib.hid hr
  have HS := Lib.hid (FltR.start u)
  clear hr
  go_enter Tryz.func164, Tryz.ntmps164
  go_upto_block 0 with fail
  go_cut [4, 6, 7] from 18 to 28 (fun rv mv ev wx => rv = .pointer none ∧ mv = .int .u64 (fm u) ∧ ev = .int .i64 (52 - fs u) ∧ wx = w)
  case first =>
    by_cases hx : fex u = 0
    · have g1 : ((fex u : Int) == 0) = true := by rw [hx]; rfl
      have e1 : Hid ((u : Int) % 4503599627370496 = (fm u : Int)) := Lib.hid (by unfold fm; rw [if_pos hx]; omega)
      have g2 : Hid ((fex u : Int) - 1022 = 52 - fs u) := Lib.hid (by unfold fs; rw [if_pos hx]; omega)
      clear hx
      go_wp2_with fail
      go_meet
      case rel => exact ⟨rfl, by rw [e1.out], by rw [g2.out], rfl⟩
    · have g1 : ((fex u : Int) == 0) = false := beq_no (by omega)
      have e1 : Hid (bits .or .u64 ((u : Int) % 4503599627370496) 4503599627370496 = (fm u : Int)) := Lib.hid (by have h := f3; rw [show ((u % 4503599627370496 : Nat) : Int) = (u : Int) % 4503599627370496 by omega] at h; rw [h]; unfold fm; rw [if_neg hx])
      have g2 : Hid ((fex u : Int) - 1023 = 52 - fs u) := Lib.hid (by unfold fs; rw [if_neg hx]; omega)
      clear hx
      go_wp2_with fail
      go_meet
      case rel =>
        exact ⟨rfl, by rw [e1.out], by rw [g2.out], rfl⟩
  case rest =>
    obtain ⟨rfl, rfl, rfl, rfl⟩ := hcut
    have g1 : 52 - (52 - fs u) = fs u := by omega
    have g2 : wrap64 (fs u) = fs u := by have := fs_bd u; simp only [wrap64]; omega
    clear f1 f2 f3 f4 f5 lx hb
    go_upto_block 1 with fail
    rw [g2]
    clear g1 g2
    go_cut [6, 8] from 30 to 40 (fun mv sv wx => ∃ (M : Nat) (T : Int), mv = .int .u64 M ∧ sv = .int .i64 T ∧ Hid (FltR u M T) ∧ (M % 2 = 1 ∨ T ≤ 0) ∧ wx = wc)
    case first =>
      go_wp2_with fail
      go_loop [6, 8] (fun mv sv => ∃ (M : Nat) (T : Int), mv = .int .u64 M ∧ sv = .int .i64 T ∧ Hid (FltR u M T)) (fun _ sv => (intOf sv).toNat)
      case atStart => exact ⟨_, _, rfl, rfl, HS⟩
      case round =>
        obtain ⟨M, T, rfl, rfl, hR⟩ := hrel
        have HL := Lib.hid hR.out.lt
        have HT := Lib.hid hR.out.bd
        have b1 : bits .and .u64 (M : Int) 1 = ((M % 2 : Nat) : Int) := by rw [and_one_u64 _ (by omega) (by have := HL.out; omega)]; omega
        have b2 : Hid (wrap64 (T - 1) = T - 1) := Lib.hid (by have := HT.out; simp only [wrap64]; omega)
        go_wp2
        · exact ⟨⟨M / 2, T - 1, by rw [show (M : Int) / 2 = ((M / 2 : Nat) : Int) by omega], by rw [b2.out], Lib.hid (hR.out.step (by omega) (by omega))⟩, by rw [b2.out]; simp only [intOf]; omega⟩
        · go_meet
          case rel => exact ⟨_, _, rfl, rfl, hR, .inr ‹_›, rfl⟩
        · go_meet
          case rel => exact ⟨_, _, rfl, rfl, hR, .inl (by omega), rfl⟩
    case rest =>
      rename_i w0
      obtain ⟨M, T, rfl, rfl, hR, hend, rfl⟩ := hcut
      obtain ⟨w0, rfl⟩ : ∃ w0, w0 = wc := ⟨_, rfl⟩
      have HL := Lib.hid hR.out.lt
      have lb := HR.out.lt
      go_upto_region 15 with fail
      go_cut [] from 41 to 44 (fun wx => ∃ va, Hid (Blk wx rb 292 #[.bool false, va, .bool false, .slice none 0 0]) ∧ Hid (AbsAt M w0 wx va) ∧ Hid (But (fun k => k = rb) w0 wx))
      case first =>
        have k0 := HR.out.cell 0
        have k1 := HR.out.cell 1
        have z0 := HR.out.frozen 0
        have z1 := HR.out.frozen 1
        simp at k0 k1
        by_cases hM : M = 0
        · subst hM
          have HU := Lib.hid (setU_zero w0 rb 0 _ k0 k1 z0 z1)
          clear k0 k1 z0 z1
          go_wp2_with fail
          refine HU.out.mono ?_
          rintro e w1 ⟨rfl, rfl⟩
          go_wp2_with fail
          go_meet
          case rel => exact ⟨_, Lib.hid ((HR.out.set 1 _).set 0 _), Lib.hid (.inl ⟨rfl, rfl⟩), Lib.hid (((But.refl (fun k => k = rb) w0).set (p := ⟨rb, 1, none⟩) rfl _).set (p := ⟨rb, 0, none⟩) rfl _)⟩
        · have HU := Lib.hid (setU_pos (M : Int) (by omega) (by omega) (by have := HL.out; omega) w0 rb 0 lb _ k0 k1 z0 z1)
          have hsz : ((w0.setCell ⟨rb, 1, none⟩ (.slice (some ⟨w0.heap.size, 0, none⟩) 1 1)).setCell ⟨rb, 0, none⟩ (.bool false)).heap.size = w0.heap.size := by simp [World.setCell]
          have HW := Blk.new ((w0.setCell ⟨rb, 1, none⟩ (.slice (some ⟨w0.heap.size, 0, none⟩) 1 1)).setCell ⟨rb, 0, none⟩ (.bool false)) 236 #[.int .u64 (M : Int)]
          rw [hsz] at HW
          have HW' := Lib.hid HW
          clear k0 k1 z0 z1 HW hsz
          go_wp2_with fail
          refine HU.out.mono ?_
          rintro e w1 ⟨rfl, rfl⟩
          go_wp2_with fail
          go_meet
          case rel => exact ⟨_, Lib.hid (((HR.out.set 1 _).set 0 _).alloc _), Lib.hid (.inr ⟨hM, w0.heap.size, rfl, HW'.out, Nat.le_refl _⟩), Lib.hid ((((But.refl (fun k => k = rb) w0).set (p := ⟨rb, 1, none⟩) rfl _).set (p := ⟨rb, 0, none⟩) rfl _).trans (But.of_below (below_al (Below.refl _ _) _)))⟩
      case rest =>
        obtain ⟨va, K1, A1, T1⟩ := hcut
        have hlt := flt_neg u hu hf
        have z0 := K1.out.frozen 0
        have y0 := K1.out.cell 0
        simp at y0
        have lb1 := K1.out.lt
        obtain ⟨W2, hW2⟩ : ∃ W2, W2 = wc.setCell ⟨rb, 0, none⟩ (.bool (fneg u)) := ⟨_, rfl⟩
        have K2 : Hid (Blk W2 rb 292 #[.bool (fneg u), va, .bool false, .slice none 0 0]) := Lib.hid (by rw [hW2]; exact K1.out.set 0 _)
        have hT2 : But (fun k => k = rb) wc W2 := by rw [hW2]; exact (But.refl (fun k => k = rb) wc).set (p := ⟨rb, 0, none⟩) rfl _
        have A2 := Lib.hid (A1.out.up hT2 lb)
        have T2 := Lib.hid (T1.out.trans hT2)
        obtain ⟨W3, hW3⟩ : ∃ W3, W3 = (W2.alloc (.cells #[.int .u64 1] 236)).alloc (.cells #[.bool false, .slice (some ⟨W2.heap.size, 0, none⟩) 1 1] 189) := ⟨_, rfl⟩
        have b3 : Below W2.heap.size W2 W3 := by rw [hW3]; exact below_al (below_al (Below.refl _ _) _) _
        have kA := (Blk.new W2 236 #[.int .u64 1]).alloc (.cells #[.bool false, .slice (some ⟨W2.heap.size, 0, none⟩) 1 1] 189)
        have kB := Blk.new (W2.alloc (.cells #[.int .u64 1] 236)) 189 #[.bool false, .slice (some ⟨W2.heap.size, 0, none⟩) 1 1]
        rw [show (W2.alloc (.cells #[.int .u64 1] 236)).heap.size = W2.heap.size + 1 by simp, ← hW3] at kB
        rw [← hW3] at kA
        have lb2 := K2.out.lt
        have K3 := K2.out.below b3 lb2
        have HSO := Lib.hid (setO_one W3.drew rb 2 (W2.heap.size + 1) 0 false false 1 _ _ K3.drew (by have h := K3.cell 2; simpa using h) (by have h := K3.cell 3; simpa using h) W2.heap.size 1 _ _ kB.drew (by omega) (by have h := kB.cell 0; simpa using h) (by have h := kB.cell 1; simpa using h) (by have h := kA.cell 0; simpa using h))
        have l3 := kB.lt
        have hs3 : ∀ v1, ((W3.drew.setCell ⟨rb, 3, none⟩ v1).setCell ⟨rb, 2, none⟩ (.bool false)).heap.size = W3.heap.size := fun v1 => by simp [World.setCell]
        have kN := Blk.new ((W3.drew.setCell ⟨rb, 3, none⟩ (.slice (some ⟨W3.heap.size, 0, none⟩) 1 1)).setCell ⟨rb, 2, none⟩ (.bool false)) 236 #[.int .u64 1]
        rw [hs3] at kN
        have HN := Lib.hid kN
        have HK3 := Lib.hid K3
        have HT3 := Lib.hid (T2.out.trans (But.of_below b3))
        have HA3 := Lib.hid (A2.out.up (But.of_below b3) lb)
        go_upto_region 17 with fail
        rw [← hW2]
        clear kA kB K3 hT2 hW2 z0 y0 hlt b3 kN hs3 K1 A1 T1 K2 A2 T2
        go_region_held3 (fun _ => True) (exact True.intro)
          (first
           | (go_at_call 168; (with_reducible refine (intOne_any _).mono ?_); rintro e w1 ⟨rfl, rfl⟩)
           | (go_at_call 114; rw [← hW3]; (with_reducible refine HSO.out.mono ?_); clear hW3; rintro e w4 ⟨rfl, ha⟩; have HA := Lib.hid ha; clear ha))
        obtain ⟨g1, hg1⟩ : ∃ g1, g1 = W3.heap.size := ⟨_, rfl⟩
        rw [← hg1] at HN
        have HA' := HA.out
        rw [show W3.drew.heap.size = g1 from hg1.symm] at HA'
        have K4 : Blk w4 rb 292 #[.bool (fneg u), va, .bool false, .slice (some ⟨g1, 0, none⟩) 1 1] := HA'.blk (((HK3.out.drew.set 3 _).set 2 _).alloc _)
        have N4 : WB w4 g1 [1] := HA'.blk HN.out
        have hT34 : But (fun k => k = rb) W3 w4 := But.undrew (((((But.refl (fun k => k = rb) W3.drew).set (p := ⟨rb, 3, none⟩) rfl _).set (p := ⟨rb, 2, none⟩) rfl _).trans (But.of_below (below_al (Below.refl _ _) _))).alk HA')
        have T4 := HT3.out.trans hT34
        have A4 := HA3.out.up hT34 lb
        have lg : w0.heap.size ≤ g1 := by rw [hg1]; exact HT3.out.size
        by_cases hT : 0 < T
        · have hM1 : M % 2 = 1 := by omega
          obtain ⟨n, rfl⟩ : ∃ n : Nat, T = (n : Int) := ⟨T.toNat, by omega⟩
          have HD := Lib.hid (flt_den (w4 := w4.drew) lb hR.out (by omega) hM1 K4.drew (Blk.drew N4) lg A4 (T4.drewN 1))
          have d1 : decide (0 < n) = true := decide_eq_true (by omega)
          have d2 : IntKind.u64.wrap (n : Int) = (n : Int) := by have := hR.out.bd; rw [IntKind.wrap_u64]; omega
          clear K4 N4 T4 A4 hT34 HA' HA HN HK3 HT3 HA3 HSO hT
          go_upto_region 19 with fail
          go_region_held3 (fun _ => True) (exact True.intro)
            ((go_at_call 169; (with_reducible refine HD.out.mono ?_); rintro e w5 ⟨rfl, hB⟩; have HB := Lib.hid hB; clear hB))
          have HE := Lib.hid (HB.out.norm lb)
          go_wp2_with fail
          refine HE.out.mono ?_
          rintro e w6 ⟨rfl, hO⟩
          have HO := Lib.hid hO
          clear hO
          go_wp2
          go_ret
          exact ⟨rfl, HO.out⟩
        · have d1 := dec_no hT
          obtain ⟨n, rfl⟩ : ∃ n : Nat, T = -(n : Int) := ⟨(-T).toNat, by omega⟩
          have d2 : IntKind.i64.wrap (n : Int) = (n : Int) := by have := hR.out.bd; rw [IntKind.wrap_i64]; omega
          have d3 : IntKind.u64.wrap (n : Int) = (n : Int) := by have := hR.out.bd; rw [IntKind.wrap_u64]; omega
          have HD : Hid (Calls Tryz.prog 169 #[.pointer (some ⟨rb, 0, none⟩), .pointer (some ⟨rb, 0, none⟩), .int .u64 n] w4.drew fun e w' => e = .returned (.pointer (some ⟨rb, 0, none⟩)) ∧ (FltB rb u w0 w' ∨ FltZ rb u w0 w')) := Lib.hid (by
            by_cases hM : M = 0
            · subst hM
              obtain ⟨hz, hc⟩ := flt_zero (w4 := w4.drew) lb hR.out (by omega) K4.drew (Blk.drew N4) lg A4 (T4.drewN 1)
              obtain rfl : n = 0 := by omega
              refine hc.mono ?_
              rintro e w' ⟨rfl, h⟩
              exact ⟨rfl, .inr h⟩
            · refine (flt_num (w4 := w4.drew) lb hR.out (by omega) rfl hM K4.drew (Blk.drew N4) lg A4 (T4.drewN 1)).mono ?_
              rintro e w' ⟨rfl, h⟩
              exact ⟨rfl, .inl h⟩)
          clear K4 N4 T4 A4 hT34 HA' HA HN HK3 HT3 HA3 HSO hT
          go_upto_region 20 with fail
          go_region_held3 (fun _ => True) (exact True.intro)
            ((go_at_call 169; (with_reducible refine HD.out.mono ?_); rintro e w5 ⟨rfl, hB⟩; have HB := Lib.hid hB; clear hB))
          have HE := Lib.hid (show Calls Tryz.prog 170 #[.pointer (some ⟨rb, 0, none⟩)] w5 fun e w' => e = .returned (.pointer (some ⟨rb, 0, none⟩)) ∧ FltOut rb u w0 w' from by rcases HB.out with h | h; exact h.norm lb; exact h.norm lb)
          go_wp2_with fail
          refine HE.out.mono ?_
          rintro e w6 ⟨rfl, hO⟩
          have HO := Lib.hid hO
          clear hO
          go_wp2
          go_ret
          exact ⟨rfl, HO.out⟩
end Go.Proofs.YtloloifngbmibaaGreatDoor
set_option linter.unusedVariables false
set_option linter.unusedSimpArgs false
set_option maxRecDepth 4000
namespace Go.Proofs.YtloloifngbmibaaGreatDoor
open Go.RowKit

theorem or4 (b0 b1 b2 b3 : Nat) (h0 : b0 < 256) (h1 : b1 < 256) (h2 : b2 < 256) (h3 : b3 < 256) :
    bits .or .u32 (bits .or .u32 (bits .or .u32 (b3 : Int) ((b2 : Int) * 256)) ((b1 : Int) * 65536)) ((b0 : Int) * 16777216) = ((((b0 * 256 + b1) * 256 + b2) * 256 + b3 : Nat) : Int) := by
  rw [u32_or8 (b3 : Int) ((b2 : Int) * 256) (by omega) (by omega) (by omega) (by omega) (by omega), u32_or16 _ ((b1 : Int) * 65536) (by omega) (by omega) (by omega) (by omega) (by omega), u32_or24 _ ((b0 : Int) * 16777216) (by omega) (by omega) (by omega) (by omega) (by omega)]
  omega
theorem or2 (a b : Nat) (ha : a < 4294967296) (hb : b < 4294967296) : bits .or .u64 ((a : Int) * 4294967296) (b : Int) = ((a * 4294967296 + b : Nat) : Int) := by
  have h := bits_or_u64_nat (a * 4294967296) b (by omega) (by omega)
  rw [show ((a * 4294967296 : Nat) : Int) = (a : Int) * 4294967296 by omega] at h
  rw [h]
  congr 1
  have h2 := Nat.two_pow_add_eq_or_of_lt (i := 32) (b := b) (by omega) a
  rw [show 2 ^ 32 * a = a * 4294967296 by omega] at h2
  omega

theorem be32_any (g o n c b0 b1 b2 b3 : Nat) (hn : 4 ≤ n) (h0 : b0 < 256) (h1 : b1 < 256) (h2 : b2 < 256) (h3 : b3 < 256) (w : World)
    (c0 : w.cell? ⟨g, o, none⟩ = some (.int .u8 b0)) (c1 : w.cell? ⟨g, o + 1, none⟩ = some (.int .u8 b1)) (c2 : w.cell? ⟨g, o + 2, none⟩ = some (.int .u8 b2)) (c3 : w.cell? ⟨g, o + 3, none⟩ = some (.int .u8 b3)) :
    Calls Tryz.prog 149 #[.slice (some ⟨g, o, none⟩) n c] w fun e w' => e = .returned (.int .u32 ((((b0 * 256 + b1) * 256 + b2) * 256 + b3 : Nat) : Int)) ∧ ∃ m, w' = w.drewN m := by
  have e0 : decide ((0 : Int) < (n : Int)) = true := dec_yes (by omega)
  have e1 : decide ((1 : Int) < (n : Int)) = true := dec_yes (by omega)
  have e2 : decide ((2 : Int) < (n : Int)) = true := dec_yes (by omega)
  have e3 : decide ((3 : Int) < (n : Int)) = true := dec_yes (by omega)
  have e0' : 0 < n := by omega
  have e1' : 1 < n := by omega
  have e2' : 2 < n := by omega
  have e3' : 3 < n := by omega
  go_enter Tryz.func149, Tryz.ntmps149
  go_wp2
  go_quiet (fail)
  go_wp2
  rw [or4 b0 b1 b2 b3 h0 h1 h2 h3]
  go_ret
  exact ⟨rfl, _, rfl⟩

/-- The word of eight bytes, the highest first. -/
def beW (b0 b1 b2 b3 b4 b5 b6 b7 : Nat) : Nat := ((((b0 * 256 + b1) * 256 + b2) * 256 + b3) * 4294967296) + (((b4 * 256 + b5) * 256 + b6) * 256 + b7)

theorem be64_any (g o n c b0 b1 b2 b3 b4 b5 b6 b7 : Nat) (hn : 8 ≤ n) (hc : n ≤ c) (h0 : b0 < 256) (h1 : b1 < 256) (h2 : b2 < 256) (h3 : b3 < 256) (h4 : b4 < 256) (h5 : b5 < 256) (h6 : b6 < 256) (h7 : b7 < 256) (w : World)
    (c0 : w.cell? ⟨g, o, none⟩ = some (.int .u8 b0)) (c1 : w.cell? ⟨g, o + 1, none⟩ = some (.int .u8 b1)) (c2 : w.cell? ⟨g, o + 2, none⟩ = some (.int .u8 b2)) (c3 : w.cell? ⟨g, o + 3, none⟩ = some (.int .u8 b3))
    (c4 : w.cell? ⟨g, o + 4, none⟩ = some (.int .u8 b4)) (c5 : w.cell? ⟨g, o + 5, none⟩ = some (.int .u8 b5)) (c6 : w.cell? ⟨g, o + 6, none⟩ = some (.int .u8 b6)) (c7 : w.cell? ⟨g, o + 7, none⟩ = some (.int .u8 b7)) :
    Calls Tryz.prog 148 #[.slice (some ⟨g, o, none⟩) n c] w fun e w' => e = .returned (.int .u64 ((beW b0 b1 b2 b3 b4 b5 b6 b7 : Nat) : Int)) ∧ Below w.heap.size w w' := by
  have HA : Hid (∀ W, Below w.heap.size w W → Calls Tryz.prog 149 #[.slice (some ⟨g, o, none⟩) n c] W fun e w' => e = .returned (.int .u32 ((((b0 * 256 + b1) * 256 + b2) * 256 + b3 : Nat) : Int)) ∧ Below W.heap.size W w') := Lib.hid fun W hW => (be32_any g o n c b0 b1 b2 b3 (by omega) h0 h1 h2 h3 W (cell_up hW c0) (cell_up hW c1) (cell_up hW c2) (cell_up hW c3)).mono (by rintro e w' ⟨rfl, m', rfl⟩; exact ⟨rfl, below_drewN' (Below.refl _ _) _⟩)
  have HB : Hid (∀ W, Below w.heap.size w W → Calls Tryz.prog 149 #[.slice (some ⟨g, o + 4, none⟩) (n - 4) (c - 4)] W fun e w' => e = .returned (.int .u32 ((((b4 * 256 + b5) * 256 + b6) * 256 + b7 : Nat) : Int)) ∧ Below W.heap.size W w') := Lib.hid fun W hW => (be32_any g (o + 4) (n - 4) (c - 4) b4 b5 b6 b7 (by omega) h4 h5 h6 h7 W (cell_up hW c4) (cell_up hW c5) (cell_up hW c6) (cell_up hW c7)).mono (by rintro e w' ⟨rfl, m', rfl⟩; exact ⟨rfl, below_drewN' (Below.refl _ _) _⟩)
  obtain ⟨p, hp⟩ : ∃ p, p = ((b0 * 256 + b1) * 256 + b2) * 256 + b3 := ⟨_, rfl⟩
  obtain ⟨q, hq⟩ : ∃ q, q = ((b4 * 256 + b5) * 256 + b6) * 256 + b7 := ⟨_, rfl⟩
  have hE : beW b0 b1 b2 b3 b4 b5 b6 b7 = p * 4294967296 + q := by rw [hp, hq]; rfl
  have hpb : p < 4294967296 := by omega
  have hqb : q < 4294967296 := by omega
  rw [hE, ← or2 p q hpb hqb]
  rw [← hp] at HA
  rw [← hq] at HB
  have e1 : (7 : Int) < (n : Int) := by omega
  have e2 : 7 < n := by omega
  have s1 : (4 : Int) ≤ (n : Int) := by omega
  have s2 : (n : Int) ≤ (c : Int) := by omega
  have s3 : ¬ c = 4 := by omega
  have s4 : 4 ≤ n := by omega
  have s5 : (4 : Int) ≤ (c : Int) := by omega
  have d2 : IntKind.u64.wrap (p : Int) = (p : Int) := wrapN (by omega)
  have d3 : IntKind.u64.wrap (q : Int) = (q : Int) := wrapN (by omega)
  have d4 : IntKind.u64.wrap ((p : Int) * 4294967296) = (p : Int) * 4294967296 := by rw [IntKind.wrap_u64]; omega
  clear c0 c1 c2 c3 c4 c5 c6 hp hq hE h0 h1 h2 h3 h4 h5 h6 h7 hpb hqb
  have hstep := Lib.hid (fun W W' (hb : Below W.heap.size W W') (h : Below w.heap.size w W) => below_up h hb)
  have HS : Hid (Below w.heap.size w w.drew) := Lib.hid (Below.refl _ _).drew
  go_enter Tryz.func148, Tryz.ntmps148
  go_wp2_with fail
  go_region_held3 (fun W => Below w.heap.size w W) (with_reducible first | exact HS.out | exact hstep.out _ _ ‹Below _ _ _› HS.out | exact hstep.out _ _ ‹Below _ _ _› (by assumption))
    (first | with_reducible (refine (HA.out _ (by assumption)).mono ?_; rintro e w' ⟨rfl, hb⟩) | with_reducible (refine (HB.out _ (by assumption)).mono ?_; rintro e w' ⟨rfl, hb⟩))
  go_wp2
  go_ret
  exact ⟨rfl, ‹Below w.heap.size w _›⟩

theorem beWord_any (g o n c b0 b1 b2 b3 b4 b5 b6 b7 : Nat) (hn : 8 ≤ n) (hc : n ≤ c) (h0 : b0 < 256) (h1 : b1 < 256) (h2 : b2 < 256) (h3 : b3 < 256) (h4 : b4 < 256) (h5 : b5 < 256) (h6 : b6 < 256) (h7 : b7 < 256) (w : World)
    (c0 : w.cell? ⟨g, o, none⟩ = some (.int .u8 b0)) (c1 : w.cell? ⟨g, o + 1, none⟩ = some (.int .u8 b1)) (c2 : w.cell? ⟨g, o + 2, none⟩ = some (.int .u8 b2)) (c3 : w.cell? ⟨g, o + 3, none⟩ = some (.int .u8 b3))
    (c4 : w.cell? ⟨g, o + 4, none⟩ = some (.int .u8 b4)) (c5 : w.cell? ⟨g, o + 5, none⟩ = some (.int .u8 b5)) (c6 : w.cell? ⟨g, o + 6, none⟩ = some (.int .u8 b6)) (c7 : w.cell? ⟨g, o + 7, none⟩ = some (.int .u8 b7)) :
    Calls Tryz.prog 138 #[.slice (some ⟨g, o, none⟩) n c] w fun e w' => e = .returned (.int .u64 ((beW b0 b1 b2 b3 b4 b5 b6 b7 : Nat) : Int)) ∧ Below w.heap.size w w' := by
  have HC := Lib.hid (be64_any g o n c b0 b1 b2 b3 b4 b5 b6 b7 hn hc h0 h1 h2 h3 h4 h5 h6 h7 w c0 c1 c2 c3 c4 c5 c6 c7)
  clear c0 c1 c2 c3 c4 c5 c6 c7 h0 h1 h2 h3 h4 h5 h6 h7 hn hc
  go_enter Tryz.func138, Tryz.ntmps138
  go_wp2_with fail
  refine HC.out.mono ?_
  rintro e w' ⟨rfl, hb⟩
  go_wp2
  go_ret
  exact ⟨rfl, hb⟩
end Go.Proofs.YtloloifngbmibaaGreatDoor
set_option linter.unusedVariables false
set_option maxRecDepth 4000
namespace Go.Proofs.YtloloifngbmibaaGreatDoor
open Go.RowKit

/-- Bytes. -/
def ByL (l : List Int) : Prop := ∀ x ∈ l, 0 ≤ x ∧ x < 256
theorem ByL.nil : ByL [] := fun x hx => by cases hx
theorem ByL.cons {x : Int} {xs : List Int} : ByL (x :: xs) ↔ (0 ≤ x ∧ x < 256) ∧ ByL xs := by
  constructor
  · intro h
    exact ⟨h x (by simp), fun y hy => h y (by simp [hy])⟩
  · rintro ⟨h1, h2⟩ y hy
    rcases List.mem_cons.1 hy with rfl | hy
    · exact h1
    · exact h2 y hy
theorem ByL.app {xs ys : List Int} (h : ByL xs) (h' : ByL ys) : ByL (xs ++ ys) := fun x hx => by
  rcases List.mem_append.1 hx with hx | hx
  · exact h x hx
  · exact h' x hx
theorem ByL.take {xs : List Int} (h : ByL xs) (n : Nat) : ByL (xs.take n) := fun x hx => h x (List.mem_of_mem_take hx)
theorem ByL.drop {xs : List Int} (h : ByL xs) (n : Nat) : ByL (xs.drop n) := fun x hx => h x (List.mem_of_mem_drop hx)
theorem ByL.at_ {xs : List Int} (h : ByL xs) (k : Nat) : 0 ≤ xs[k]?.getD 0 ∧ xs[k]?.getD 0 < 256 := by
  cases hk : xs[k]? with
  | none => simp
  | some x => simpa using h x (List.mem_of_getElem? hk)

/-- What bytes are worth. -/
def bv : List Int → Int
  | [] => 0
  | x :: xs => x * 256 ^ xs.length + bv xs
theorem bv_app : ∀ (xs ys : List Int), bv (xs ++ ys) = bv xs * 256 ^ ys.length + bv ys
  | [], ys => by simp [bv]
  | x :: xs, ys => by
    have ih := bv_app xs ys
    simp only [List.cons_append, bv, List.length_append, ih, Int.pow_add, Int.add_mul, Int.mul_assoc]
    omega
theorem bv_bd : ∀ {xs : List Int}, ByL xs → 0 ≤ bv xs ∧ bv xs < 256 ^ xs.length
  | [], _ => by simp [bv]
  | x :: xs, h => by
    have h1 := (ByL.cons.1 h).1
    have ih := bv_bd (ByL.cons.1 h).2
    have hp : (0 : Int) < 256 ^ xs.length := Int.pow_pos (by decide)
    have h2 : x * 256 ^ xs.length ≤ 255 * 256 ^ xs.length := Int.mul_le_mul_of_nonneg_right (by omega) (by omega)
    have h3 : 0 ≤ x * 256 ^ xs.length := Int.mul_nonneg h1.1 (by omega)
    simp only [bv, List.length_cons, Int.pow_succ]
    omega
theorem bv_cut (xs : List Int) (i : Nat) : bv xs = bv (xs.take i) * 256 ^ (xs.drop i).length + bv (xs.drop i) := by
  have h := bv_app (xs.take i) (xs.drop i)
  rwa [List.take_append_drop] at h
/-- A strip changes no worth. -/
theorem bv_zero : ∀ (n : Nat) (xs : List Int), bv (List.replicate n 0 ++ xs) = bv xs
  | 0, xs => by simp
  | n + 1, xs => by
    have := bv_zero n xs
    simp only [List.replicate_succ, List.cons_append, bv, Int.zero_mul, Int.zero_add, this]
theorem bv_strip : ∀ (xs : List Int), bv (strip xs) = bv xs
  | [] => rfl
  | x :: xs => by
    have ih := bv_strip xs
    unfold strip at ih ⊢
    simp only [lz]
    by_cases hx : x = 0
    · rw [if_pos hx, List.drop_succ_cons, ih, hx]
      simp [bv]
    · rw [if_neg hx, List.drop_zero]
theorem strip_nz : ∀ (xs : List Int), strip xs = [] ∨ ∃ y ys, strip xs = y :: ys ∧ ¬ y = 0
  | [] => .inl rfl
  | x :: xs => by
    have ih := strip_nz xs
    unfold strip at ih ⊢
    simp only [lz]
    by_cases hx : x = 0
    · rw [if_pos hx, List.drop_succ_cons]
      exact ih
    · rw [if_neg hx, List.drop_zero]
      exact .inr ⟨x, xs, rfl, hx⟩
theorem ByL.strip {xs : List Int} (h : ByL xs) : ByL (strip xs) := h.drop _
theorem strip_len (xs : List Int) : (strip xs).length ≤ xs.length := by
  unfold Go.Proofs.YtloloifngbmibaaGreatDoor.strip
  simp
/-- Without zeros ahead. -/
def Lead (xs : List Int) : Prop := xs = [] ∨ ∃ y ys, xs = y :: ys ∧ ¬ y = 0
theorem strip_lead (xs : List Int) : Lead (strip xs) := strip_nz xs
theorem lead_strip {xs : List Int} (h : Lead xs) : strip xs = xs := by
  rcases h with rfl | ⟨y, ys, rfl, hy⟩
  · rfl
  · unfold strip
    simp [lz, hy]
theorem bv_pos {xs : List Int} (hb : ByL xs) (h : Lead xs) (hne : xs ≠ []) : 256 ^ (xs.length - 1) ≤ bv xs := by
  rcases h with rfl | ⟨y, ys, rfl, hy⟩
  · exact absurd rfl hne
  · have h1 := (ByL.cons.1 hb).1
    have h2 := bv_bd (ByL.cons.1 hb).2
    have hp : (0 : Int) < 256 ^ ys.length := Int.pow_pos (by decide)
    have h3 : 1 * 256 ^ ys.length ≤ y * 256 ^ ys.length := Int.mul_le_mul_of_nonneg_right (by omega) (by omega)
    simp only [bv, List.length_cons, Nat.add_sub_cancel]
    omega
/-- One form for each worth. -/
theorem bv_inj : ∀ {xs ys : List Int}, xs.length = ys.length → ByL xs → ByL ys → bv xs = bv ys → xs = ys
  | [], [], _, _, _, _ => rfl
  | x :: xs, y :: ys, hl, hx, hy, h => by
    have hl' : xs.length = ys.length := by simpa using hl
    have h1 := bv_bd (ByL.cons.1 hx).2
    have h2 := bv_bd (ByL.cons.1 hy).2
    have hp : (0 : Int) < 256 ^ xs.length := Int.pow_pos (by decide)
    simp only [bv, ← hl'] at h
    rw [← hl'] at h2
    have hxy : x = y := by
      rcases Int.lt_trichotomy x y with hlt | he | hlt
      · have := Int.mul_le_mul_of_nonneg_right (show x + 1 ≤ y by omega) (show (0 : Int) ≤ 256 ^ xs.length by omega)
        rw [Int.add_mul] at this
        omega
      · exact he
      · have := Int.mul_le_mul_of_nonneg_right (show y + 1 ≤ x by omega) (show (0 : Int) ≤ 256 ^ xs.length by omega)
        rw [Int.add_mul] at this
        omega
    subst hxy
    rw [bv_inj hl' (ByL.cons.1 hx).2 (ByL.cons.1 hy).2 (by omega)]
  | [], _ :: _, hl, _, _, _ => by simp at hl
  | _ :: _, [], hl, _, _, _ => by simp at hl
theorem lead_inj {xs ys : List Int} (hx : ByL xs) (hy : ByL ys) (lx : Lead xs) (ly : Lead ys) (h : bv xs = bv ys) : xs = ys := by
  refine bv_inj ?_ hx hy h
  have key : ∀ {us bs : List Int}, ByL us → ByL bs → Lead bs → bv us = bv bs → us.length < bs.length → False := by
    intro us bs ha hb lb he hlt
    have h1 := (bv_bd ha).2
    have h2 := bv_pos hb lb (by rintro rfl; simp at hlt)
    have h3 : (256 : Int) ^ us.length ≤ 256 ^ (bs.length - 1) := by
      have e : bs.length - 1 = us.length + (bs.length - 1 - us.length) := by omega
      rw [e, Int.pow_add]
      have hp : (0 : Int) < 256 ^ us.length := Int.pow_pos (by decide)
      have hq : (0 : Int) < 256 ^ (bs.length - 1 - us.length) := Int.pow_pos (by decide)
      have := Int.mul_le_mul_of_nonneg_left (show (1 : Int) ≤ 256 ^ (bs.length - 1 - us.length) by omega) (show (0 : Int) ≤ 256 ^ us.length by omega)
      omega
    omega
  rcases Nat.lt_trichotomy xs.length ys.length with h1 | h1 | h1
  · exact (key hx hy ly h h1).elim
  · exact h1
  · exact (key hy hx lx h.symm h1).elim

theorem be8_by (x : Int) : ByL (be8 x) := fun y hy => by
  simp only [be8, List.mem_cons, List.not_mem_nil, or_false] at hy
  rcases hy with rfl | rfl | rfl | rfl | rfl | rfl | rfl | rfl <;> omega
theorem bv_be8 (x : Int) (h0 : 0 ≤ x) (h1 : x < 18446744073709551616) : bv (be8 x) = x := by
  simp only [be8, bv, List.length_cons, List.length_nil]
  omega
theorem beB_by : ∀ (xs : List Int), ByL (beB xs)
  | [] => ByL.nil
  | x :: xs => (beB_by xs).app (be8_by x)
theorem bv_beB : ∀ {xs : List Int}, WL xs → bv (beB xs) = nv xs
  | [], _ => rfl
  | x :: xs, h => by
    have h1 := (WL.cons.1 h).1
    simp only [beB, bv_app, bv_be8 x h1.1 h1.2, bv_beB (WL.cons.1 h).2, nv, be8_len]
    omega
end Go.Proofs.YtloloifngbmibaaGreatDoor
set_option linter.unusedVariables false
set_option linter.unusedSimpArgs false
set_option maxRecDepth 4000
namespace Go.Proofs.YtloloifngbmibaaGreatDoor
open Go.RowKit

theorem pow256 (k : Nat) : (256 : Int) ^ (8 * k) = 18446744073709551616 ^ k := by
  rw [Int.pow_mul]
  rfl
/-- A word more. -/
theorem word_up {l ws : List Int} {i k : Nat} (hk : ws.length = k) (hi : 8 * k + i = l.length) (h8 : 8 ≤ i) (h : nv ws = bv (l.drop i)) : nv (ws ++ [bv ((l.drop (i - 8)).take 8)]) = bv (l.drop (i - 8)) := by
  rw [nv_snoc, bv_cut (l.drop (i - 8)) 8, List.drop_drop, show i - 8 + 8 = i by omega, h, hk, List.length_drop, show l.length - i = 8 * k by omega, pow256, Int.mul_comm, Int.add_comm]
theorem word_last {l ws : List Int} {i k : Nat} (hk : ws.length = k) (hi : 8 * k + i = l.length) (h : nv ws = bv (l.drop i)) : nv (ws ++ [bv (l.take i)]) = bv l := by
  rw [nv_snoc, bv_cut l i, h, hk, List.length_drop, show l.length - i = 8 * k by omega, pow256, Int.mul_comm, Int.add_comm]
theorem word_bd {l : List Int} (h : ByL l) (hl : l.length ≤ 8) : 0 ≤ bv l ∧ bv l < 18446744073709551616 := by
  have h1 := bv_bd h
  have : (256 : Int) ^ l.length ≤ 256 ^ 8 := by
    obtain ⟨k, hk⟩ := Nat.exists_eq_add_of_le hl
    rw [hk, Int.pow_add]
    have hp : (0 : Int) < 256 ^ l.length := Int.pow_pos (by decide)
    have hq : (0 : Int) < 256 ^ k := Int.pow_pos (by decide)
    have := Int.mul_le_mul_of_nonneg_left (show (1 : Int) ≤ 256 ^ k by omega) (show (0 : Int) ≤ 256 ^ l.length by omega)
    omega
  have e : (256 : Int) ^ 8 = 18446744073709551616 := rfl
  omega
/-- Eight bytes are a word. -/
theorem bv_eight {l : List Int} {i : Nat} (hl : ByL l) (hi : i + 8 ≤ l.length) : ∃ b0 b1 b2 b3 b4 b5 b6 b7 : Nat, (b0 < 256 ∧ b1 < 256 ∧ b2 < 256 ∧ b3 < 256 ∧ b4 < 256 ∧ b5 < 256 ∧ b6 < 256 ∧ b7 < 256) ∧
    (l[i]?.getD 0 = b0 ∧ l[i + 1]?.getD 0 = b1 ∧ l[i + 2]?.getD 0 = b2 ∧ l[i + 3]?.getD 0 = b3 ∧ l[i + 4]?.getD 0 = b4 ∧ l[i + 5]?.getD 0 = b5 ∧ l[i + 6]?.getD 0 = b6 ∧ l[i + 7]?.getD 0 = b7) ∧
    bv ((l.drop i).take 8) = (beW b0 b1 b2 b3 b4 b5 b6 b7 : Nat) := by
  have g : ∀ j, ∃ b : Nat, l[i + j]?.getD 0 = b ∧ b < 256 := fun j => by
    have h1 := hl.at_ (i + j)
    obtain ⟨b, hb⟩ := Int.eq_ofNat_of_zero_le h1.1
    exact ⟨b, hb, by omega⟩
  obtain ⟨b0, e0, h0⟩ := g 0
  obtain ⟨b1, e1, h1⟩ := g 1
  obtain ⟨b2, e2, h2⟩ := g 2
  obtain ⟨b3, e3, h3⟩ := g 3
  obtain ⟨b4, e4, h4⟩ := g 4
  obtain ⟨b5, e5, h5⟩ := g 5
  obtain ⟨b6, e6, h6⟩ := g 6
  obtain ⟨b7, e7, h7⟩ := g 7
  refine ⟨b0, b1, b2, b3, b4, b5, b6, b7, ⟨h0, h1, h2, h3, h4, h5, h6, h7⟩, ⟨e0, e1, e2, e3, e4, e5, e6, e7⟩, ?_⟩
  have e : (l.drop i).take 8 = [(b0 : Int), b1, b2, b3, b4, b5, b6, b7] := by
    apply List.ext_getElem?
    intro j
    rw [List.getElem?_take]
    by_cases hj : j < 8
    · rw [if_pos hj, List.getElem?_drop]
      have hlt : i + j < l.length := by omega
      have hd : l[i + j]? = some (l[i + j]?.getD 0) := by simp [hlt]
      rw [hd]
      have : j = 0 ∨ j = 1 ∨ j = 2 ∨ j = 3 ∨ j = 4 ∨ j = 5 ∨ j = 6 ∨ j = 7 := by omega
      rcases this with rfl | rfl | rfl | rfl | rfl | rfl | rfl | rfl
      · rw [e0]; rfl
      · rw [e1]; rfl
      · rw [e2]; rfl
      · rw [e3]; rfl
      · rw [e4]; rfl
      · rw [e5]; rfl
      · rw [e6]; rfl
      · rw [e7]; rfl
    · rw [if_neg hj, List.getElem?_eq_none (by simp; omega)]
  rw [e]
  simp only [bv, beW, List.length_cons, List.length_nil]
  omega
/-- A byte more. -/
theorem byte_up {l : List Int} {i j : Nat} (hi : j + 1 ≤ i) (hl : i ≤ l.length) : bv ((l.take i).drop j) = (l[j]?.getD 0) * 256 ^ (i - (j + 1)) + bv ((l.take i).drop (j + 1)) := by
  have hlt : j < (l.take i).length := by rw [List.length_take]; omega
  rw [List.drop_eq_getElem_cons hlt]
  simp only [bv, List.length_drop, List.length_take]
  rw [Nat.min_eq_left hl]
  congr 2
  have : j < l.length := by omega
  simp [this]
theorem or_sh (d b s : Nat) (hd : d < 2 ^ s) (hs : s ≤ 56) (hb : b < 256) : bits .or .u64 (d : Int) ((b * 2 ^ s : Nat) : Int) = ((d + b * 2 ^ s : Nat) : Int) := by
  have h56 : 2 ^ s ≤ 2 ^ 56 := Nat.pow_le_pow_right (by decide) hs
  have h1 : b * 2 ^ s ≤ 255 * 2 ^ 56 := Nat.mul_le_mul (by omega) h56
  rw [bits_or_u64_nat d (b * 2 ^ s) (by omega) (by omega)]
  congr 1
  have h2 := Nat.two_pow_add_eq_or_of_lt (i := s) (b := d) hd b
  rw [Nat.or_comm, Nat.mul_comm b, ← h2, Nat.add_comm]
end Go.Proofs.YtloloifngbmibaaGreatDoor
