/- Walk of lsh of one word. Walk of Int.Lsh of one word, in place. Walk of Rat.norm, where numerator and denominator have no common divisor and one of them is one word. Walks of Lsh by nothing, of setWord in place, of norm for zero. -/
import Derived.Test.YtloloifngbmibaaGreatDoorM09
import Derived.BigFrame
set_option linter.unusedVariables false
set_option linter.unusedSimpArgs false
set_option maxRecDepth 4000
namespace Go.Proofs.YtloloifngbmibaaGreatDoor
open Go.RowKit

theorem shl_split (x r : Nat) (hx : x < 18446744073709551616) (hr : r < 64) : x * 2 ^ r % 18446744073709551616 + 18446744073709551616 * (x / 2 ^ (64 - r)) = x * 2 ^ r := by
  have eB : 2 ^ (64 - r) * 2 ^ r = 18446744073709551616 := by rw [← Nat.pow_add, show 64 - r + r = 64 by omega]
  have eD : x * 2 ^ r / 18446744073709551616 = x / 2 ^ (64 - r) := by rw [← eB, Nat.mul_div_mul_right _ _ (Nat.two_pow_pos r)]
  rw [← eD]
  omega
theorem clear_none (A : Option Addr) (c : Nat) (ty : TypeId) (w : World) : (Builtin.clear_ #[187] ty #[.slice A 0 c]).run Tryz.prog w = .ok (.tuple #[]) w := by
  cases A <;> simp [Builtin.clear_, run_underlying Tryz.underlying187]

theorem lsh_val (x s : Nat) (hx : x < 18446744073709551616) : ((x * 2 ^ (s % 64) % 18446744073709551616 : Nat) : Int) + 18446744073709551616 * ((x / 2 ^ (64 - s % 64) : Nat) : Int) = (x : Int) * 2 ^ (s % 64) := by
  have h := shl_split x (s % 64) hx (by omega)
  have e : (x : Int) * 2 ^ (s % 64) = ((x * 2 ^ (s % 64) : Nat) : Int) := by simp
  rw [e, ← h]
  simp only [Int.natCast_add, Int.natCast_mul]
  omega
theorem nv_rep (q : Nat) (lo hi : Int) : nv (List.replicate q 0 ++ [lo, hi]) = 18446744073709551616 ^ q * (lo + 18446744073709551616 * hi) := by
  rw [nv_app, nv_zeros, List.length_replicate]
  simp [nv]
theorem pow64 (x q r : Nat) : (18446744073709551616 : Int) ^ q * ((x : Int) * 2 ^ r) = (x : Int) * 2 ^ (64 * q + r) := by
  rw [Int.pow_add, Int.pow_mul, show (2 : Int) ^ 64 = 18446744073709551616 from rfl, Int.mul_left_comm]
/-- What lsh's block holds at the end. -/
theorem lsh_end (w W5 : World) (q : Nat) (lo hi : Int) (hl : 0 ≤ lo ∧ lo < 18446744073709551616) (hh : 0 ≤ hi ∧ hi < 18446744073709551616) (V : Int) (hv : 18446744073709551616 ^ q * (lo + 18446744073709551616 * hi) = V) (o : Obj) (hwb : WB W5 w.heap.size (List.replicate q 0 ++ [lo, hi] ++ List.replicate 4 0)) (hg : (w.alloc o).grownBy W5 (some w.heap.size)) (hq : q ≤ 100) :
    Calls Tryz.prog 139 #[.slice (some ⟨w.heap.size, 0, none⟩) (q + 2) (q + 2 + 4)] W5 fun e w' => ∃ v ps, e = .returned v ∧ Hid (NewN w v ps w') ∧ Hid (nv ps = V) := by
  have hlen : (List.replicate q (0 : Int) ++ [lo, hi]).length = q + 2 := by simp
  have h := norm_any (fun k => k = w.heap.size) (some ⟨w.heap.size, 0, none⟩) (q + 2 + 4) (List.replicate q 0 ++ [lo, hi]) (by omega) (by omega) W5 (hwb.rd (zs := List.replicate 4 0) (by simp))
  rw [hlen] at h
  refine h.mono ?_
  rintro e w' ⟨rfl, rfl⟩
  refine ⟨_, nrm (List.replicate q 0 ++ [lo, hi]), rfl, Lib.hid (NewN.of hwb hg (by omega) ((WL.zeros q).app (WL.cons.2 ⟨hl, WL.one hh.1 hh.2⟩))), Lib.hid ?_⟩
  rw [nv_nrm, nv_rep]
  exact hv

/-- lsh of one word by s > 0. -/
theorem lsh_one (Az : Option Addr) (mz cz xb xo cx x s : Nat) (hcz : cz ≤ 1) (hx : x < 18446744073709551616) (hs0 : 0 < s) (hs1 : s ≤ 4000) (w : World) (hc : w.cell? ⟨xb, xo, none⟩ = some (.int .u64 x)) :
    Calls Tryz.prog 180 #[.slice Az mz cz, .slice (some ⟨xb, xo, none⟩) 1 cx, .int .u64 s] w fun e w' => ∃ v ps, e = .returned v ∧ NewN w v ps w' ∧ nv ps = (x : Int) * 2 ^ s := by
  have e1 : ((s : Int) == 0) = false := beq_no (by omega)
  obtain ⟨q, hq⟩ : ∃ q, q = s / 64 := ⟨_, rfl⟩
  obtain ⟨r, hr⟩ : ∃ r, r = s % 64 := ⟨_, rfl⟩
  have f1 : (s : Int) / 64 = (q : Int) := by omega
  have f2 : (s : Int) % 64 = (r : Int) := by omega
  have f3 : IntKind.u64.wrap (q : Int) = (q : Int) := wrapN (by omega)
  have f4 : IntKind.u64.wrap (r : Int) = (r : Int) := wrapN (by omega)
  have HMK := Lib.hid (make_over Az mz cz (q + 2) (by omega) (by omega) (by omega) w)
  have em : ((q + 2 : Nat) : Int) = 1 + (q : Int) + 1 := by omega
  rw [em] at HMK
  have hqb : q ≤ 100 := by omega
  have hrb : r < 64 := by omega
  have HQ := Lib.hid hq
  have HR := Lib.hid hr
  have hq' := HQ.out
  have hr' := HR.out
  clear em hq hr
  have HQ' := Lib.hid hq'
  have HR' := Lib.hid hr'
  clear hq' hr'
  go_enter Tryz.func180, Tryz.ntmps180
  go_wp2_with fail
  refine HMK.out.mono ?_
  rintro e w1 ⟨rfl, rfl⟩
  have hwm := WB.made w (q + 2 + 4)
  have hlt := World.block_lt_of_cell? w _ hc
  have hc1 := (World.cell?_alloc_lt w (.cells (madeCells #[.int .u64 0] (q + 2 + 4)) 236) ⟨xb, xo, none⟩ hlt).trans hc
  have hg0 := World.grownBy.refl (w.alloc (.cells (madeCells #[.int .u64 0] (q + 2 + 4)) 236)) (some w.heap.size)
  have hgl := hwm.lt
  rw [show List.replicate (q + 2 + 4) (0 : Int) = List.replicate q 0 ++ 0 :: (0 :: List.replicate 4 0) by rw [show q + 2 + 4 = q + (1 + (1 + 4)) by omega, ← List.replicate_append_replicate]; rfl] at hwm
  generalize hW1 : w.alloc (.cells (madeCells #[.int .u64 0] (q + 2 + 4)) 236) = W1 at hwm hc1 hg0 hgl ⊢
  have HW1 := Lib.hid hW1
  clear hW1
  have HGG : Hid (∀ W5 : World, W1.grownBy W5 (some w.heap.size) → (w.alloc (.cells (madeCells #[.int .u64 0] (q + 2 + 4)) 236)).grownBy W5 (some w.heap.size)) := Lib.hid fun W5 h => by rw [HW1.out]; exact h
  have b1 : (1 : Int) + (q : Int) - 1 = (q : Int) := by omega
  by_cases hr0 : r = 0
  · subst hr0
    have hq' := HQ'.out
    have hr' := HR'.out
    have hqp : 0 < q := by omega
    have hv : 18446744073709551616 ^ q * ((x : Int) + 18446744073709551616 * 0) = (x : Int) * 2 ^ s := by
      have h := pow64 x q 0
      rw [show 64 * q + 0 = s by omega] at h
      simpa using h
    obtain ⟨row, hrow⟩ : ∃ row : Array Value, row = ((ints .u64 (List.replicate q (0 : Int) ++ 0 :: (0 :: List.replicate 4 0))).toArray.toList.take q ++ (ints .u64 [(x : Int)] ++ (ints .u64 (List.replicate q (0 : Int) ++ 0 :: (0 :: List.replicate 4 0))).toArray.toList.drop (q + (ints .u64 [(x : Int)]).length))).toArray := ⟨_, rfl⟩
    have hrow2 : row = (ints .u64 (List.replicate q 0 ++ [(x : Int)] ++ (0 :: List.replicate 4 0))).toArray := by
      rw [hrow]
      congr 1
      have h1 : (List.replicate q (0 : Int) ++ 0 :: 0 :: List.replicate 4 0).take q = List.replicate q 0 := by rw [List.take_left' (by simp)]
      have h2 : (List.replicate q (0 : Int) ++ 0 :: 0 :: List.replicate 4 0).drop (q + 1) = 0 :: List.replicate 4 0 := by
        rw [show q + 1 = (List.replicate q (0 : Int)).length + 1 by simp, List.drop_length_add_append]
        rfl
      rw [show (ints .u64 [(x : Int)]).length = 1 from rfl]
      show (List.map _ _).take q ++ (_ ++ (List.map _ _).drop (q + 1)) = _
      rw [← List.map_take, ← List.map_drop, h1, h2]
      simp [ints]
    have hw2 : WB (W1.setRow w.heap.size row) w.heap.size (List.replicate q 0 ++ [(x : Int)] ++ (0 :: List.replicate 4 0)) := by
      have h := hwm
      unfold WB Blk at h ⊢
      rw [← hrow2]
      simp [World.setRow, Array.getElem?_modify, h]
    have hg2 : W1.grownBy (W1.setRow w.heap.size row) (some w.heap.size) := ⟨rfl, rfl, rfl, by simp [World.setRow], fun k hk hne => setRow_other W1 w.heap.size k row (fun e => hne (by rw [e]))⟩
    have cz2 := hw2.cell (i := 1 + q) (by simp; omega)
    have fz2 := Blk.frozen hw2 (1 + q)
    obtain ⟨u2, hu2⟩ : ∃ u, u = (List.replicate q (0 : Int) ++ [(x : Int)] ++ 0 :: List.replicate 4 0)[1 + q]?.getD 0 := ⟨_, rfl⟩
    rw [← hu2] at cz2
    have hw3 := hw2.set (1 + q) 0
    have e4 := set_mid (List.replicate q 0) [(x : Int)] (List.replicate 4 0) 0 0 (1 + q) (by simp; omega)
    rw [e4] at hw3
    have hg3 := only_set hg2 (1 + q) (.int .u64 0)
    have hgl2 := hw2.lt
    have hcl := fun ty => clear_words (n := q) (c := q + 2 + 4) hw3 hqp (by simp) ty
    have hw5 := WB.setCells (pre := []) (mid := List.replicate q 0) (post := [(x : Int), 0] ++ List.replicate 4 0) (List.replicate q 0) 0 (by simpa using hw3) rfl (by simp)
    have hg5 := grown_setCells (ints .u64 (List.replicate q 0)) 0 hg3
    have HN := Lib.hid (lsh_end w _ q (x : Int) 0 ⟨by omega, by omega⟩ ⟨by omega, by omega⟩ _ hv _ (by simpa using hw5) (HGG.out _ hg5) hqb)
    have HWM := Lib.hid hwm
    have HROW := Lib.hid hrow
    have HSRC : Hid (∀ j v, (ints .u64 [(x : Int)])[j]? = some v → W1.cell? ((⟨xb, xo, none⟩ : Addr).add j) = some v) := Lib.hid fun j v hj => by
      have : j = 0 := by
        have := (List.getElem?_eq_some_iff.1 hj).1
        simp [ints] at this
        exact this
      subst this
      simp [ints] at hj
      rw [← hj]
      exact hc1
    have k1 : (0 : Int) ≤ 1 + (q : Int) := by omega
    have k2 : ((1 : Int) + (q : Int)).toNat = 1 + q := by omega
    have k3 : (1 : Int) + (q : Int) ≤ (q : Int) + 2 + 4 := by omega
    have k4 : ¬ q + 2 + 4 = q := by omega
    have k5 : (1 : Int) + (q : Int) < (q : Int) + 2 := by omega
    have k6 : 1 + q < q + 2 := by omega
    have k7 : 1 + q ≤ q + 2 + 4 := by omega
    have k8 : 1 + q - q = 1 := by omega
    have HQP := Lib.hid hqp
    clear hw2 hw3 hg0 hg2 hg3 hg5 hw5 hu2 hv e4 hwm hx hq' hr' hrow hrow2 hqp
    go_wp2_with (first | (refine wpList_copy_own rfl _ _ 187 187 rfl 236 Tryz.underlying187 size_word w.heap.size q 1 (q + 2 + 4 - q) ⟨xb, xo, none⟩ 1 cx rfl rfl (ints .u64 (List.replicate q (0 : Int) ++ 0 :: (0 :: List.replicate 4 0))).toArray 236 HWM.out (ints .u64 [(x : Int)]) rfl HSRC.out (by simp [ints]) (ints_one _ _) ?_; rw [← HROW.out]) | (simp only [hcl]))
    refine HN.out.mono ?_
    rintro e w' ⟨v, ps, rfl, h1, h2⟩
    obtain ⟨Av, cv, rfl, hh⟩ := id h1.out.1
    clear hh hcl
    go_wp2
    go_ret
    exact ⟨_, ps, rfl, h1.out, h2.out⟩
  · have hq' := HQ'.out
    have hr' := HR'.out
    have e2 : ((r : Int) == 0) = false := beq_no (by omega)
    have cz := hwm.cell (i := q) (by simp)
    have fz := Blk.frozen hwm q
    have ez : (List.replicate q (0 : Int) ++ 0 :: (0 :: List.replicate 4 0))[q]?.getD 0 = 0 := by
      rw [List.getElem?_append_right (by simp)]
      simp
    rw [ez] at cz
    have HL := Lib.hid (lsh1VU_top w.heap.size q (q + 2 + 4 - q) xb xo cx x r (by omega) hrb hx W1 _ hc1 cz fz hgl)
    have hw2 := hwm.set q ((x * 2 ^ r % 18446744073709551616 : Nat) : Int)
    have e3 := set_mid (List.replicate q 0) [] (0 :: List.replicate 4 0) 0 ((x * 2 ^ r % 18446744073709551616 : Nat) : Int) q (by simp)
    simp only [List.append_nil, List.nil_append] at e3
    rw [e3] at hw2
    have hval := lsh_val x s hx
    rw [← hr'] at hval
    obtain ⟨lo, hlo⟩ : ∃ lo, lo = x * 2 ^ r % 18446744073709551616 := ⟨_, rfl⟩
    obtain ⟨hi, hhi⟩ : ∃ hi, hi = x / 2 ^ (64 - r) := ⟨_, rfl⟩
    have hlb : lo < 18446744073709551616 := by rw [hlo]; exact Nat.mod_lt _ (by decide)
    have hhb : hi < 18446744073709551616 := by rw [hhi]; exact Nat.lt_of_le_of_lt (Nat.div_le_self _ _) hx
    rw [← hlo, ← hhi] at HL hval
    rw [← hlo] at hw2
    have hv : 18446744073709551616 ^ q * ((lo : Int) + 18446744073709551616 * (hi : Int)) = (x : Int) * 2 ^ s := by
      rw [hval, pow64, show 64 * q + r = s by rw [hq', hr']; omega]
    have cz2 := hw2.cell (i := 1 + q) (by simp; omega)
    have fz2 := Blk.frozen hw2 (1 + q)
    obtain ⟨u2, hu2⟩ : ∃ u, u = (List.replicate q (0 : Int) ++ [(lo : Int)] ++ 0 :: List.replicate 4 0)[1 + q]?.getD 0 := ⟨_, rfl⟩
    rw [← hu2] at cz2
    have hg2 := only_set hg0 q (.int .u64 (lo : Int))
    have hw3 := hw2.set (1 + q) (hi : Int)
    have e4 := set_mid (List.replicate q 0) [(lo : Int)] (List.replicate 4 0) 0 (hi : Int) (1 + q) (by simp; omega)
    rw [e4] at hw3
    have hg3 := only_set hg2 (1 + q) (.int .u64 (hi : Int))
    have hgl2 := hw2.lt
    have HW3 := Lib.hid hw3
    have HG3 := Lib.hid hg3
    have HLB := Lib.hid (show lo < 18446744073709551616 ∧ hi < 18446744073709551616 from ⟨hlb, hhb⟩)
    have HV := Lib.hid hv
    have k1 : (0 : Int) ≤ 1 + (q : Int) := by omega
    have k2 : ((1 : Int) + (q : Int)).toNat = 1 + q := by omega
    have k3 : (1 : Int) + (q : Int) ≤ (q : Int) + 2 + 4 := by omega
    have k4 : ¬ q + 2 + 4 = q := by omega
    have k5 : (1 : Int) + (q : Int) < (q : Int) + 2 := by omega
    have k6 : 1 + q < q + 2 := by omega
    have k7 : 1 + q ≤ q + 2 + 4 := by omega
    have k8 : 1 + q - q = 1 := by omega
    clear hw2 hw3 hg0 hg2 hg3 hu2 hlo hhi hlb hhb hv hval e3 e4 ez hwm cz fz hx hq' hr'
    go_wp2_with fail
    refine HL.out.mono ?_
    rintro e w' ⟨rfl, rfl⟩
    obtain ⟨wgs, hwgs⟩ : ∃ g, w.heap.size = g := ⟨_, rfl⟩
    by_cases hq0 : q = 0
    · have hcl := fun ty w => clear_none (some ⟨wgs, 0, none⟩) (q + 2 + 4) ty w
      rw [← hwgs] at hcl
      have HN := Lib.hid (lsh_end w _ q (lo : Int) (hi : Int) ⟨by omega, by have := HLB.out; omega⟩ ⟨by omega, by have := HLB.out; omega⟩ _ HV.out _ HW3.out (HGG.out _ HG3.out) hqb)
      subst hq0
      clear hwgs
      go_wp2_with (simp only [hcl])
      refine HN.out.mono ?_
      rintro e w' ⟨v, ps, rfl, h1, h2⟩
      obtain ⟨Av, cv, rfl, hh⟩ := id h1.out.1
      clear hh hcl
      go_wp2
      go_ret
      exact ⟨_, ps, rfl, h1.out, h2.out⟩
    · have hcl := fun ty => clear_words (n := q) (c := q + 2 + 4) HW3.out (by omega) (by simp) ty
      have hw5 := WB.setCells (pre := []) (mid := List.replicate q 0) (post := [(lo : Int), (hi : Int)] ++ List.replicate 4 0) (List.replicate q 0) 0 (by simpa using HW3.out) rfl (by simp)
      have hg5 := grown_setCells (ints .u64 (List.replicate q 0)) 0 HG3.out
      have HN := Lib.hid (lsh_end w _ q (lo : Int) (hi : Int) ⟨by omega, by have := HLB.out; omega⟩ ⟨by omega, by have := HLB.out; omega⟩ _ HV.out _ (by simpa using hw5) (HGG.out _ hg5) hqb)
      clear hw5 hg5 hwgs
      go_wp2_with (simp only [hcl])
      refine HN.out.mono ?_
      rintro e w' ⟨v, ps, rfl, h1, h2⟩
      obtain ⟨Av, cv, rfl, hh⟩ := id h1.out.1
      clear hh hcl
      go_wp2
      go_ret
      exact ⟨_, ps, rfl, h1.out, h2.out⟩
end Go.Proofs.YtloloifngbmibaaGreatDoor
set_option linter.unusedVariables false
set_option linter.unusedSimpArgs false
set_option maxRecDepth 4000
namespace Go.Proofs.YtloloifngbmibaaGreatDoor
open Go.RowKit

/-- What Lsh leaves in a part of a block. -/
def LshOut (b o : Nat) (t : TypeId) (cs : Array Value) (neg : Bool) (P : Int) (w w' : World) : Prop :=
  ∃ v ps, Blk w' b t ((cs.setIfInBounds (o + 1) v).setIfInBounds o (.bool neg)) ∧ SlV w' (fun k => Nw w w' k ∧ k ≠ b) .u64 v ps ∧ WL ps ∧ Nrm ps ∧ nv ps = P ∧ But (fun k => k = b) w w'

set_option maxHeartbeats 1000000 in
theorem intLsh_one (b o xb x s : Nat) (neg : Bool) (t : TypeId) (cs : Array Value) (hx : x < 18446744073709551616) (hs0 : 0 < s) (hs1 : s ≤ 4000) (w : World) (hb : Blk w b t cs) (c0 : w.cell? ⟨b, o, none⟩ = some (.bool neg)) (c1 : w.cell? ⟨b, o + 1, none⟩ = some (.slice (some ⟨xb, 0, none⟩) 1 1)) (hc : w.cell? ⟨xb, 0, none⟩ = some (.int .u64 x)) :
    Calls Tryz.prog 169 #[.pointer (some ⟨b, o, none⟩), .pointer (some ⟨b, o, none⟩), .int .u64 s] w fun e w' => e = .returned (.pointer (some ⟨b, o, none⟩)) ∧ LshOut b o t cs neg ((x : Int) * 2 ^ s) w w' := by
  have HM : Hid (Calls Tryz.prog 180 #[.slice (some ⟨xb, 0, none⟩) 1 1, .slice (some ⟨xb, 0, none⟩) 1 1, .int .u64 s] w.drew fun e w' => ∃ v ps, e = .returned v ∧ Hid (NewN w v ps w') ∧ Hid (nv ps = (x : Int) * 2 ^ s)) := Lib.hid (by
    refine (lsh_one (some ⟨xb, 0, none⟩) 1 1 xb 0 1 x s (Nat.le_refl _) hx hs0 hs1 w.drew hc).mono ?_
    rintro e w' ⟨v, ps, h1, h2, h3⟩
    exact ⟨v, ps, h1, Lib.hid ⟨h2.1, ⟨h2.2.1.os, h2.2.1.tape, h2.2.1.output, h2.2.1.size, h2.2.1.block⟩, h2.2.2⟩, Lib.hid h3⟩)
  obtain ⟨P, hP⟩ : ∃ P, P = (x : Int) * 2 ^ s := ⟨_, rfl⟩
  rw [← hP] at HM ⊢
  have f0 := hb.frozen o
  have f1 := hb.frozen (o + 1)
  have HB := Lib.hid hb
  have lb := hb.lt
  clear hP hx hs0 hs1 hb
  go_enter Tryz.func169, Tryz.ntmps169
  go_upto_region 1 with fail
  rw [show Op.load 187 (.tmp 10) = ldAs 187 (.tmp 10) from rfl, show Op.load 187 (.tmp 14) = ldAs 187 (.tmp 14) from rfl]
  go_region_held3 (fun _ => True) (exact True.intro)
    ((go_at_call 180; (with_reducible refine HM.out.mono ?_); rintro e w' ⟨v, ps, rfl, hN, hp⟩; have hbl := hN.out.2.1; have f1 := frz_up hbl c1 f1; have f0 := frz_up hbl c0 f0; have c0 := cell_up hbl c0; have c1 := cell_up hbl c1; have lw := hbl.size; obtain ⟨Av, cv, rfl, hh⟩ := id hN.out.1; clear hh hbl))
  all_goals
    go_wp2
    go_ret
    have hzn : ∀ k, Nw w w' k → k ≠ b := fun k hk => by have h1 := hk.1; omega
    have hst := ((Still.refl (Nw w w') w').set (p := ⟨b, o + 1, none⟩) hzn (.slice Av ps.length cv)).set (p := ⟨b, o, none⟩) hzn (.bool neg)
    exact ⟨rfl, .slice Av ps.length cv, ps, ((HB.out.below hN.out.2.1 lb).set (o + 1) _).set o _, (hN.out.1.keep hst).mono (fun k hk => ⟨⟨hk.1, by simpa [World.setCell] using hk.2⟩, hzn k hk⟩), hN.out.2.2.1, hN.out.2.2.2, hp.out,
      ((But.of_below (T := fun k => k = b) hN.out.2.1).set (p := ⟨b, o + 1, none⟩) rfl _).set (p := ⟨b, o, none⟩) rfl _⟩
end Go.Proofs.YtloloifngbmibaaGreatDoor
set_option linter.unusedVariables false
set_option linter.unusedSimpArgs false
set_option maxRecDepth 4000
namespace Go.Proofs.YtloloifngbmibaaGreatDoor
open Go.RowKit

/-- What lehmerGCD is asked here: it gives 1. -/
def GcdOne (rb zb : Nat) (w : World) : Prop :=
  Calls Tryz.prog 181 #[.pointer (some ⟨zb, 0, none⟩), .pointer none, .pointer none, .pointer (some ⟨rb, 0, none⟩), .pointer (some ⟨rb, 2, none⟩)] w fun e w' => e = .returned (.pointer (some ⟨zb, 0, none⟩)) ∧ LehOut zb 1 w w'

set_option maxHeartbeats 2000000 in
theorem norm_one (S : Nat → Prop) (rb : Nat) (an bn : Bool) (xs ds : List Int) (h0 : 0 < xs.length) (hd : 0 < ds.length) (va vb : Value) (w : World) (hb : Blk w rb 292 #[.bool an, va, .bool bn, vb]) (ha : SlV w S .u64 va xs) (hv : SlV w S .u64 vb ds) (hS : ∀ k, S k → k < w.heap.size ∧ k ≠ rb)
    (HGC : ∀ (zb : Nat) (W : World), Blk W zb 189 #[.bool false, .slice none 0 0] → Blk W rb 292 #[.bool false, va, .bool false, vb] → SlV W S .u64 va xs → SlV W S .u64 vb ds → zb ≠ rb → (∀ k, S k → k < W.heap.size) → GcdOne rb zb W) :
    Calls Tryz.prog 170 #[.pointer (some ⟨rb, 0, none⟩)] w fun e w' => e = .returned (.pointer (some ⟨rb, 0, none⟩)) ∧ Blk w' rb 292 #[.bool an, va, .bool false, vb] ∧ But (fun k => k = rb) w w' := by
  have HGC' := Lib.hid HGC
  obtain ⟨Aa, ca, rfl, _, ra⟩ := id ha
  obtain ⟨Ab, cb, rfl, _, rd⟩ := id hv
  have HA := Lib.hid ha
  have HV := Lib.hid hv
  have HS := Lib.hid hS
  have HB := Lib.hid hb
  have lb := hb.lt
  have c0 := hb.cell 0
  have c1 := hb.cell 1
  have c2 := hb.cell 2
  have c3 := hb.cell 3
  have f0 := hb.frozen 0
  have f2 := hb.frozen 2
  simp at c0 c1 c2 c3
  have e1 : ((xs.length : Int) == 0) = false := beq_no (by omega)
  have e2 : ((ds.length : Int) == 0) = false := beq_no (by omega)
  clear HGC ha hv hS hb ra rd
  go_enter_defers Tryz.func170, Tryz.ntmps170
  go_upto_region 10 with (go_at_call 161; refine (getStack_any _).mono ?_; rintro e w' ⟨rfl, rfl⟩)
  obtain ⟨W1, hW1⟩ : ∃ W1, W1 = ((((w.setCell ⟨rb, 0, none⟩ (.bool false)).setCell ⟨rb, 2, none⟩ (.bool false))).alloc (.cells #[.pointer none] 302)) := ⟨_, rfl⟩
  have hs0 : ((w.setCell ⟨rb, 0, none⟩ (.bool false)).setCell ⟨rb, 2, none⟩ (.bool false)).heap.size = w.heap.size := by simp [World.setCell]
  have hs1 : W1.heap.size = w.heap.size + 1 := by rw [hW1]; simp [World.setCell]
  have HB1 : Hid (Blk W1 rb 292 #[.bool false, .slice Aa xs.length ca, .bool false, .slice Ab ds.length cb]) := Lib.hid (by
    rw [hW1]
    exact ((HB.out.set 0 (.bool false)).set 2 (.bool false)).alloc _)
  have HK1 : Hid (Blk W1 w.heap.size 302 #[.pointer none]) := Lib.hid (by
    have h := Blk.new ((w.setCell ⟨rb, 0, none⟩ (.bool false)).setCell ⟨rb, 2, none⟩ (.bool false)) 302 #[.pointer none]
    rw [hs0] at h
    rw [hW1]
    exact h)
  have HT1 : Hid (But (fun k => k = rb) w W1) := Lib.hid (by
    rw [hW1]
    refine (((But.refl (fun k => k = rb) w).set (p := ⟨rb, 0, none⟩) rfl (.bool false)).set (p := ⟨rb, 2, none⟩) rfl (.bool false)).trans ?_
    exact But.of_below ((Below.refl _ _).alloc (Nat.le_refl _) _))
  rw [← hW1]
  clear hW1
  have HN : Hid (Calls Tryz.prog 96 #[.int .i64 0] W1.drew fun e w' => e = .returned (.pointer (some ⟨w.heap.size + 1, 0, none⟩)) ∧ W1.drew.alloc (.cells #[.bool false, .slice none 0 0] 189) = w') := Lib.hid (by
    have h := newInt_zero W1.drew
    rw [show W1.drew.heap.size = w.heap.size + 1 from hs1] at h
    exact h)
  have HGO : Hid (GcdOne rb (w.heap.size + 1) (W1.alloc (.cells #[.bool false, .slice none 0 0] 189)).drew) := Lib.hid <| by
    have hz := Blk.new W1.drew 189 #[.bool false, .slice none 0 0]
    have hsz : W1.drew.heap.size = w.heap.size + 1 := hs1
    rw [hsz] at hz
    have hst : Still S w (W1.drew.alloc (.cells #[.bool false, .slice none 0 0] 189)) := (HT1.out.still (fun k hk => HS.out k hk)).trans (still_below ((below_drewN' (Below.refl W1.heap.size W1) 1).alloc (Nat.le_refl _) _) (fun k hk => Nat.lt_of_lt_of_le (HS.out k hk).1 HT1.out.size))
    exact HGC'.out _ _ hz (HB1.out.alloc _) (HA.out.keep hst) (HV.out.keep hst) (by omega) (fun k hk => by have := (HS.out k hk).1; simp [hsz]; omega)
  clear HGC' HA HV c0 c1 c2 c3 f0 f2
  unfold GcdOne at HGO
  go_cut [5] from 51 to 58 (fun fv wx => fv = .pointer (some ⟨w.heap.size + 1, 0, none⟩) ∧ LehOut (w.heap.size + 1) 1 (W1.alloc (.cells #[.bool false, .slice none 0 0] 189)).drew wx)
  case first =>
    go_region_held3 (fun _ => True) (exact True.intro)
      (first
       | (go_at_call 96; (with_reducible refine HN.out.mono ?_); rintro e w1 ⟨rfl, rfl⟩)
       | (go_at_call 181; (with_reducible refine HGO.out.mono ?_); rintro e w1 ⟨rfl, o1⟩; have O1 := Lib.hid o1; clear o1))
    go_wp2_with fail
    go_meet
    case rel => exact ⟨rfl, O1.out⟩
  case rest =>
    obtain ⟨rfl, sv, hk5, hl5, hb5⟩ := hcut
    obtain ⟨A5, c5, rfl, _, hr5⟩ := hl5
    have hW := Blk.new W1 189 #[.bool false, .slice none 0 0]
    rw [hs1] at hW
    have lW : (W1.alloc (.cells #[.bool false, .slice none 0 0] 189)).drew.heap.size = w.heap.size + 2 := by simp [hs1]
    have KR := (HB1.out.alloc (.cells #[.bool false, .slice none 0 0] 189)).drew.keep (hb5.block rb (by omega) (by omega))
    have KS := (HK1.out.alloc (.cells #[.bool false, .slice none 0 0] 189)).drew.keep (hb5.block w.heap.size (by omega) (by omega))
    have HKR := Lib.hid KR
    have HKS := Lib.hid KS
    have HT5 : Hid (But (fun k => k = rb) w wc) := Lib.hid (HT1.out.trans (But.of_below ((below_drewN' ((Below.refl W1.heap.size W1).alloc (Nat.le_refl _) (.cells #[.bool false, .slice none 0 0] 189)) 1).trans (hb5.below (by omega) (fun k hk => by omega)))))
    have lc : w.heap.size + 2 ≤ wc.heap.size := by have := hb5.size; omega
    obtain ⟨W6, hW6⟩ : ∃ W6, W6 = (wc.alloc (.cells #[.int .u64 1] 236)).alloc (.cells #[.bool false, .slice (some ⟨wc.heap.size, 0, none⟩) 1 1] 189) := ⟨_, rfl⟩
    have b6 : Below wc.heap.size wc W6 := by rw [hW6]; exact below_al (below_al (Below.refl _ _) _) _
    have kA := (Blk.new wc 236 #[.int .u64 1]).alloc (.cells #[.bool false, .slice (some ⟨wc.heap.size, 0, none⟩) 1 1] 189)
    have kB := Blk.new (wc.alloc (.cells #[.int .u64 1] 236)) 189 #[.bool false, .slice (some ⟨wc.heap.size, 0, none⟩) 1 1]
    rw [show (wc.alloc (.cells #[.int .u64 1] 236)).heap.size = wc.heap.size + 1 by simp, ← hW6] at kB
    rw [← hW6] at kA
    have k5 := hk5.below b6 hk5.lt
    have r5 := hr5.keep (still_below b6 (fun k hk => hk.2))
    have HCP : Hid (Calls Tryz.prog 127 #[.pointer (some ⟨w.heap.size + 1, 0, none⟩), .pointer (some ⟨wc.heap.size + 1, 0, none⟩)] W6 fun e w' => e = .returned (.int .i64 0) ∧ ∃ n, w' = W6.drewN n) := Lib.hid (by
      have h := intCmp_any (fun k => k = w.heap.size + 1 ∨ Nw (W1.alloc (.cells #[.bool false, .slice none 0 0] 189)).drew wc k) (fun k => k = wc.heap.size ∨ k = wc.heap.size + 1) (w.heap.size + 1) 0 (wc.heap.size + 1) 0 false false [((1 : Nat) : Int)] [1] (by simp) (by simp) W6 _ _ k5 _ _ kB (by omega) (BigV.of_blk k5 (.inl rfl) ⟨A5, c5, rfl, by assumption, r5.mono (fun k hk => .inr hk)⟩) (BigV.of_blk kB (.inr rfl) ⟨some ⟨wc.heap.size, 0, none⟩, 1, rfl, by simp, (WB.rd (o := 0) (xs := [1]) (zs := []) (show WB W6 wc.heap.size [1] from kA) rfl).mono (fun k hk => .inl hk)⟩)
      refine h.mono ?_
      rintro e w' ⟨rfl, n, rfl⟩
      refine ⟨by rw [show cmpB false [((1 : Nat) : Int)] false [1] = 0 from rfl], n, rfl⟩)
    have HK6 := Lib.hid (KR.below b6 (by omega))
    have HS6 := Lib.hid (KS.below b6 (by omega))
    have HT6 := Lib.hid (HT5.out.trans (But.of_below b6))
    clear KR KS HKR HKS HT5 b6 hW kA kB k5 r5 hr5 hb5 hk5 HB1 HK1 HT1 HN HGO
    go_wp2_with (first
       | (go_at_call 168; (refine (intOne_any _).mono ?_); rintro e w1 ⟨rfl, rfl⟩)
       | (go_at_call 127; rw [← hW6]; (refine HCP.out.mono ?_); clear hW6; rintro e w1 ⟨rfl, n, rfl⟩; have cc := (HK6.out.drewN n).cell 0; have cf := (HK6.out.drewN n).frozen 0; simp at cc))
    have kS := (HS6.out.drewN n).far (p := ⟨rb, 0, none⟩) (by simp; omega) (.bool an)
    have cs := kS.cell 0
    simp only [List.getElem?_toArray, List.getElem?_cons_zero] at cs
    refine leaves_cons (f := 162) (args := #[.pointer (some ⟨w.heap.size, 0, none⟩)]) (by simp) (by simp [go_sem]) ?_
    refine (free_def w.heap.size .returning _ cs).mono ?_
    rintro e u' w'' ⟨rfl, rfl, rfl⟩
    have kE := (HK6.out.drewN n).set 0 (.bool an)
    exact ⟨_, results_tmp rfl _ _ _, rfl, kE, (HT6.out.drewN n).set rfl _⟩
end Go.Proofs.YtloloifngbmibaaGreatDoor
set_option linter.unusedVariables false
set_option linter.unusedSimpArgs false
set_option maxRecDepth 4000
namespace Go.Proofs.YtloloifngbmibaaGreatDoor
open Go.RowKit

theorem same_self (g o n c : Nat) (h : 0 < n) (w : World) :
    Calls Tryz.prog 194 #[.slice (some ⟨g, o, none⟩) n c, .slice (some ⟨g, o, none⟩) n c] w fun e w' => e = .returned (.bool true) ∧ ∃ m, w' = w.drewN m := by
  have e1 := dec_yes (show (0 : Int) < (n : Int) by omega)
  have heq : ∀ k, (binOp .eql 317 (.pointer (some ⟨g, o, none⟩)) (.pointer (some ⟨g, o, none⟩))).run Tryz.prog (w.drewN k) = .ok (.bool true) (w.drewN k) := fun k => by
    obtain ⟨i, hi, _⟩ := info_parts info_word
    exact run_eql_ptr_same _ ⟨g, o, none⟩ Tryz.underlying317 hi
  have heq0 := heq 0
  go_enter Tryz.func194, Tryz.ntmps194
  go_wp2
  go_quiet (fail)
  go_wp2
  go_ret
  exact ⟨rfl, _, rfl⟩

theorem same_nil (w : World) :
    Calls Tryz.prog 194 #[.slice none 0 0, .slice none 0 0] w fun e w' => e = .returned (.bool false) ∧ ∃ m, w' = w.drewN m := by
  have e0 : decide ((0 : Int) < 0) = false := rfl
  go_enter Tryz.func194, Tryz.ntmps194
  go_wp2
  go_quiet (fail)
  go_wp2
  go_ret
  exact ⟨rfl, _, rfl⟩

theorem lsh_same (g o n c : Nat) (h : 0 < n) (w : World) :
    Calls Tryz.prog 180 #[.slice (some ⟨g, o, none⟩) n c, .slice (some ⟨g, o, none⟩) n c, .int .u64 0] w fun e w' => e = .returned (.slice (some ⟨g, o, none⟩) n c) ∧ ∃ m, w.drewN m = w' := by
  have HS := Lib.hid (same_self g o n c h w)
  go_enter Tryz.func180, Tryz.ntmps180
  go_wp2_with (go_at_call 194; refine HS.out.mono ?_; rintro e w' ⟨rfl, m, rfl⟩)
  go_ret
  exact ⟨rfl, _, rfl⟩
theorem lsh_nil0 (w : World) :
    Calls Tryz.prog 180 #[.slice none 0 0, .slice none 0 0, .int .u64 0] w fun e w' => e = .returned (.slice none 0 0) ∧ ∃ m, w.drewN m = w' := by
  go_enter Tryz.func180, Tryz.ntmps180
  go_wp2_with (first | (go_at_call 194; refine (same_nil w).mono ?_; rintro e w' ⟨rfl, m, rfl⟩) | (go_at_call 172; refine (alias_nil none 0 0 _).mono ?_; rintro e w' ⟨rfl, m, rfl⟩) | (go_at_call 132; refine (set_nil0 _ _ _).mono ?_; rintro e w' ⟨rfl, rfl⟩))
  go_ret
  exact ⟨rfl, _, rfl⟩

/-- Lsh by nothing, in place. -/
theorem intLsh_id (b o : Nat) (neg : Bool) (A : Option Addr) (n c : Nat) (t : TypeId) (cs : Array Value) (w : World) (hb : Blk w b t cs) (c0 : w.cell? ⟨b, o, none⟩ = some (.bool neg)) (c1 : w.cell? ⟨b, o + 1, none⟩ = some (.slice A n c))
    (HL : Calls Tryz.prog 180 #[.slice A n c, .slice A n c, .int .u64 0] w.drew fun e w' => e = .returned (.slice A n c) ∧ ∃ m, w.drewN m = w') :
    Calls Tryz.prog 169 #[.pointer (some ⟨b, o, none⟩), .pointer (some ⟨b, o, none⟩), .int .u64 0] w fun e w' => e = .returned (.pointer (some ⟨b, o, none⟩)) ∧ Alk w' ((w.setCell ⟨b, o + 1, none⟩ (.slice A n c)).setCell ⟨b, o, none⟩ (.bool neg)) := by
  have HM := Lib.hid HL
  have f0 := hb.frozen o
  have f1 := hb.frozen (o + 1)
  have lb := hb.lt
  clear HL hb
  go_enter Tryz.func169, Tryz.ntmps169
  go_upto_region 1 with fail
  rw [show Op.load 187 (.tmp 10) = ldAs 187 (.tmp 10) from rfl, show Op.load 187 (.tmp 14) = ldAs 187 (.tmp 14) from rfl]
  go_region_held3 (fun _ => True) (exact True.intro)
    ((go_at_call 180; (with_reducible refine HM.out.mono ?_); rintro e w' ⟨rfl, m, rfl⟩))
  all_goals
    go_wp2
    go_ret
    exact ⟨rfl, rfl, rfl, rfl, rfl⟩

theorem make_in1 (g n c : Nat) (hc : 1 ≤ c) (w : World) :
    Calls Tryz.prog 134 #[.slice (some ⟨g, 0, none⟩) n c, .int .i64 1] w fun e w' => e = .returned (.slice (some ⟨g, 0, none⟩) 1 c) ∧ w = w' := by
  have e1 := dec_yes (show (1 : Int) ≤ (c : Int) by omega)
  go_enter Tryz.func134, Tryz.ntmps134
  go_wp2
  go_ret
  exact ⟨rfl, rfl⟩
/-- setWord into a slice that has room. -/
theorem setWord_in (g n c : Nat) (x : Int) (hx : ¬ x = 0) (hc : 1 ≤ c) (w : World) (u : Value) (hz : w.cell? ⟨g, 0, none⟩ = some u) (fz : w.frozen? ⟨g, 0, none⟩ = false) :
    Calls Tryz.prog 133 #[.slice (some ⟨g, 0, none⟩) n c, .int .u64 x] w fun e w' => e = .returned (.slice (some ⟨g, 0, none⟩) 1 c) ∧ w.setCell ⟨g, 0, none⟩ (.int .u64 x) = w' := by
  have hx0 := beq_no hx
  clear hx
  go_enter Tryz.func133, Tryz.ntmps133
  go_wp2_with (go_at_call 134; refine (make_in1 g n c hc _).mono ?_; rintro e w' ⟨rfl, rfl⟩)
  go_ret
  exact ⟨rfl, rfl⟩

/-- norm of a zero. -/
theorem norm_zero (rb g c : Nat) (an bn : Bool) (A : Option Addr) (ca : Nat) (hc : 1 ≤ c) (w : World) (hb : Blk w rb 292 #[.bool an, .slice A 0 ca, .bool bn, .slice (some ⟨g, 0, none⟩) 1 c]) (u : Value) (hz : w.cell? ⟨g, 0, none⟩ = some u) (fz : w.frozen? ⟨g, 0, none⟩ = false) (hne : g ≠ rb) :
    Calls Tryz.prog 170 #[.pointer (some ⟨rb, 0, none⟩)] w fun e w' => e = .returned (.pointer (some ⟨rb, 0, none⟩)) ∧ Alk w' (((w.setCell ⟨rb, 0, none⟩ (.bool false)).setCell ⟨g, 0, none⟩ (.int .u64 1)).setCell ⟨rb, 3, none⟩ (.slice (some ⟨g, 0, none⟩) 1 c)) := by
  have lb := hb.lt
  have c0 := hb.cell 0
  have c1 := hb.cell 1
  have c3 := hb.cell 3
  have f0 := hb.frozen 0
  have f3 := hb.frozen 3
  simp at c0 c1 c3
  have HSW := Lib.hid (setWord_in g 1 c 1 (by decide) hc (w.setCell ⟨rb, 0, none⟩ (.bool false)) u (cell_st hne hz _) (by rw [← fz]; exact World.frozen?_setCell _ _ _ _))
  clear hb
  go_enter_defers Tryz.func170, Tryz.ntmps170
  go_wp2_with (go_at_call 133; refine HSW.out.mono ?_; rintro e w' ⟨rfl, rfl⟩)
  exact ⟨_, results_tmp rfl _ _ _, rfl, rfl, rfl, rfl, rfl⟩
end Go.Proofs.YtloloifngbmibaaGreatDoor
