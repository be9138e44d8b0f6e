/- Walks of divWVW, divW, div by one word, from nothing: the remainder. Walks of divW and div by one word, from nothing. Walk of QuoRem by one word, into two new integers. A hash table of at most eight entries in memory: what its 47 cells are. A hash table: checkMutable, overloaded, init. Walks of Set and Abs into a new integer, and of euclidUpdate. -/
import Derived.Test.YtloloifngbmibaaGreatDoorM04
import Derived.Test.YtloloifngbmibaaGreatDoorM06
import Derived.BigRegion
import Derived.Test.YtloloifngbmibaaGreatDoorM01
import Derived.BigQuiet
set_option linter.unusedVariables false
set_option maxRecDepth 4000
namespace Go.Proofs.YtloloifngbmibaaGreatDoor
open Go.RowKit

/-- A step of a long division, from the high end. -/
theorem rem_step {xs : List Int} {k : Nat} {x y r : Int} (hk : k < xs.length) (ex : xs[k]?.getD 0 = x) (hr : r = nv (xs.drop (k + 1)) % y) : (r * 18446744073709551616 + x) % y = nv (xs.drop k) % y := by
  have e : xs.drop k = x :: xs.drop (k + 1) := by
    rw [List.drop_eq_getElem_cons hk]
    simp [hk] at ex
    rw [ex]
  rw [e, hr]
  simp only [nv]
  rw [Int.add_emod, Int.mul_emod, Int.emod_emod_of_dvd _ (Int.dvd_refl y), ← Int.mul_emod, ← Int.add_emod]
  congr 1
  omega

theorem divWVW_any (S : Nat → Prop) (A : Option Addr) (g c cz : Nat) (y : Nat) (xs zs : List Int) (hy0 : 0 < y) (hy1 : y < 18446744073709551616) (h2 : 2 ≤ xs.length) (hn : xs.length ≤ 1000000) (hX : WL xs) (hz : zs.length = xs.length) (post : List Int) (w : World) (hr : Rd w S A (ints .u64 xs)) (hS : ∀ k, S k → k ≠ g)
    (hg : WB w g (zs ++ post)) :
    Calls Tryz.prog 216 #[.slice (some ⟨g, 0, none⟩) xs.length cz, .int .u64 0, .slice A xs.length c, .int .u64 y] w fun e w' =>
      e = .returned (.int .u64 (nv xs % (y : Int))) ∧ (∃ zs' : List Int, zs'.length = xs.length ∧ WB w' g (zs' ++ post)) ∧ w.grownBy w' (some g) := by
  obtain ⟨n, hn'⟩ : ∃ n, n = xs.length := ⟨_, rfl⟩
  rw [← hn'] at hz hn h2 ⊢
  have HR := Lib.hid hr
  have HX := Lib.hid hX
  have HS := Lib.hid hS
  have HN := Lib.hid hn'
  have HREC := Lib.hid (fun w => reciprocalWord_any y hy0 hy1 w)
  have e0 : ((n : Int) == 1) = false := beq_no (by omega)
  obtain ⟨n1, hn1⟩ : ∃ n1, n = n1 + 1 := ⟨n - 1, by omega⟩
  have en : (n : Int) - 1 = (n1 : Int) := by omega
  clear hr hX hS hn' h2
  go_enter Tryz.func216, Tryz.ntmps216
  go_wp2_with (go_at_call 230; refine (HREC.out _).mono ?_; rintro e w' ⟨rfl, m, rfl⟩)
  obtain ⟨V, hV⟩ : ∃ V, V = invV y - 18446744073709551616 := ⟨_, rfl⟩
  have HV := Lib.hid hV
  rw [← hV]
  clear hV en e0
  subst hn1
  go_loopw [8, 12] (fun rv i wr => ∃ (k r : Nat) (cur : List Int), k ≤ n1 + 1 ∧ ((k = 0 ∧ i = .int .i64 (-1)) ∨ ∃ j : Nat, k = j + 1 ∧ i = .int .i64 j) ∧ rv = .int .u64 r ∧ Hid ((r : Int) = nv (xs.drop k) % (y : Int)) ∧ Hid (r < y) ∧ Hid (cur.length = n1 + 1) ∧ Hid (WB wr g (cur ++ post)) ∧ Hid (w.grownBy wr (some g))) (fun _ i _ => (intOf i + 1).toNat)
  case atStart =>
    refine ⟨n1 + 1, 0, zs, Nat.le_refl _, .inr ⟨n1, rfl, ?_⟩, ?_, Lib.hid ?_, Lib.hid hy0, Lib.hid hz, Lib.hid (hg.drewN _), Lib.hid (grown_drewN (World.grownBy.refl _ _) _)⟩
    · simp
    · rfl
    · rw [List.drop_eq_nil_of_le (by rw [← HN.out]; exact Nat.le_refl _)]
      simp [nv]
  case round =>
    obtain ⟨k, r, cur, hk, hki, rfl, hr, hry, hcl, hb, hgr⟩ := hrel
    rcases hki with ⟨rfl, rfl⟩ | ⟨j, rfl, rfl⟩
    · have HR0 : Hid ((r : Int) = nv xs % (y : Int)) := Lib.hid (by have := hr.out; simpa using this)
      go_wp2
      go_ret
      refine ⟨by rw [HR0.out]; rfl, ⟨cur, hcl.out, hb.out⟩, hgr.out⟩
    · obtain ⟨b, ofs, hA, hSb, hc⟩ := rd_int HR.out (j := j) (by rw [← HN.out]; omega)
      cases hA
      have hcell := hgr.out.cell hc (by have := HS.out b hSb; simpa using this)
      obtain ⟨x, hx⟩ : ∃ x, x = xs[j]?.getD 0 := ⟨_, rfl⟩
      have hxb := HX.out.at_ j
      rw [← hx] at hcell hxb
      obtain ⟨X, rfl⟩ := Int.eq_ofNat_of_zero_le hxb.1
      have hX1 : X < 18446744073709551616 := by have := hxb.2; omega
      have HD := Lib.hid (fun w => divWW_any r X y hy0 hy1 hry.out hX1 w)
      rw [← HV.out] at HD
      have hst := rem_step (y := (y : Int)) (r := (r : Int)) (by rw [← HN.out]; omega) hx.symm hr.out
      obtain ⟨r2, hr2⟩ : ∃ r2, r2 = (r * 18446744073709551616 + X) % y := ⟨_, rfl⟩
      rw [← hr2] at HD
      have HR2 : Hid ((r2 : Int) = nv (xs.drop j) % (y : Int) ∧ r2 < y) := Lib.hid ⟨by
        rw [← hst, hr2]
        simp, by rw [hr2]; exact Nat.mod_lt _ hy0⟩
      have hjl : j < (cur ++ post).length := by rw [List.length_append, hcl.out]; omega
      have c0 := hb.out.cell hjl
      have f0 := Blk.frozen hb.out j
      obtain ⟨u, hu⟩ : ∃ u, u = (cur ++ post)[j]?.getD 0 := ⟨_, rfl⟩
      rw [← hu] at c0
      have HJ := Lib.hid hk
      have hj1 : (j : Int) < (n1 : Int) + 1 := by omega
      have hj2 : j < n1 + 1 := by omega
      clear hx hxb hc hX1 hst hr2 hjl hu hk
      go_wp2_with fail
      refine (HD.out _).mono ?_
      rintro e w' ⟨q, rfl, rfl⟩
      have HWB : Hid (WB (w'.setCell ⟨g, j, none⟩ (.int .u64 q)) g (cur.set j q ++ post)) := Lib.hid (by
        have h := hb.out.set j q
        rwa [List.set_append_left _ _ (by rw [hcl.out]; exact hj2)] at h)
      have HLN : Hid ((cur.set j q).length = n1 + 1) := Lib.hid (by rw [List.length_set]; exact hcl.out)
      rcases j with _ | j
      · go_wp2
        go_roundw
        case rel => exact ⟨0, r2, cur.set 0 q, Nat.zero_le _, .inl ⟨rfl, rfl⟩, rfl, Lib.hid HR2.out.1, Lib.hid HR2.out.2, HLN, HWB, Lib.hid (only_set hgr.out _ _)⟩
        case measure => simp [intOf]
      · go_wp2
        go_roundw
        case rel => exact ⟨j + 1, r2, cur.set (j + 1) q, by omega, .inr ⟨j, rfl, by simp⟩, rfl, Lib.hid HR2.out.1, Lib.hid HR2.out.2, HLN, HWB, Lib.hid (only_set hgr.out _ _)⟩
        case measure => simp [intOf]; omega
end Go.Proofs.YtloloifngbmibaaGreatDoor
set_option linter.unusedVariables false
set_option maxRecDepth 4000
namespace Go.Proofs.YtloloifngbmibaaGreatDoor
open Go.RowKit

theorem Copied.sl {w w' : World} {xs : List Int} {v : Value} (h : Copied w xs v w') : SlV w' (Nw w w') .u64 v xs ∧ Below w.heap.size w w' := by
  obtain ⟨zs, rfl, rfl⟩ := h
  refine ⟨⟨_, _, rfl, by simp, ?_⟩, (Below.refl _ _).alloc (Nat.le_refl _) _⟩
  have hb := Blk.new w 236 (ints .u64 (xs ++ zs)).toArray
  have hb2 : WB (w.alloc (.cells (ints .u64 (xs ++ zs)).toArray 236)) w.heap.size (xs ++ zs) := hb
  exact (hb2.rd (o := 0) (zs := zs) (by simp)).mono (fun k hk => by rw [hk]; exact ⟨Nat.le_refl _, hb2.lt⟩)

theorem divW_any (S : Nat → Prop) (A : Option Addr) (c : Nat) (y : Nat) (xs : List Int) (hy0 : 0 < y) (hy1 : y < 18446744073709551616) (h2 : 2 ≤ xs.length ∨ y = 1 ∧ 0 < xs.length) (hn : xs.length ≤ 1000000) (hX : WL xs) (w : World) (hr : Rd w S A (ints .u64 xs)) (hS : ∀ k, S k → k < w.heap.size) :
    Calls Tryz.prog 203 #[.slice none 0 0, .slice A xs.length c, .int .u64 y] w fun e w' =>
      ∃ qv qs, e = .returned (.tuple #[qv, .int .u64 (nv xs % (y : Int))]) ∧ SlV w' (Nw w w') .u64 qv qs ∧ Below w.heap.size w w' ∧ (y = 1 → qs = xs) := by
  have e1 : ((y : Int) == 0) = false := beq_no (by omega)
  have hpos : 0 < xs.length := by omega
  by_cases h1 : y = 1
  · subst h1
    have H := Lib.hid (set_nil S A c xs hpos (by omega) w hr)
    have H0 := Lib.hid (show nv xs % ((1 : Nat) : Int) = 0 from Int.emod_one _)
    clear hr hS hX h2 hpos
    go_enter Tryz.func203, Tryz.ntmps203
    go_wp2_with fail
    refine H.out.mono ?_
    rintro e w' ⟨v, rfl, hv⟩
    have HC := Lib.hid hv.sl
    obtain ⟨zs, rfl, hw⟩ := hv
    clear hw
    go_wp2
    exact bodyPost_ret (v := .tuple #[.slice (some ⟨w.heap.size, 0, none⟩) xs.length (xs ++ zs).length, .int .u64 0]) (by simp [results, Tryz.results203, go_sem]) rfl ⟨_, xs, by rw [H0.out], HC.out.1, HC.out.2, fun _ => rfl⟩
  · obtain ⟨n, hn'⟩ : ∃ n, n = xs.length := ⟨_, rfl⟩
    have hn2 : 2 ≤ n := by omega
    rw [← hn'] at hn ⊢
    have HN := Lib.hid hn'
    have e2 : ((y : Int) == 1) = false := beq_no (by omega)
    have e3 : ((n : Int) == 0) = false := beq_no (by omega)
    have HMK := Lib.hid (make_niln n hn2 (by omega) w)
    have hal := below_al (Below.refl w.heap.size w) (.cells (madeCells #[.int .u64 0] (n + 4)) 236)
    have HD := divWVW_any S A w.heap.size c (n + 4) y xs (List.replicate n 0) hy0 hy1 (by omega) (by omega) hX (by rw [List.length_replicate, hn']) (List.replicate 4 0) (w.alloc (.cells (madeCells #[.int .u64 0] (n + 4)) 236)) (hr.keep (still_below hal hS)) (fun k hk => by have := hS k hk; omega) (by rw [List.replicate_append_replicate]; exact WB.made w (n + 4))
    rw [← hn'] at HD
    have HDH := Lib.hid HD
    obtain ⟨rm, hrm⟩ : ∃ r, r = nv xs % (y : Int) := ⟨_, rfl⟩
    rw [← hrm] at HDH ⊢
    clear HD hal hr hS hX hn' h2 hpos hrm
    go_enter Tryz.func203, Tryz.ntmps203
    go_wp2_with fail
    refine HMK.out.mono ?_
    rintro e w1 ⟨rfl, rfl⟩
    go_wp2_with fail
    refine HDH.out.mono ?_
    rintro e w1 ⟨rfl, ⟨zs', hzl, hwb⟩, hgr⟩
    have HNO := norm_any (fun k => k = w.heap.size) (some ⟨w.heap.size, 0, none⟩) (n + 4) zs' (by omega) (by omega) w1 (hwb.rd (zs := List.replicate 4 0) (by simp))
    rw [hzl] at HNO
    have HNH := Lib.hid HNO
    have HZL := Lib.hid hzl
    have HWB := Lib.hid hwb
    have HGR := Lib.hid hgr
    clear hzl hwb hgr HNO
    go_wp2_with fail
    refine HNH.out.mono ?_
    rintro e w2 ⟨rfl, rfl⟩
    go_wp2
    refine bodyPost_ret (v := .tuple #[.slice (some ⟨w.heap.size, 0, none⟩) (nrm zs').length (n + 4), .int .u64 rm]) (by simp [results, Tryz.results203, go_sem]) rfl ⟨_, nrm zs', rfl, HWB.out.sl ⟨Nat.le_refl _, HWB.out.lt⟩ (by rw [HZL.out]; omega), ?_, fun h => absurd h h1⟩
    exact ((Below.refl _ _).alloc (Nat.le_refl _) _).grown HGR.out (by simp) (fun k hk => by injection hk with hk; omega)

/-- A word as a magnitude. -/
def wordL (r : Int) : List Int := if r = 0 then [] else [r]
theorem setWord_nil (r : Int) (w : World) :
    Calls Tryz.prog 133 #[.slice none 0 0, .int .u64 r] w fun e w' => ∃ v, e = .returned v ∧ SlV w' (Nw w w') .u64 v (wordL r) ∧ Below w.heap.size w w' := by
  by_cases h : r = 0
  · subst h
    refine (setWord_nil0 w).mono ?_
    rintro e w' ⟨rfl, rfl⟩
    exact ⟨_, rfl, SlV.nil _ _ _, Below.refl _ _⟩
  · refine (setWord_nil1 r h w).mono ?_
    rintro e w' ⟨rfl, rfl⟩
    refine ⟨_, rfl, ?_, (Below.refl _ _).alloc (Nat.le_refl _) _⟩
    have hb : WB (w.alloc (.cells #[.int .u64 r] 236)) w.heap.size [r] := Blk.new w 236 #[.int .u64 r]
    rw [show wordL r = [r] by simp [wordL, h]]
    exact ⟨_, 1, rfl, Nat.le_refl _, (hb.rd (o := 0) (zs := []) (by simp)).mono (fun k hk => by rw [hk]; exact ⟨Nat.le_refl _, hb.lt⟩)⟩

theorem div_any (S S' : Nat → Prop) (A A' : Option Addr) (c c' : Nat) (stk : Value) (hstk : stk.oneCell' = true) (y : Nat) (xs : List Int) (hy0 : 0 < y) (hy1 : y < 18446744073709551616) (h2 : 2 ≤ xs.length ∨ y = 1 ∧ 0 < xs.length) (hn : xs.length ≤ 1000000) (hX : WL xs) (w : World) (hr : Rd w S A (ints .u64 xs)) (hr' : Rd w S' A' (ints .u64 [(y : Int)])) (hS : ∀ k, S k → k < w.heap.size) :
    Calls Tryz.prog 182 #[.slice none 0 0, stk, .slice none 0 0, .slice A xs.length c, .slice A' 1 c'] w fun e w' =>
      ∃ qv qs rv, e = .returned (.tuple #[qv, rv]) ∧ SlV w' (Nw w w') .u64 qv qs ∧ SlV w' (Nw w w') .u64 rv (wordL (nv xs % (y : Int))) ∧ Below w.heap.size w w' ∧ (y = 1 → qs = xs) := by
  obtain ⟨b, ofs, hA, hSb, hc⟩ := rd_int hr' (j := 0) (by simp)
  cases hA
  simp at hc
  have H := Lib.hid (divW_any S A c y xs hy0 hy1 h2 hn hX w hr hS)
  obtain ⟨rm, hrm⟩ : ∃ r, r = nv xs % (y : Int) := ⟨_, rfl⟩
  rw [← hrm] at H ⊢
  have HSW := Lib.hid (fun w => setWord_nil rm w)
  clear hr hr' hS hX h2 hn hy0 hy1 hrm
  go_enter Tryz.func182, Tryz.ntmps182
  go_wp2_with fail
  refine H.out.mono ?_
  rintro e w1 ⟨qv, qs, rfl, hq, hb, h1⟩
  have HQ := Lib.hid hq
  have HB := Lib.hid hb
  have H1 := Lib.hid h1
  obtain ⟨Aq, cq, rfl, _⟩ := hq
  clear hb h1
  go_wp2_with fail
  refine (HSW.out _).mono ?_
  rintro e w2 ⟨rv, rfl, hr2, hb2⟩
  have HR2 := Lib.hid hr2
  have HB2 := Lib.hid hb2
  obtain ⟨Ar, cr, rfl, _⟩ := hr2
  clear hb2
  go_wp2
  refine bodyPost_ret (v := .tuple #[.slice Aq qs.length cq, .slice Ar (wordL rm).length cr]) (by simp [results, Tryz.results182, go_sem]) rfl ⟨_, qs, _, rfl, ?_, ?_, below_up HB.out HB2.out, H1.out⟩
  · exact (HQ.out.keep (still_below HB2.out (fun k hk => hk.2))).mono (fun k hk => nw_up HB2.out hk)
  · exact HR2.out.mono (fun k hk => nw_late HB.out hk)
end Go.Proofs.YtloloifngbmibaaGreatDoor
set_option linter.unusedVariables false
set_option maxRecDepth 4000
namespace Go.Proofs.YtloloifngbmibaaGreatDoor
open Go.RowKit

/-- A load, by a name of its own (a region's walk takes it for no load: it goes through its ways without a word). -/
abbrev ldAs (t : TypeId) (x : Operand) : Op := .load t x
theorem cell_al {W : World} {p : Addr} {v : Value} (h : W.cell? p = some v) (o : Obj) : (W.alloc o).cell? p = some v := cell_up (below_al (Below.refl _ _) o) h
theorem cell_st2 {W : World} {g i j h : Nat} {v : Value} (hne : i ≠ j) (hc : W.cell? ⟨h, j, none⟩ = some v) (u : Value) : (W.setCell ⟨g, i, none⟩ u).cell? ⟨h, j, none⟩ = some v :=
  (World.cell?_setCell_other W ⟨g, i, none⟩ ⟨h, j, none⟩ u (fun e => hne (by injection e))).trans hc
theorem cell_st {W : World} {g i j h : Nat} {v : Value} (hne : h ≠ g) (hc : W.cell? ⟨h, j, none⟩ = some v) (u : Value) : (W.setCell ⟨g, i, none⟩ u).cell? ⟨h, j, none⟩ = some v :=
  (World.cell?_of_block (a := ⟨h, j, none⟩) (Below.heap_setCell W ⟨g, i, none⟩ u h hne)).trans hc

/-- Only blocks of T have turned, and new ones have come. -/
structure But (T : Nat → Prop) (w w' : World) : Prop where
  os : w'.os = w.os
  tape : w'.tape = w.tape
  output : w'.output = w.output
  size : w.heap.size ≤ w'.heap.size
  block : ∀ k, k < w.heap.size → ¬ T k → w'.heap[k]? = w.heap[k]?
theorem But.refl (T : Nat → Prop) (w : World) : But T w w := ⟨rfl, rfl, rfl, Nat.le_refl _, fun _ _ _ => rfl⟩
theorem But.trans {T : Nat → Prop} {a b c : World} (h : But T a b) (h' : But T b c) : But T a c :=
  ⟨h'.os.trans h.os, h'.tape.trans h.tape, h'.output.trans h.output, Nat.le_trans h.size h'.size, fun k hk ht => (h'.block k (Nat.lt_of_lt_of_le hk h.size) ht).trans (h.block k hk ht)⟩
theorem But.of_below {T : Nat → Prop} {a b : World} (h : Below a.heap.size a b) : But T a b := ⟨h.os, h.tape, h.output, h.size, fun k hk _ => h.block k hk⟩
theorem But.set {T : Nat → Prop} {a b : World} (h : But T a b) {p : Addr} (hp : T p.block) (u : Value) : But T a (b.setCell p u) :=
  ⟨h.os, h.tape, h.output, by simpa [World.setCell] using h.size, fun k hk ht => (Below.heap_setCell b p u k (fun e => ht (e ▸ hp))).trans (h.block k hk ht)⟩
theorem But.drewN {T : Nat → Prop} {a b : World} (h : But T a b) (n : Nat) : But T a (b.drewN n) := ⟨h.os, h.tape, h.output, h.size, h.block⟩
theorem But.undrew {T : Nat → Prop} {a b : World} (h : But T a.drew b) : But T a b := ⟨h.os, h.tape, h.output, h.size, h.block⟩
theorem But.still {T S : Nat → Prop} {a b : World} (h : But T a b) (hS : ∀ k, S k → k < a.heap.size ∧ ¬ T k) : Still S a b := fun k hk => h.block k (hS k hk).1 (hS k hk).2
theorem But.below {T : Nat → Prop} {a b : World} (h : But T a b) {B : Nat} (hB : B ≤ a.heap.size) (hT : ∀ k, T k → B ≤ k) : Below B a b :=
  ⟨h.os, h.tape, h.output, h.size, fun k hk => h.block k (Nat.lt_of_lt_of_le hk hB) (fun ht => by have := hT k ht; omega)⟩
theorem But.mono {T T' : Nat → Prop} {a b : World} (h : But T a b) (hT : ∀ k, T k → T' k) : But T' a b := ⟨h.os, h.tape, h.output, h.size, fun k hk ht => h.block k hk (fun h' => ht (hT k h'))⟩

/-- What QuoRem leaves: the quotient, the remainder (of one word). -/
def QuoOut (zb rb y : Nat) (n1 : Bool) (rm : Int) (xs : List Int) (w w' : World) : Prop :=
  ∃ qv qs rv qn rn, Blk w' zb 189 #[.bool qn, qv] ∧ Blk w' rb 189 #[.bool rn, rv] ∧ SlV w' (Nw w w') .u64 qv qs ∧ SlV w' (Nw w w') .u64 rv (wordL rm) ∧
    But (fun k => k = zb ∨ k = rb) w w' ∧ (y = 1 → qs = xs) ∧ (n1 = false → rn = false) ∧ (rm = 0 → rn = false)

set_option maxHeartbeats 2000000 in
theorem quoRem_any (S S' : Nat → Prop) (zb rb b1 o1 b2 o2 : Nat) (n1 n2 : Bool) (y : Nat) (xs : List Int) (hy0 : 0 < y) (hy1 : y < 18446744073709551616) (h2 : 2 ≤ xs.length ∨ y = 1 ∧ 0 < xs.length) (hn : xs.length ≤ 1000000) (hX : WL xs) (w : World)
    (hz : Blk w zb 189 #[.bool false, .slice none 0 0]) (hr : Blk w rb 189 #[.bool false, .slice none 0 0]) (hne : zb ≠ rb)
    (hx : BigV w S b1 o1 n1 xs) (hy : BigV w S' b2 o2 n2 [(y : Int)]) (hS : ∀ k, S k → k < w.heap.size ∧ ¬ (k = zb ∨ k = rb)) (hS' : ∀ k, S' k → k < w.heap.size ∧ ¬ (k = zb ∨ k = rb)) :
    Calls Tryz.prog 215 #[.pointer (some ⟨zb, 0, none⟩), .pointer (some ⟨b1, o1, none⟩), .pointer (some ⟨b2, o2, none⟩), .pointer (some ⟨rb, 0, none⟩)] w fun e w' =>
      e = .returned (.tuple #[.pointer (some ⟨zb, 0, none⟩), .pointer (some ⟨rb, 0, none⟩)]) ∧ QuoOut zb rb y n1 (nv xs % (y : Int)) xs w w' := by
  obtain ⟨v1, hs1, c10, c11, sl1⟩ := hx
  obtain ⟨v2, hs2, c20, c21, sl2⟩ := hy
  obtain ⟨A1, k1, rfl, hk1, hr1⟩ := sl1
  obtain ⟨A2, k2, rfl, hk2, hr2⟩ := sl2
  have HD := div_any S S' A1 A2 k1 k2 (.pointer none) rfl y xs hy0 hy1 h2 hn hX w.drew hr1 hr2 (fun k hk => (hS k hk).1)
  obtain ⟨rm, hrm⟩ : ∃ r, r = nv xs % (y : Int) := ⟨_, rfl⟩
  rw [← hrm] at HD ⊢
  have HDH := Lib.hid HD
  have q1 : b1 ≠ zb := fun e => (hS _ hs1).2 (.inl e)
  have q2 : b1 ≠ rb := fun e => (hS _ hs1).2 (.inr e)
  have q3 : b2 ≠ zb := fun e => (hS' _ hs2).2 (.inl e)
  have q4 : b2 ≠ rb := fun e => (hS' _ hs2).2 (.inr e)
  have hne' : ¬ rb = zb := fun e => hne e.symm
  have l1 := (hS _ hs1).1
  have l2 := (hS' _ hs2).1
  have HZ := Lib.hid hz
  have HRB := Lib.hid hr
  have z0 := hz.cell 0
  have z1 := hz.cell 1
  have r0 := hr.cell 0
  have r1 := hr.cell 1
  have fz0 := hz.frozen 0
  have fz1 := hz.frozen 1
  have fr0 := hr.frozen 0
  have fr1 := hr.frozen 1
  simp at z0 z1 r0 r1
  simp only [List.length_cons, List.length_nil] at c21
  clear hr1 hr2 HD hX hz hr hrm h2
  go_enter Tryz.func215, Tryz.ntmps215
  go_upto_region 1 with fail
  go_cut [] from 10 to 35 (fun wx => ∃ (Aq Ar : Option Addr) (cq cr : Nat) (qs : List Int), Hid (Blk wx zb 189 #[.bool false, .slice Aq qs.length cq]) ∧ Hid (Blk wx rb 189 #[.bool false, .slice Ar (wordL rm).length cr]) ∧ Hid (SlV wx (Nw w wx) .u64 (.slice Aq qs.length cq) qs) ∧ Hid (SlV wx (Nw w wx) .u64 (.slice Ar (wordL rm).length cr) (wordL rm)) ∧ Hid (But (fun k => k = zb ∨ k = rb) w wx) ∧ Hid (y = 1 → qs = xs))
  case first =>
    rw [show Op.load 187 (.tmp 15) = ldAs 187 (.tmp 15) from rfl, show Op.load 187 (.tmp 19) = ldAs 187 (.tmp 19) from rfl]
    go_region_held3 (fun W => W.cell? ⟨b1, o1 + 1, none⟩ = some (.slice A1 xs.length k1) ∧ W.cell? ⟨b2, o2 + 1, none⟩ = some (.slice A2 1 k2)) (first | exact ⟨c11, c21⟩ | exact ⟨cell_st q1 c11 _, cell_st q3 c21 _⟩ | exact ⟨cell_st q2 (cell_st q1 c11 _) _, cell_st q4 (cell_st q3 c21 _) _⟩)
      ((go_at_call 182; (with_reducible refine HDH.out.mono ?_); rintro e w' ⟨qv, qs, rv, rfl, hq, hrr, hb, h1⟩; have fz1 := frz_up hb z1 fz1; have fr1 := frz_up hb r1 fr1; have fz0 := frz_up hb z0 fz0; have fr0 := frz_up hb r0 fr0; have z1 := cell_up hb z1; have r1 := cell_up hb r1; have z0 := cell_up hb z0; have r0 := cell_up hb r0; have c11 := cell_up hb c11; have c21 := cell_up hb c21; have lz := HZ.out.lt; have lw := hb.size; simp at lw; have HQ := Lib.hid hq; have HRR := Lib.hid hrr; have HB := Lib.hid hb; have H1 := Lib.hid h1; obtain ⟨Aq, cq, rfl, hq1⟩ := hq; obtain ⟨Ar, cr, rfl, hq2⟩ := hrr; clear hq1 hq2 hb h1))
    all_goals
      go_wp2_with fail
      go_meet
      case rel =>
        have hb := HB.out
        have k1 := ((HZ.out.drew).below hb lz).set 1 (.slice Aq qs.length cq)
        have k2 := ((HRB.out.drew).below hb HRB.out.lt).set 1 (.slice Ar (wordL rm).length cr)
        have hbt := ((But.of_below (T := fun k => k = zb ∨ k = rb) hb).set (p := ⟨zb, 1, none⟩) (.inl rfl) (.slice Aq qs.length cq)).set (p := ⟨rb, 1, none⟩) (.inr rfl) (.slice Ar (wordL rm).length cr)
        have hzn : ∀ k, Nw w.drew w' k → k ≠ zb := fun k hk => by have h1 : w.heap.size ≤ k := hk.1; omega
        have hrn : ∀ k, Nw w.drew w' k → k ≠ rb := fun k hk => by have h1 : w.heap.size ≤ k := hk.1; have := HRB.out.lt; omega
        have hst := ((Still.refl (Nw w.drew w') w').set (p := ⟨zb, 1, none⟩) hzn (.slice Aq qs.length cq)).set (p := ⟨rb, 1, none⟩) hrn (.slice Ar (wordL rm).length cr)
        first
          | exact ⟨Aq, Ar, cq, cr, qs, Lib.hid (k1.far (p := ⟨rb, 1, none⟩) hne _), Lib.hid ((((HRB.out.drew).below hb HRB.out.lt).far (p := ⟨zb, 1, none⟩) hne' _).set 1 _), Lib.hid ((HQ.out.keep hst).mono (fun k hk => ⟨hk.1, by simpa [World.setCell] using hk.2⟩)), Lib.hid ((HRR.out.keep hst).mono (fun k hk => ⟨hk.1, by simpa [World.setCell] using hk.2⟩)), Lib.hid (But.undrew hbt), H1⟩
  case rest =>
    obtain ⟨Aq, Ar, cq, cr, qs, KZ, KR, KQ, KRR, KB, K1⟩ := hcut
    have d0 := (KB.out.still (S := fun k => k = b1) (fun k hk => by rw [hk]; exact ⟨l1, fun h => by rcases h with h | h; exact q1 h; exact q2 h⟩)) b1 rfl
    have d1 := (KB.out.still (S := fun k => k = b2) (fun k hk => by rw [hk]; exact ⟨l2, fun h => by rcases h with h | h; exact q3 h; exact q4 h⟩)) b2 rfl
    have c10 := (World.cell?_of_block (a := ⟨b1, o1, none⟩) d0).trans c10
    have c20 := (World.cell?_of_block (a := ⟨b2, o2, none⟩) d1).trans c20
    have z0 := KZ.out.cell 0
    have z1 := KZ.out.cell 1
    have r0 := KR.out.cell 0
    have r1 := KR.out.cell 1
    have fz0 := KZ.out.frozen 0
    have fr0 := KR.out.frozen 0
    simp at z0 z1 r0 r1
    have lz := KZ.out.lt
    have lr := KR.out.lt
    have lzw := HZ.out.lt
    have lrw := HRB.out.lt
    clear d0 d1 HDH HZ HRB fz1 fr1 c11 c21
    have HFIN : Hid (∀ qn rn : Bool, (n1 = false → rn = false) → (rm = 0 → rn = false) → QuoOut zb rb y n1 rm xs w ((wc.setCell ⟨zb, 0, none⟩ (.bool qn)).setCell ⟨rb, 0, none⟩ (.bool rn)).drew) := Lib.hid fun qn rn hrn hrz => by
      have hzn : ∀ k, Nw w wc k → k ≠ zb := fun k hk => by have h1 := hk.1; omega
      have hrn' : ∀ k, Nw w wc k → k ≠ rb := fun k hk => by have h1 := hk.1; omega
      have hst := ((Still.refl (Nw w wc) wc).set (p := ⟨zb, 0, none⟩) hzn (.bool qn)).set (p := ⟨rb, 0, none⟩) hrn' (.bool rn)
      exact ⟨.slice Aq qs.length cq, qs, .slice Ar (wordL rm).length cr, qn, rn, ((KZ.out.set 0 (.bool qn)).far (p := ⟨rb, 0, none⟩) hne _).drew, ((KR.out.far (p := ⟨zb, 0, none⟩) hne' _).set 0 (.bool rn)).drew,
        (KQ.out.keep hst).mono (fun k hk => ⟨hk.1, by simpa [World.setCell] using hk.2⟩), (KRR.out.keep hst).mono (fun k hk => ⟨hk.1, by simpa [World.setCell] using hk.2⟩), ((KB.out.set (p := ⟨zb, 0, none⟩) (.inl rfl) _).set (p := ⟨rb, 0, none⟩) (.inr rfl) _).drewN 1, K1.out, hrn, hrz⟩
    clear KZ KR KQ KRR KB K1
    by_cases hq : 0 < qs.length
    all_goals by_cases hr : 0 < (wordL rm).length
    all_goals
      go_upto_region 2 with fail
      go_region
      all_goals
        go_wp2
        exact bodyPost_ret (v := .tuple #[.pointer (some ⟨zb, 0, none⟩), .pointer (some ⟨rb, 0, none⟩)]) (by simp [results, Tryz.results215, go_sem]) rfl ⟨rfl, HFIN.out _ _ (by simp) (fun h => by first | rfl | (subst h; simp [wordL] at hr))⟩
end Go.Proofs.YtloloifngbmibaaGreatDoor
set_option linter.unusedVariables false
set_option linter.unusedSimpArgs false
set_option maxRecDepth 4000
namespace Go.Proofs.YtloloifngbmibaaGreatDoor
open Go.RowKit

/-- An entry: hash, key, value. -/
structure En where
  h : Int
  k : Value
  v : Value
/-- The five cells of place p: entry j stands at place 7 - j. -/
def enC (g : Nat) (es : List En) (p : Nat) : List Value :=
  match es[7 - p]? with
  | none => [.int .u32 0, .nilIface, .nilIface, .pointer none, .pointer none]
  | some e => [.int .u32 e.h, e.k, e.v, if 8 - p < es.length then .pointer (some ⟨g, 1 + (p - 1) * 5, none⟩) else .pointer none, if p = 7 then .pointer (some ⟨g, 44, none⟩) else .pointer (some ⟨g, 1 + (p + 1) * 5 + 3, none⟩)]
theorem enC_len (g : Nat) (es : List En) (p : Nat) : (enC g es p).length = 5 := by
  unfold enC
  split <;> rfl
/-- Where the link at the list's end stands. -/
def tOff (n : Nat) : Nat := if n = 0 then 44 else 1 + (8 - n) * 5 + 3
/-- The cells of a table that has been set up. -/
def htI (g : Nat) (es : List En) (fz : Bool) : List Value :=
  .slice (some ⟨g, 1, none⟩) 1 1 :: ((List.range 8).flatMap (enC g es) ++ [.pointer none, .int .u32 es.length, .int .u32 0, if es.length = 0 then .pointer none else .pointer (some ⟨g, 36, none⟩), .pointer (some ⟨g, tOff es.length, none⟩), .bool fz])
/-- The cells of a new table. -/
def htZ (fz : Bool) : List Value :=
  .slice none 0 0 :: ((List.range 8).flatMap (fun _ => [.int .u32 0, .nilIface, .nilIface, .pointer none, .pointer none]) ++ [.pointer none, .int .u32 0, .int .u32 0, .pointer none, .pointer none, .bool fz])
/-- The cells of a table. -/
def htC (g : Nat) (es : List En) (fz : Bool) : List Value := if es.length = 0 then htZ fz else htI g es fz
theorem htI_flat (g : Nat) (es : List En) : ((List.range 8).flatMap (enC g es)).length = 40 := flat_len _ 5 (enC_len g es) _
theorem htI_en (g : Nat) (es : List En) (fz : Bool) (i r : Nat) (hi : i < 8) (hr : r < 5) : (htI g es fz)[1 + i * 5 + r]? = (enC g es i)[r]? := by
  have h := flat_get (enC g es) 5 (enC_len g es) (List.range 8) i r (by simpa using hi) hr
  rw [List.getElem_range] at h
  unfold htI
  rw [show 1 + i * 5 + r = (i * 5 + r) + 1 by omega, List.getElem?_cons_succ, List.getElem?_append_left (by rw [htI_flat]; omega), h]
theorem htI_end (g : Nat) (es : List En) (fz : Bool) (r : Nat) : (htI g es fz)[41 + r]? = ([.pointer none, .int .u32 es.length, .int .u32 0, if es.length = 0 then .pointer none else .pointer (some ⟨g, 36, none⟩), .pointer (some ⟨g, tOff es.length, none⟩), .bool fz] : List Value)[r]? := by
  unfold htI
  rw [show 41 + r = (40 + r) + 1 by omega, List.getElem?_cons_succ, List.getElem?_append_right (by rw [htI_flat]; omega), htI_flat, Nat.add_sub_cancel_left]
/-- An empty place. -/
theorem htI_no (g : Nat) (es : List En) (fz : Bool) (i : Nat) (hi : i < 8) (hn : es.length ≤ 7 - i) : (htI g es fz)[1 + i * 5]? = some (.int .u32 0) := by
  have := htI_en g es fz i 0 hi (by decide)
  rw [Nat.add_zero] at this
  rw [this]
  unfold enC
  rw [List.getElem?_eq_none hn]
  rfl
/-- A place that is taken. -/
theorem htI_yes (g : Nat) (es : List En) (fz : Bool) (i : Nat) (hi : i < 8) (e : En) (he : es[7 - i]? = some e) : (htI g es fz)[1 + i * 5]? = some (.int .u32 e.h) ∧ (htI g es fz)[1 + i * 5 + 1]? = some e.k ∧ (htI g es fz)[1 + i * 5 + 2]? = some e.v := by
  have h0 := htI_en g es fz i 0 hi (by decide)
  have h1 := htI_en g es fz i 1 hi (by decide)
  have h2 := htI_en g es fz i 2 hi (by decide)
  rw [Nat.add_zero] at h0
  unfold enC at h0 h1 h2
  rw [he] at h0 h1 h2
  exact ⟨h0, h1, h2⟩
/-- What stands where the next entry will be put, and at the list's end. -/
theorem htI_free (g : Nat) (es : List En) (fz : Bool) (hn : es.length ≤ 7) (r : Nat) (hr : r < 5) : (htI g es fz)[1 + (7 - es.length) * 5 + r]? = ([.int .u32 0, .nilIface, .nilIface, .pointer none, .pointer none] : List Value)[r]? := by
  rw [htI_en g es fz _ r (by omega) hr]
  unfold enC
  rw [List.getElem?_eq_none (show es.length ≤ 7 - (7 - es.length) by omega)]
theorem htI_tail (g : Nat) (es : List En) (fz : Bool) (hn : es.length ≤ 8) : (htI g es fz)[tOff es.length]? = some (.pointer none) := by
  unfold tOff
  by_cases h0 : es.length = 0
  · rw [if_pos h0]
    have := htI_end g es fz 3
    rw [if_pos h0] at this
    exact this
  · rw [if_neg h0, htI_en g es fz _ 3 (by omega) (by decide)]
    unfold enC
    rw [List.getElem?_eq_getElem (show 7 - (8 - es.length) < es.length by omega)]
    simp only [List.getElem?_cons_succ, List.getElem?_cons_zero]
    rw [if_neg (by omega)]
theorem tOff_ne (n : Nat) (hn : n ≤ 8) : tOff n ≠ 45 ∧ tOff n ≠ 42 ∧ tOff n ≠ 46 ∧ tOff n ≠ 43 := by
  unfold tOff
  split <;> omega
/-- One entry put behind. -/
theorem htI_push (g : Nat) (es : List En) (e : En) (fz : Bool) (hn : es.length ≤ 7) :
    ((((((((htI g es fz).toArray.setIfInBounds (1 + (7 - es.length) * 5) (.int .u32 e.h)).setIfInBounds (1 + (7 - es.length) * 5 + 1) e.k).setIfInBounds (1 + (7 - es.length) * 5 + 2) e.v).setIfInBounds (1 + (7 - es.length) * 5 + 4) (.pointer (some ⟨g, tOff es.length, none⟩))).setIfInBounds (tOff es.length) (.pointer (some ⟨g, 1 + (7 - es.length) * 5, none⟩))).setIfInBounds 45 (.pointer (some ⟨g, 1 + (7 - es.length) * 5 + 3, none⟩))).setIfInBounds 42 (.int .u32 (es.length + 1 : Nat))) = (htI g (es ++ [e]) fz).toArray := by
  rcases es with _ | ⟨a, es⟩
  · kernel_rfl
  rcases es with _ | ⟨b, es⟩
  · kernel_rfl
  rcases es with _ | ⟨c, es⟩
  · kernel_rfl
  rcases es with _ | ⟨d, es⟩
  · kernel_rfl
  rcases es with _ | ⟨f, es⟩
  · kernel_rfl
  rcases es with _ | ⟨h, es⟩
  · kernel_rfl
  rcases es with _ | ⟨i, es⟩
  · kernel_rfl
  rcases es with _ | ⟨j, es⟩
  · kernel_rfl
  · simp at hn
/-- A table set up. -/
theorem htZ_init (g : Nat) (fz : Bool) : (((htZ fz).toArray.setIfInBounds 0 (.slice (some ⟨g, 1, none⟩) 1 1)).setIfInBounds 45 (.pointer (some ⟨g, 44, none⟩))) = (htI g [] fz).toArray := rfl
/-- Where the place for a new entry has been noted. -/
def insV (g n i : Nat) : Value := if i = 0 then .pointer none else .pointer (some ⟨g, 1 + (min i (8 - n) - 1) * 5, none⟩)
theorem insV_0 (g n : Nat) : insV g n 0 = .pointer none := rfl
theorem insV_8 (g n : Nat) (hn : n ≤ 7) : insV g n 8 = .pointer (some ⟨g, 1 + (7 - n) * 5, none⟩) := by
  unfold insV
  rw [if_neg (by decide), show min 8 (8 - n) - 1 = 7 - n by omega]
theorem insV_no (g n i : Nat) (hi : i < 8 - n) : insV g n (i + 1) = .pointer (some ⟨g, 1 + i * 5, none⟩) := by
  unfold insV
  rw [if_neg (by omega), show min (i + 1) (8 - n) - 1 = i by omega]
theorem insV_yes (g n i : Nat) (hn : n ≤ 7) (hi : 8 - n ≤ i) : insV g n (i + 1) = insV g n i := by
  unfold insV
  rw [if_neg (by omega), if_neg (by omega), show min (i + 1) (8 - n) = min i (8 - n) by omega]
end Go.Proofs.YtloloifngbmibaaGreatDoor
set_option linter.unusedVariables false
set_option linter.unusedSimpArgs false
set_option maxRecDepth 4000
namespace Go.Proofs.YtloloifngbmibaaGreatDoor
open Go.RowKit

theorem mutable_any (g : Nat) (s : ByteArray) (w : World) (h46 : w.cell? ⟨g, 46, none⟩ = some (.bool false)) (h43 : w.cell? ⟨g, 43, none⟩ = some (.int .u32 0)) :
    Calls Tryz.prog 117 #[.pointer (some ⟨g, 0, none⟩), .string s] w fun e w' => e = .returned .nilIface ∧ w' = w := by
  go_enter Tryz.func117, Tryz.ntmps117
  go_wp2
  go_ret
  exact ⟨rfl, rfl⟩
theorem overloaded_no (n m : Int) (w : World) (h : n < 8) : Calls Tryz.prog 120 #[.int .i64 n, .int .i64 m] w fun e w' => e = .returned (.bool false) ∧ w' = w := by
  have d := dec_no (show ¬ 8 ≤ n by omega)
  have h' : ¬ 8 ≤ n := by omega
  clear h
  go_enter Tryz.func120, Tryz.ntmps120
  go_wp2
  go_ret
  exact ⟨rfl, rfl⟩
theorem htInit (g : Nat) (T : TypeId) (fz : Bool) (w : World) (hb : Blk w g T (htZ fz).toArray) : Calls Tryz.prog 118 #[.pointer (some ⟨g, 0, none⟩), .int .i64 1] w fun e w' => e = .returned (.tuple #[]) ∧ Blk w' g T (htI g [] fz).toArray ∧ But (fun k => k = g) w w' := by
  have H1 := Lib.hid (fun w => overloaded_no 1 1 w (by decide))
  have HB := Lib.hid hb
  have f0 := hb.frozen 0
  have f45 := hb.frozen 45
  have c0 := hb.cell 0
  have c45 := hb.cell 45
  have gl := hb.lt
  simp [htZ] at c0
  replace c45 : w.cell? ⟨g, 45, none⟩ = some (.pointer none) := c45
  clear hb
  go_enter Tryz.func118, Tryz.ntmps118
  go_wp2
  go_loopw [4] (fun nv wr => nv = .int .i64 1 ∧ wr = w) (fun _ _ => 0)
  case atStart => exact ⟨rfl, rfl⟩
  case round =>
    obtain ⟨rfl, rfl⟩ := hrel
    go_wp2_with fail
    refine (H1.out _).mono ?_
    rintro e w1 ⟨rfl, rfl⟩
    go_wp2_with fail
    go_end0
    refine ⟨rfl, ?_, ?_⟩
    · rw [← htZ_init]
      exact (HB.out.set 0 (.slice (some ⟨g, 1, none⟩) 1 1)).set 45 (.pointer (some ⟨g, 44, none⟩))
    · exact ((But.refl (fun k => k = g) _).set (p := ⟨g, 0, none⟩) rfl _).set (p := ⟨g, 45, none⟩) rfl _
end Go.Proofs.YtloloifngbmibaaGreatDoor
set_option linter.unusedVariables false
set_option maxRecDepth 4000
namespace Go.Proofs.YtloloifngbmibaaGreatDoor
open Go.RowKit

/-- 'new(big.Int).Set(x)', behind the new: it is the new one. -/
theorem big_set_at (w : World) (S : Nat → Prop) (b1 o1 : Nat) (neg : Bool) (xs : List Int) (h1 : xs.length ≤ 4294967296) (hlt : b1 < w.heap.size) (t1 : TypeId) (cs1 : Array Value) (hb1 : Blk w b1 t1 cs1) (hx : BigV w S b1 o1 neg xs) :
    Calls Tryz.prog 114 #[.pointer (some ⟨w.heap.size, 0, none⟩), .pointer (some ⟨b1, o1, none⟩)] (w.alloc (.cells #[.bool false, .slice none 0 0] 189)) fun e w' => e = .returned (.pointer (some ⟨w.heap.size, 0, none⟩)) ∧ NewBig w w.heap.size neg xs w' := by
  obtain ⟨v, _, x0, x1, A, c, rfl, hlc, hr⟩ := hx
  have hx0 := (World.cell?_alloc_lt w (.cells #[.bool false, .slice none 0 0] 189) ⟨b1, o1, none⟩ hlt).trans x0
  have hx1 := (World.cell?_alloc_lt w (.cells #[.bool false, .slice none 0 0] 189) ⟨b1, o1 + 1, none⟩ hlt).trans x1
  have hbn := Blk.new w 189 #[.bool false, .slice none 0 0]
  by_cases hn : xs = []
  · subst hn
    refine (big_set0 _ w.heap.size b1 o1 neg hbn A c t1 cs1 (hb1.alloc _) (by omega) hx0 hx1).mono fun e w' ⟨he, hw⟩ => ⟨he, ?_, Nat.le_refl _, _, hw.blk ((hbn.set 1 _).set 0 _), .inl ⟨rfl, rfl⟩⟩
    exact hw.below ((((Below.refl _ _).alloc (Nat.le_refl _) _).setCell (Nat.le_refl _) _).setCell (Nat.le_refl _) _)
  · have h0 : 0 < xs.length := List.length_pos_iff.2 hn
    refine (big_setn _ (fun k => k < w.heap.size) w.heap.size b1 o1 neg xs h0 h1 hbn A c t1 cs1 (hb1.alloc _) (by omega) hx0 hx1 ?_).mono ?_
    · intro hp
      obtain ⟨b, o, e, hb, hc⟩ := hr hp
      have hbl : b < w.heap.size := World.block_lt_of_cell? w ⟨b, o + 0, none⟩ (hc 0 _ (List.getElem?_eq_getElem hp))
      exact ⟨b, o, e, hbl, fun j u hu => (World.cell?_alloc_lt w _ ⟨b, o + j, none⟩ hbl).trans (hc j u hu)⟩
    · rintro e w' ⟨he, zs, hw⟩
      have hbe : Below w.heap.size w w' := hw.below (((((Below.refl _ _).alloc (Nat.le_refl _) _).setCell (Nat.le_refl _) _).setCell (Nat.le_refl _) _).alloc (by simp) _)
      refine ⟨he, hbe, Nat.le_refl _, _, hw.blk (((hbn.set 1 _).set 0 _).alloc _), .inr ⟨w.heap.size + 1, zs, by omega, by omega, ?_, ?_⟩⟩
      · simp
      · refine hw.blk ?_
        have := Blk.new (((w.alloc (.cells #[.bool false, .slice none 0 0] 189)).setCell ⟨w.heap.size, 1, none⟩ (.slice (some ⟨(w.alloc (.cells #[.bool false, .slice none 0 0] 189)).heap.size, 0, none⟩) xs.length (xs.length + zs.length))).setCell ⟨w.heap.size, 0, none⟩ (.bool neg)) 236 (ints .u64 (xs ++ zs)).toArray
        simpa using this

theorem NewBig.neg {w W : World} {b : Nat} {neg : Bool} {xs : List Int} (h : NewBig w b neg xs W) (n : Bool) : NewBig w b n xs (W.setCell ⟨b, 0, none⟩ (.bool n)) := by
  obtain ⟨hb, h2, v, hv, h3⟩ := h
  refine ⟨hb.setCell h2 _, h2, v, hv.set 0 _, ?_⟩
  rcases h3 with ⟨h4, h5⟩ | ⟨g, zs, h4, h5, h6, h7⟩
  · exact .inl ⟨h4, h5⟩
  · exact .inr ⟨g, zs, h4, h5, h6, Blk.far h7 (p := ⟨b, 0, none⟩) h5 _⟩

theorem abs_new (w : World) (S : Nat → Prop) (b1 o1 : Nat) (neg : Bool) (xs : List Int) (h1 : xs.length ≤ 4294967296) (hlt : b1 < w.heap.size) (t1 : TypeId) (cs1 : Array Value) (hb1 : Blk w b1 t1 cs1) (hx : BigV w S b1 o1 neg xs) :
    Calls Tryz.prog 196 #[.pointer (some ⟨w.heap.size, 0, none⟩), .pointer (some ⟨b1, o1, none⟩)] (w.alloc (.cells #[.bool false, .slice none 0 0] 189)) fun e w' => e = .returned (.pointer (some ⟨w.heap.size, 0, none⟩)) ∧ NewBig w w.heap.size false xs w' := by
  have H := Lib.hid (big_set_at w S b1 o1 neg xs h1 hlt t1 cs1 hb1 hx)
  clear hb1 hx h1
  go_enter Tryz.func196, Tryz.ntmps196
  go_wp2_with fail
  refine H.out.mono ?_
  rintro e w1 ⟨rfl, hn⟩
  have HN := Lib.hid hn
  obtain ⟨_, _, v, hv, _⟩ := hn
  have c0 := hv.cell 0
  have f0 := hv.frozen 0
  have hl := hv.lt
  simp at c0
  clear hv
  go_wp2
  go_ret
  exact ⟨rfl, HN.out.neg false⟩

theorem euclid_any (S S' : Nat → Prop) (zb rb b1 o1 b2 o2 : Nat) (n1 n2 : Bool) (y : Nat) (xs : List Int) (hy0 : 0 < y) (hy1 : y < 18446744073709551616) (h2 : 2 ≤ xs.length ∨ y = 1 ∧ 0 < xs.length) (hn : xs.length ≤ 1000000) (hX : WL xs) (w : World)
    (hz : Blk w zb 189 #[.bool false, .slice none 0 0]) (hr : Blk w rb 189 #[.bool false, .slice none 0 0]) (hne : zb ≠ rb)
    (hx : BigV w S b1 o1 n1 xs) (hy : BigV w S' b2 o2 n2 [(y : Int)]) (hS : ∀ k, S k → k < w.heap.size ∧ ¬ (k = zb ∨ k = rb)) (hS' : ∀ k, S' k → k < w.heap.size ∧ ¬ (k = zb ∨ k = rb)) :
    Calls Tryz.prog 199 #[.pointer (some ⟨b1, o1, none⟩), .pointer (some ⟨b2, o2, none⟩), .pointer none, .pointer none, .pointer (some ⟨zb, 0, none⟩), .pointer (some ⟨rb, 0, none⟩), .bool false] w fun e w' =>
      e = .returned (.tuple #[.pointer (some ⟨b2, o2, none⟩), .pointer (some ⟨rb, 0, none⟩), .pointer (some ⟨b1, o1, none⟩), .pointer none, .pointer none]) ∧ QuoOut zb rb y n1 (nv xs % (y : Int)) xs w w' := by
  have H := Lib.hid (quoRem_any S S' zb rb b1 o1 b2 o2 n1 n2 y xs hy0 hy1 h2 hn hX w hz hr hne hx hy hS hS')
  obtain ⟨rm, hrm⟩ : ∃ r, r = nv xs % (y : Int) := ⟨_, rfl⟩
  rw [← hrm] at H ⊢
  clear hrm hz hr hx hy hS hS' hX h2
  go_enter Tryz.func199, Tryz.ntmps199
  go_wp2_with fail
  refine H.out.mono ?_
  rintro e w1 ⟨rfl, hn⟩
  have HN := Lib.hid hn
  clear hn
  go_wp2
  exact bodyPost_ret (v := .tuple #[.pointer (some ⟨b2, o2, none⟩), .pointer (some ⟨rb, 0, none⟩), .pointer (some ⟨b1, o1, none⟩), .pointer none, .pointer none]) (by simp [results, Tryz.results199, go_sem]) rfl ⟨rfl, HN.out⟩
end Go.Proofs.YtloloifngbmibaaGreatDoor
