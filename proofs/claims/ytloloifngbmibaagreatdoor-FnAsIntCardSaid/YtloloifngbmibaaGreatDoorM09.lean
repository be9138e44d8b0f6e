/- Walks of mulAddWW and mul into nothing. Walks of divWVW, divW, div by one word, from nothing: the remainder. Walks of divW and div by one word, from nothing. -/
import Derived.Test.YtloloifngbmibaaGreatDoorM07
import Derived.Test.YtloloifngbmibaaGreatDoorM08
import Derived.Test.YtloloifngbmibaaGreatDoorM05
set_option linter.unusedVariables false
set_option maxRecDepth 4000
namespace Go.Proofs.YtloloifngbmibaaGreatDoor
open Go.RowKit

/-- A new magnitude. -/
def NewN (w : World) (v : Value) (ps : List Int) (w' : World) : Prop := SlV w' (Nw w w') .u64 v ps ∧ Below w.heap.size w w' ∧ WL ps ∧ Nrm ps
theorem NewN.nil (w : World) : NewN w (.slice none 0 0) [] w := ⟨SlV.nil _ _ _, Below.refl _ _, WL.nil, trivial⟩
theorem NewN.late {w W w' : World} {v : Value} {ps : List Int} (h : NewN W v ps w') (hb : Below w.heap.size w W) : NewN w v ps w' :=
  ⟨h.1.mono (fun k hk => nw_late hb hk), below_up hb h.2.1, h.2.2⟩
theorem WB.sl {W : World} {S : Nat → Prop} {g c : Nat} {P zs : List Int} (h : WB W g (P ++ zs)) (hS : S g) (hc : P.length ≤ c) : SlV W S .u64 (.slice (some ⟨g, 0, none⟩) (nrm P).length c) (nrm P) := by
  refine ⟨_, c, rfl, Nat.le_trans (nrm_le P) hc, ?_⟩
  have h1 : (P ++ zs).drop 0 = nrm P ++ (P.drop (nrm P).length ++ zs) := by
    rw [List.drop_zero, ← List.append_assoc]
    congr 1
    have := List.take_append_drop (nrm P).length P
    rw [← nrm_pre] at this
    exact this.symm
  exact (h.rd h1).mono (fun k hk => by rw [hk]; exact hS)
theorem NewN.of {w w' : World} {o : Obj} {c : Nat} {P zs : List Int} (h : WB w' w.heap.size (P ++ zs)) (hg : (w.alloc o).grownBy w' (some w.heap.size)) (hc : P.length ≤ c) (hP : WL P) : NewN w (.slice (some ⟨w.heap.size, 0, none⟩) (nrm P).length c) (nrm P) w' := by
  refine ⟨h.sl ⟨Nat.le_refl _, h.lt⟩ hc, ?_, hP.nrm, nrm_nrm P⟩
  exact ((Below.refl _ _).alloc (Nat.le_refl _) _).grown hg (by simp) (fun k hk => by injection hk with hk; omega)
theorem WB.made (w : World) (n : Nat) : WB (w.alloc (.cells (madeCells #[.int .u64 0] n) 236)) w.heap.size (List.replicate n 0) := by
  have := Blk.new w 236 (madeCells #[.int .u64 0] n)
  rw [madeCells_one] at this
  unfold WB
  rw [madeCells_one]
  simpa [ints] using this

theorem mulAddWW_nil (S : Nat → Prop) (A : Option Addr) (c : Nat) (y : Int) (xs : List Int) (hy : 0 ≤ y ∧ y < 18446744073709551616) (hn : xs.length ≤ 1000000) (hX : WL xs) (w : World) (hr : Rd w S A (ints .u64 xs)) (hS : ∀ k, S k → k < w.heap.size) :
    Calls Tryz.prog 171 #[.slice none 0 0, .slice A xs.length c, .int .u64 y, .int .u64 0] w fun e w' => ∃ v ps, e = .returned v ∧ NewN w v ps w' ∧ nv ps = nv xs * y := by
  by_cases h0 : xs.length = 0
  · have : xs = [] := List.eq_nil_of_length_eq_zero h0
    subst this
    clear hr hS hX
    go_enter Tryz.func171, Tryz.ntmps171
    go_wp2_with (go_at_call 133; refine (setWord_nil0 _).mono ?_; rintro e w' ⟨rfl, rfl⟩)
    go_ret
    exact ⟨_, [], rfl, NewN.nil _, by simp [nv]⟩
  · obtain ⟨m, hm'⟩ : ∃ m, m = xs.length := ⟨_, rfl⟩
    rw [← hm'] at hn h0 ⊢
    have e0 : ((m : Int) == 0) = false := beq_no (by omega)
    have HM := Lib.hid hm'
    have HX := Lib.hid hX
    have HR := Lib.hid hr
    have HS := Lib.hid hS
    clear hr hS hX hm'
    by_cases hy0 : y = 0
    · subst hy0
      clear h0
      go_enter Tryz.func171, Tryz.ntmps171
      go_wp2_with (go_at_call 133; refine (setWord_nil0 _).mono ?_; rintro e w' ⟨rfl, rfl⟩)
      go_ret
      exact ⟨_, [], rfl, NewN.nil _, by simp [nv]⟩
    · have e1 := beq_no hy0
      have HY := Lib.hid hy
      have HMK := Lib.hid (make_niln (m + 1) (by omega) (by omega) w)
      have HC : Hid (Calls Tryz.prog 183 #[.slice (some ⟨w.heap.size, 0, none⟩) m (m + 1 + 4), .slice A m c, .int .u64 y, .int .u64 0] (w.alloc (.cells (madeCells #[.int .u64 0] (m + 1 + 4)) 236)) fun e w' =>
          ∃ (o : List Int) (cy : Int), e = .returned (.int .u64 cy) ∧ Hid (o.length = m) ∧ Hid (WL o) ∧ Hid (0 ≤ cy ∧ cy < 18446744073709551616) ∧ Hid (nv o + 18446744073709551616 ^ m * cy = nv xs * y) ∧ Hid (WB w' w.heap.size (o ++ 0 :: List.replicate 4 0)) ∧ Hid ((w.alloc (.cells (madeCells #[.int .u64 0] (m + 1 + 4)) 236)).grownBy w' (some w.heap.size)) ∧ w'.cell? ⟨w.heap.size, m, none⟩ = some (.int .u64 0) ∧ w'.frozen? ⟨w.heap.size, m, none⟩ = false) := Lib.hid (by
        have hal := HR.out.keep (still_below (below_al (Below.refl w.heap.size w) (.cells (madeCells #[.int .u64 0] (m + 1 + 4)) 236)) HS.out)
        have h := mulAddVWW_top S A w.heap.size c (m + 1 + 4) y 0 xs (List.replicate (m + 1 + 4) 0) HY.out ⟨by omega, by omega⟩ (by rw [← HM.out]; omega) HX.out (by rw [List.length_replicate, ← HM.out]; omega) (w.alloc (.cells (madeCells #[.int .u64 0] (m + 1 + 4)) 236)) hal (fun k hk => by have := HS.out k hk; omega) (WB.made w _)
        rw [← HM.out] at h
        refine h.mono ?_
        rintro e w' ⟨o, cy, h1, h2, h3, h4, h5, h6, h7⟩
        rw [List.drop_replicate, show m + 1 + 4 - m = 4 + 1 by omega, List.replicate_succ] at h6
        refine ⟨o, cy, h1, Lib.hid h2, Lib.hid h3, Lib.hid h4, Lib.hid (by rw [h5]; omega), Lib.hid h6, Lib.hid h7, ?_, Blk.frozen h6 _⟩
        rw [h6.cell (by rw [List.length_append, h2]; simp), List.getElem?_append_right (by omega), h2]
        simp)
      have em : ((m + 1 : Nat) : Int) = (m : Int) + 1 := by omega
      rw [em] at HMK
      have b0 : m ≤ m + 1 + 4 := by omega
      clear h0 hy0 em
      go_enter Tryz.func171, Tryz.ntmps171
      go_wp2_with fail
      refine HMK.out.mono ?_
      rintro e w1 ⟨rfl, rfl⟩
      go_wp2_with fail
      refine HC.out.mono ?_
      rintro e w1 ⟨o, cy, rfl, h1, h2, h3, h4, h5, h6, c0, f0⟩
      have hB : WB (w1.setCell ⟨w.heap.size, m, none⟩ (.int .u64 cy)) w.heap.size (o ++ [cy] ++ List.replicate 4 0) := by
        have h := h5.out.set m cy
        have e := set_mid [] o (List.replicate 4 0) 0 cy m (by simp [h1.out])
        simp only [List.nil_append] at e
        rw [e] at h
        exact h
      have hlen : (o ++ [cy]).length = m + 1 := by simp [h1.out]
      have HNO := norm_any (fun k => k = w.heap.size) (some ⟨w.heap.size, 0, none⟩) (m + 1 + 4) (o ++ [cy]) (by omega) (by omega) (w1.setCell ⟨w.heap.size, m, none⟩ (.int .u64 cy)) (hB.rd (zs := List.replicate 4 0) (by simp))
      rw [hlen] at HNO
      have HNH := Lib.hid HNO
      have HB := Lib.hid hB
      have HL := Lib.hid hlen
      have hgl := h5.out.lt
      have b1 : m < m + 1 := by omega
      clear hB hlen HNO
      go_wp2_with fail
      refine HNH.out.mono ?_
      rintro e w2 ⟨rfl, rfl⟩
      go_wp2
      go_ret
      refine ⟨_, nrm (o ++ [cy]), rfl, NewN.of HB.out (only_set h6.out _ _) (by rw [HL.out]; omega) (h2.out.app (WL.one h3.out.1 h3.out.2)), ?_⟩
      rw [nv_nrm, nv_snoc, h1.out]
      exact h4.out

/-- mul into nothing, of a longer one by a shorter one. -/
theorem mul_ge (S S' : Nat → Prop) (A A' : Option Addr) (c c' : Nat) (stk : Value) (hstk : stk.oneCell' = true) (xs ys : List Int) (hn : xs.length ≤ 1000000) (hle : ys.length ≤ xs.length) (hk : ys.length < 40) (hX : WL xs) (hY : WL ys) (w : World) (hr : Rd w S A (ints .u64 xs)) (hr' : Rd w S' A' (ints .u64 ys)) (hS : ∀ k, S k → k < w.heap.size) (hS' : ∀ k, S' k → k < w.heap.size) (hG : w.cell? ⟨2, 0, none⟩ = some (.int .i64 40)) :
    Calls Tryz.prog 167 #[.slice none 0 0, stk, .slice A xs.length c, .slice A' ys.length c'] w fun e w' => ∃ v ps, e = .returned v ∧ NewN w v ps w' ∧ nv ps = nv xs * nv ys := by
  obtain ⟨m, hm'⟩ : ∃ m, m = xs.length := ⟨_, rfl⟩
  obtain ⟨n, hn'⟩ : ∃ n, n = ys.length := ⟨_, rfl⟩
  rw [← hm'] at hn hle ⊢
  rw [← hn'] at hle hk ⊢
  have HM := Lib.hid hm'
  have HN := Lib.hid hn'
  have HX := Lib.hid hX
  have HY := Lib.hid hY
  have HR := Lib.hid hr
  have HR' := Lib.hid hr'
  have HS := Lib.hid hS
  have HS' := Lib.hid hS'
  have e0 := dec_no (show ¬ (m : Int) < (n : Int) by omega)
  clear hr hS hX hm' hr' hS' hY hn'
  by_cases h0 : n = 0
  · subst h0
    have HG := Lib.hid hG
    have hys : Hid (ys = []) := Lib.hid (List.eq_nil_of_length_eq_zero HN.out.symm)
    clear hG hle
    by_cases hm0 : m = 0
    · have e1 : ((m : Int) == 0) = true := by simp [hm0]
      go_enter Tryz.func167, Tryz.ntmps167
      go_wp2
      go_ret
      exact ⟨_, [], rfl, NewN.nil _, by rw [hys.out]; simp [nv]⟩
    · have e1 : ((m : Int) == 0) = false := beq_no (by omega)
      clear hm0
      go_enter Tryz.func167, Tryz.ntmps167
      go_wp2
      go_ret
      exact ⟨_, [], rfl, NewN.nil _, by rw [hys.out]; simp [nv]⟩
  · by_cases h1 : n = 1
    · subst h1
      obtain ⟨b, ofs, hA, hSb, hc⟩ := rd_int HR'.out (j := 0) (by rw [← HN.out]; omega)
      cases hA
      obtain ⟨y, hy⟩ : ∃ y, y = ys[0]?.getD 0 := ⟨_, rfl⟩
      have hyb := HY.out.at_ 0
      rw [← hy] at hc hyb
      have hyv : nv ys = y := by
        rw [hy]
        match ys, HN.out with
        | [z], _ => simp [nv]
      have HYV := Lib.hid hyv
      have HMW := Lib.hid (mulAddWW_nil S A c y xs hyb (by rw [← HM.out]; omega) HX.out w HR.out HS.out)
      rw [← HM.out] at HMW
      have e1 : ((m : Int) == 0) = false := beq_no (by omega)
      have e5 := dec_no (show ¬ (m : Int) < 1 by omega)
      have HG := Lib.hid hG
      simp only [Nat.add_zero] at hc
      clear hG hle hy hyb hyv h0
      go_enter Tryz.func167, Tryz.ntmps167
      go_wp2_with fail
      refine HMW.out.mono ?_
      rintro e w1 ⟨v, ps, rfl, hv, hp⟩
      have HV := Lib.hid hv
      have HP := Lib.hid hp
      obtain ⟨A1, c1, rfl, _⟩ := hv.1
      clear hv hp
      go_wp2
      go_ret
      exact ⟨_, ps, rfl, HV.out, by rw [HP.out, HYV.out]⟩
    · have e1 : ((m : Int) == 0) = false := beq_no (by omega)
      have e2 : ((n : Int) == 0) = false := beq_no (by omega)
      have e3 : ((n : Int) == 1) = false := beq_no (by omega)
      have HMK := Lib.hid (make_niln (m + n) (by omega) (by omega))
      have em : ((m + n : Nat) : Int) = (m : Int) + (n : Int) := by omega
      rw [em] at HMK
      clear em
      go_enter Tryz.func167, Tryz.ntmps167
      go_wp2_with (go_at_call 172; refine (alias_nil _ _ _ _).mono ?_; rintro e w' ⟨rfl, q, rfl⟩)
      generalize hW : w.drewN _ = W0
      have HB0 : Hid (Below w.heap.size w W0) := Lib.hid (by rw [← hW]; exact below_drewN' (Below.refl _ _) _)
      have hsz : W0.heap.size = w.heap.size := by rw [← hW]; rfl
      clear hW
      have hgl := World.block_lt_of_cell? w _ hG
      have hg0 : W0.cell? ⟨2, 0, none⟩ = some (.int .i64 40) := (HB0.out.cell hgl).trans hG
      have hg1 := (World.cell?_alloc_lt W0 (.cells (madeCells #[.int .u64 0] (m + n + 4)) 236) ⟨2, 0, none⟩ (by rw [hsz]; exact hgl)).trans hg0
      have hal := below_al (Below.refl W0.heap.size W0) (.cells (madeCells #[.int .u64 0] (m + n + 4)) 236)
      have hSa : ∀ k, S k → k < W0.heap.size := fun k hk => by rw [hsz]; exact HS.out k hk
      have hSb : ∀ k, S' k → k < W0.heap.size := fun k hk => by rw [hsz]; exact HS'.out k hk
      have hr1 := (HR.out.keep (still_below HB0.out HS.out)).keep (still_below hal hSa)
      have hr2 := (HR'.out.keep (still_below HB0.out HS'.out)).keep (still_below hal hSb)
      have HBM := basicMul_any S S' A A' W0.heap.size c c' (m + n + 4) xs ys (List.replicate (m + n) 0) (List.replicate 4 0) (by rw [← HM.out]; exact hn) (by rw [← HN.out]; omega) HX.out HY.out (by rw [← HM.out]; omega) (by simp [HM.out, HN.out]) (by simp) (W0.alloc (.cells (madeCells #[.int .u64 0] (m + n + 4)) 236)) hr1 hr2 (fun k hk => by have := hSa k hk; omega) (fun k hk => by have := hSb k hk; omega) (fun k hk => by have := hSa k hk; simp; omega) (by rw [List.replicate_append_replicate]; exact WB.made W0 (m + n + 4))
      rw [List.length_replicate, ← HM.out, ← HN.out] at HBM
      have HBH := Lib.hid HBM
      have e4 := dec_yes (show (n : Int) < 40 by omega)
      have HSZ := Lib.hid hsz
      clear hr1 hr2 hSa hSb hal hg0 hgl hG HBM hsz
      refine (HMK.out _).mono ?_
      rintro e w1 ⟨rfl, rfl⟩
      go_wp2_with fail
      refine HBH.out.mono ?_
      rintro e w2 ⟨rfl, o, hol, how, hnv, hwb, hgr⟩
      have HNO := norm_any (fun k => k = W0.heap.size) (some ⟨W0.heap.size, 0, none⟩) (m + n + 4) o (by omega) (by omega) w2 (hwb.rd (zs := List.replicate 4 0) (by simp))
      rw [hol] at HNO
      have HNH := Lib.hid HNO
      have HOL := Lib.hid hol
      have HOW := Lib.hid how
      have HNV := Lib.hid hnv
      have HWB := Lib.hid hwb
      have HGR := Lib.hid hgr
      clear hol how hnv hwb hgr HNO
      go_wp2_with fail
      refine HNH.out.mono ?_
      rintro e w2 ⟨rfl, rfl⟩
      go_wp2
      go_ret
      refine ⟨_, nrm o, rfl, (NewN.of HWB.out HGR.out (by rw [HOL.out]; omega) HOW.out).late HB0.out, ?_⟩
      rw [nv_nrm]
      exact HNV.out

/-- mul into nothing. -/
theorem mul_any (S S' : Nat → Prop) (A A' : Option Addr) (c c' : Nat) (stk : Value) (hstk : stk.oneCell' = true) (xs ys : List Int) (hn : xs.length ≤ 1000000) (hn' : ys.length ≤ 1000000) (hk : xs.length < 40 ∨ ys.length < 40) (hX : WL xs) (hY : WL ys) (w : World) (hr : Rd w S A (ints .u64 xs)) (hr' : Rd w S' A' (ints .u64 ys)) (hS : ∀ k, S k → k < w.heap.size) (hS' : ∀ k, S' k → k < w.heap.size) (hG : w.cell? ⟨2, 0, none⟩ = some (.int .i64 40)) :
    Calls Tryz.prog 167 #[.slice none 0 0, stk, .slice A xs.length c, .slice A' ys.length c'] w fun e w' => ∃ v ps, e = .returned v ∧ NewN w v ps w' ∧ nv ps = nv xs * nv ys := by
  by_cases hle : ys.length ≤ xs.length
  · exact mul_ge S S' A A' c c' stk hstk xs ys hn hle (by omega) hX hY w hr hr' hS hS' hG
  · have H := Lib.hid (mul_ge S' S A' A c' c stk hstk ys xs hn' (by omega) (by omega) hY hX w hr' hr hS' hS hG)
    have e0 := dec_yes (show (xs.length : Int) < (ys.length : Int) by omega)
    clear hr hr' hS hS' hG hX hY hk hn hn'
    go_enter Tryz.func167, Tryz.ntmps167
    go_wp2_with fail
    refine H.out.mono ?_
    rintro e w1 ⟨v, ps, rfl, hv, hp⟩
    have HV := Lib.hid hv
    have HP := Lib.hid hp
    obtain ⟨A1, c1, rfl, _⟩ := hv.1
    clear hv hp
    go_wp2
    go_ret
    exact ⟨_, ps, rfl, HV.out, by rw [HP.out, Int.mul_comm]⟩
end Go.Proofs.YtloloifngbmibaaGreatDoor
set_option linter.unusedVariables false
set_option maxRecDepth 4000
namespace Go.Proofs.YtloloifngbmibaaGreatDoor
open Go.RowKit

/-- A step of a long division, from the high end. -/
theorem rem_step {xs : List Int} {k : Nat} {x y r : Int} (hk : k < xs.length) (ex : xs[k]?.getD 0 = x) (hr : r = nv (xs.drop (k + 1)) % y) : (r * 18446744073709551616 + x) % y = nv (xs.drop k) % y := by
  have e : xs.drop k = x :: xs.drop (k + 1) := by
    rw [List.drop_eq_getElem_cons hk]
    simp [hk] at ex
    rw [ex]
  rw [e, hr]
  simp only [nv]
  rw [Int.add_emod, Int.mul_emod, Int.emod_emod_of_dvd _ (Int.dvd_refl y), ← Int.mul_emod, ← Int.add_emod]
  congr 1
  omega

theorem divWVW_any (S : Nat → Prop) (A : Option Addr) (g c cz : Nat) (y : Nat) (xs zs : List Int) (hy0 : 0 < y) (hy1 : y < 18446744073709551616) (h2 : 2 ≤ xs.length) (hn : xs.length ≤ 1000000) (hX : WL xs) (hz : zs.length = xs.length) (post : List Int) (w : World) (hr : Rd w S A (ints .u64 xs)) (hS : ∀ k, S k → k ≠ g)
    (hg : WB w g (zs ++ post)) :
    Calls Tryz.prog 216 #[.slice (some ⟨g, 0, none⟩) xs.length cz, .int .u64 0, .slice A xs.length c, .int .u64 y] w fun e w' =>
      e = .returned (.int .u64 (nv xs % (y : Int))) ∧ (∃ zs' : List Int, zs'.length = xs.length ∧ WB w' g (zs' ++ post)) ∧ w.grownBy w' (some g) := by
  obtain ⟨n, hn'⟩ : ∃ n, n = xs.length := ⟨_, rfl⟩
  rw [← hn'] at hz hn h2 ⊢
  have HR := Lib.hid hr
  have HX := Lib.hid hX
  have HS := Lib.hid hS
  have HN := Lib.hid hn'
  have HREC := Lib.hid (fun w => reciprocalWord_any y hy0 hy1 w)
  have e0 : ((n : Int) == 1) = false := beq_no (by omega)
  obtain ⟨n1, hn1⟩ : ∃ n1, n = n1 + 1 := ⟨n - 1, by omega⟩
  have en : (n : Int) - 1 = (n1 : Int) := by omega
  clear hr hX hS hn' h2
  go_enter Tryz.func216, Tryz.ntmps216
  go_wp2_with (go_at_call 230; refine (HREC.out _).mono ?_; rintro e w' ⟨rfl, m, rfl⟩)
  obtain ⟨V, hV⟩ : ∃ V, V = invV y - 18446744073709551616 := ⟨_, rfl⟩
  have HV := Lib.hid hV
  rw [← hV]
  clear hV en e0
  subst hn1
  go_loopw [8, 12] (fun rv i wr => ∃ (k r : Nat) (cur : List Int), k ≤ n1 + 1 ∧ ((k = 0 ∧ i = .int .i64 (-1)) ∨ ∃ j : Nat, k = j + 1 ∧ i = .int .i64 j) ∧ rv = .int .u64 r ∧ Hid ((r : Int) = nv (xs.drop k) % (y : Int)) ∧ Hid (r < y) ∧ Hid (cur.length = n1 + 1) ∧ Hid (WB wr g (cur ++ post)) ∧ Hid (w.grownBy wr (some g))) (fun _ i _ => (intOf i + 1).toNat)
  case atStart =>
    refine ⟨n1 + 1, 0, zs, Nat.le_refl _, .inr ⟨n1, rfl, ?_⟩, ?_, Lib.hid ?_, Lib.hid hy0, Lib.hid hz, Lib.hid (hg.drewN _), Lib.hid (grown_drewN (World.grownBy.refl _ _) _)⟩
    · simp
    · rfl
    · rw [List.drop_eq_nil_of_le (by rw [← HN.out]; exact Nat.le_refl _)]
      simp [nv]
  case round =>
    obtain ⟨k, r, cur, hk, hki, rfl, hr, hry, hcl, hb, hgr⟩ := hrel
    rcases hki with ⟨rfl, rfl⟩ | ⟨j, rfl, rfl⟩
    · have HR0 : Hid ((r : Int) = nv xs % (y : Int)) := Lib.hid (by have := hr.out; simpa using this)
      go_wp2
      go_ret
      refine ⟨by rw [HR0.out]; rfl, ⟨cur, hcl.out, hb.out⟩, hgr.out⟩
    · obtain ⟨b, ofs, hA, hSb, hc⟩ := rd_int HR.out (j := j) (by rw [← HN.out]; omega)
      cases hA
      have hcell := hgr.out.cell hc (by have := HS.out b hSb; simpa using this)
      obtain ⟨x, hx⟩ : ∃ x, x = xs[j]?.getD 0 := ⟨_, rfl⟩
      have hxb := HX.out.at_ j
      rw [← hx] at hcell hxb
      obtain ⟨X, rfl⟩ := Int.eq_ofNat_of_zero_le hxb.1
      have hX1 : X < 18446744073709551616 := by have := hxb.2; omega
      have HD := Lib.hid (fun w => divWW_any r X y hy0 hy1 hry.out hX1 w)
      rw [← HV.out] at HD
      have hst := rem_step (y := (y : Int)) (r := (r : Int)) (by rw [← HN.out]; omega) hx.symm hr.out
      obtain ⟨r2, hr2⟩ : ∃ r2, r2 = (r * 18446744073709551616 + X) % y := ⟨_, rfl⟩
      rw [← hr2] at HD
      have HR2 : Hid ((r2 : Int) = nv (xs.drop j) % (y : Int) ∧ r2 < y) := Lib.hid ⟨by
        rw [← hst, hr2]
        simp, by rw [hr2]; exact Nat.mod_lt _ hy0⟩
      have hjl : j < (cur ++ post).length := by rw [List.length_append, hcl.out]; omega
      have c0 := hb.out.cell hjl
      have f0 := Blk.frozen hb.out j
      obtain ⟨u, hu⟩ : ∃ u, u = (cur ++ post)[j]?.getD 0 := ⟨_, rfl⟩
      rw [← hu] at c0
      have HJ := Lib.hid hk
      have hj1 : (j : Int) < (n1 : Int) + 1 := by omega
      have hj2 : j < n1 + 1 := by omega
      clear hx hxb hc hX1 hst hr2 hjl hu hk
      go_wp2_with fail
      refine (HD.out _).mono ?_
      rintro e w' ⟨q, rfl, rfl⟩
      have HWB : Hid (WB (w'.setCell ⟨g, j, none⟩ (.int .u64 q)) g (cur.set j q ++ post)) := Lib.hid (by
        have h := hb.out.set j q
        rwa [List.set_append_left _ _ (by rw [hcl.out]; exact hj2)] at h)
      have HLN : Hid ((cur.set j q).length = n1 + 1) := Lib.hid (by rw [List.length_set]; exact hcl.out)
      rcases j with _ | j
      · go_wp2
        go_roundw
        case rel => exact ⟨0, r2, cur.set 0 q, Nat.zero_le _, .inl ⟨rfl, rfl⟩, rfl, Lib.hid HR2.out.1, Lib.hid HR2.out.2, HLN, HWB, Lib.hid (only_set hgr.out _ _)⟩
        case measure => simp [intOf]
      · go_wp2
        go_roundw
        case rel => exact ⟨j + 1, r2, cur.set (j + 1) q, by omega, .inr ⟨j, rfl, by simp⟩, rfl, Lib.hid HR2.out.1, Lib.hid HR2.out.2, HLN, HWB, Lib.hid (only_set hgr.out _ _)⟩
        case measure => simp [intOf]; omega
end Go.Proofs.YtloloifngbmibaaGreatDoor
set_option linter.unusedVariables false
set_option maxRecDepth 4000
namespace Go.Proofs.YtloloifngbmibaaGreatDoor
open Go.RowKit

theorem Copied.sl {w w' : World} {xs : List Int} {v : Value} (h : Copied w xs v w') : SlV w' (Nw w w') .u64 v xs ∧ Below w.heap.size w w' := by
  obtain ⟨zs, rfl, rfl⟩ := h
  refine ⟨⟨_, _, rfl, by simp, ?_⟩, (Below.refl _ _).alloc (Nat.le_refl _) _⟩
  have hb := Blk.new w 236 (ints .u64 (xs ++ zs)).toArray
  have hb2 : WB (w.alloc (.cells (ints .u64 (xs ++ zs)).toArray 236)) w.heap.size (xs ++ zs) := hb
  exact (hb2.rd (o := 0) (zs := zs) (by simp)).mono (fun k hk => by rw [hk]; exact ⟨Nat.le_refl _, hb2.lt⟩)

theorem divW_any (S : Nat → Prop) (A : Option Addr) (c : Nat) (y : Nat) (xs : List Int) (hy0 : 0 < y) (hy1 : y < 18446744073709551616) (h2 : 2 ≤ xs.length ∨ y = 1 ∧ 0 < xs.length) (hn : xs.length ≤ 1000000) (hX : WL xs) (w : World) (hr : Rd w S A (ints .u64 xs)) (hS : ∀ k, S k → k < w.heap.size) :
    Calls Tryz.prog 203 #[.slice none 0 0, .slice A xs.length c, .int .u64 y] w fun e w' =>
      ∃ qv qs, e = .returned (.tuple #[qv, .int .u64 (nv xs % (y : Int))]) ∧ SlV w' (Nw w w') .u64 qv qs ∧ Below w.heap.size w w' ∧ (y = 1 → qs = xs) := by
  have e1 : ((y : Int) == 0) = false := beq_no (by omega)
  have hpos : 0 < xs.length := by omega
  by_cases h1 : y = 1
  · subst h1
    have H := Lib.hid (set_nil S A c xs hpos (by omega) w hr)
    have H0 := Lib.hid (show nv xs % ((1 : Nat) : Int) = 0 from Int.emod_one _)
    clear hr hS hX h2 hpos
    go_enter Tryz.func203, Tryz.ntmps203
    go_wp2_with fail
    refine H.out.mono ?_
    rintro e w' ⟨v, rfl, hv⟩
    have HC := Lib.hid hv.sl
    obtain ⟨zs, rfl, hw⟩ := hv
    clear hw
    go_wp2
    exact bodyPost_ret (v := .tuple #[.slice (some ⟨w.heap.size, 0, none⟩) xs.length (xs ++ zs).length, .int .u64 0]) (by simp [results, Tryz.results203, go_sem]) rfl ⟨_, xs, by rw [H0.out], HC.out.1, HC.out.2, fun _ => rfl⟩
  · obtain ⟨n, hn'⟩ : ∃ n, n = xs.length := ⟨_, rfl⟩
    have hn2 : 2 ≤ n := by omega
    rw [← hn'] at hn ⊢
    have HN := Lib.hid hn'
    have e2 : ((y : Int) == 1) = false := beq_no (by omega)
    have e3 : ((n : Int) == 0) = false := beq_no (by omega)
    have HMK := Lib.hid (make_niln n hn2 (by omega) w)
    have hal := below_al (Below.refl w.heap.size w) (.cells (madeCells #[.int .u64 0] (n + 4)) 236)
    have HD := divWVW_any S A w.heap.size c (n + 4) y xs (List.replicate n 0) hy0 hy1 (by omega) (by omega) hX (by rw [List.length_replicate, hn']) (List.replicate 4 0) (w.alloc (.cells (madeCells #[.int .u64 0] (n + 4)) 236)) (hr.keep (still_below hal hS)) (fun k hk => by have := hS k hk; omega) (by rw [List.replicate_append_replicate]; exact WB.made w (n + 4))
    rw [← hn'] at HD
    have HDH := Lib.hid HD
    obtain ⟨rm, hrm⟩ : ∃ r, r = nv xs % (y : Int) := ⟨_, rfl⟩
    rw [← hrm] at HDH ⊢
    clear HD hal hr hS hX hn' h2 hpos hrm
    go_enter Tryz.func203, Tryz.ntmps203
    go_wp2_with fail
    refine HMK.out.mono ?_
    rintro e w1 ⟨rfl, rfl⟩
    go_wp2_with fail
    refine HDH.out.mono ?_
    rintro e w1 ⟨rfl, ⟨zs', hzl, hwb⟩, hgr⟩
    have HNO := norm_any (fun k => k = w.heap.size) (some ⟨w.heap.size, 0, none⟩) (n + 4) zs' (by omega) (by omega) w1 (hwb.rd (zs := List.replicate 4 0) (by simp))
    rw [hzl] at HNO
    have HNH := Lib.hid HNO
    have HZL := Lib.hid hzl
    have HWB := Lib.hid hwb
    have HGR := Lib.hid hgr
    clear hzl hwb hgr HNO
    go_wp2_with fail
    refine HNH.out.mono ?_
    rintro e w2 ⟨rfl, rfl⟩
    go_wp2
    refine bodyPost_ret (v := .tuple #[.slice (some ⟨w.heap.size, 0, none⟩) (nrm zs').length (n + 4), .int .u64 rm]) (by simp [results, Tryz.results203, go_sem]) rfl ⟨_, nrm zs', rfl, HWB.out.sl ⟨Nat.le_refl _, HWB.out.lt⟩ (by rw [HZL.out]; omega), ?_, fun h => absurd h h1⟩
    exact ((Below.refl _ _).alloc (Nat.le_refl _) _).grown HGR.out (by simp) (fun k hk => by injection hk with hk; omega)

/-- A word as a magnitude. -/
def wordL (r : Int) : List Int := if r = 0 then [] else [r]
theorem setWord_nil (r : Int) (w : World) :
    Calls Tryz.prog 133 #[.slice none 0 0, .int .u64 r] w fun e w' => ∃ v, e = .returned v ∧ SlV w' (Nw w w') .u64 v (wordL r) ∧ Below w.heap.size w w' := by
  by_cases h : r = 0
  · subst h
    refine (setWord_nil0 w).mono ?_
    rintro e w' ⟨rfl, rfl⟩
    exact ⟨_, rfl, SlV.nil _ _ _, Below.refl _ _⟩
  · refine (setWord_nil1 r h w).mono ?_
    rintro e w' ⟨rfl, rfl⟩
    refine ⟨_, rfl, ?_, (Below.refl _ _).alloc (Nat.le_refl _) _⟩
    have hb : WB (w.alloc (.cells #[.int .u64 r] 236)) w.heap.size [r] := Blk.new w 236 #[.int .u64 r]
    rw [show wordL r = [r] by simp [wordL, h]]
    exact ⟨_, 1, rfl, Nat.le_refl _, (hb.rd (o := 0) (zs := []) (by simp)).mono (fun k hk => by rw [hk]; exact ⟨Nat.le_refl _, hb.lt⟩)⟩

theorem div_any (S S' : Nat → Prop) (A A' : Option Addr) (c c' : Nat) (stk : Value) (hstk : stk.oneCell' = true) (y : Nat) (xs : List Int) (hy0 : 0 < y) (hy1 : y < 18446744073709551616) (h2 : 2 ≤ xs.length ∨ y = 1 ∧ 0 < xs.length) (hn : xs.length ≤ 1000000) (hX : WL xs) (w : World) (hr : Rd w S A (ints .u64 xs)) (hr' : Rd w S' A' (ints .u64 [(y : Int)])) (hS : ∀ k, S k → k < w.heap.size) :
    Calls Tryz.prog 182 #[.slice none 0 0, stk, .slice none 0 0, .slice A xs.length c, .slice A' 1 c'] w fun e w' =>
      ∃ qv qs rv, e = .returned (.tuple #[qv, rv]) ∧ SlV w' (Nw w w') .u64 qv qs ∧ SlV w' (Nw w w') .u64 rv (wordL (nv xs % (y : Int))) ∧ Below w.heap.size w w' ∧ (y = 1 → qs = xs) := by
  obtain ⟨b, ofs, hA, hSb, hc⟩ := rd_int hr' (j := 0) (by simp)
  cases hA
  simp at hc
  have H := Lib.hid (divW_any S A c y xs hy0 hy1 h2 hn hX w hr hS)
  obtain ⟨rm, hrm⟩ : ∃ r, r = nv xs % (y : Int) := ⟨_, rfl⟩
  rw [← hrm] at H ⊢
  have HSW := Lib.hid (fun w => setWord_nil rm w)
  clear hr hr' hS hX h2 hn hy0 hy1 hrm
  go_enter Tryz.func182, Tryz.ntmps182
  go_wp2_with fail
  refine H.out.mono ?_
  rintro e w1 ⟨qv, qs, rfl, hq, hb, h1⟩
  have HQ := Lib.hid hq
  have HB := Lib.hid hb
  have H1 := Lib.hid h1
  obtain ⟨Aq, cq, rfl, _⟩ := hq
  clear hb h1
  go_wp2_with fail
  refine (HSW.out _).mono ?_
  rintro e w2 ⟨rv, rfl, hr2, hb2⟩
  have HR2 := Lib.hid hr2
  have HB2 := Lib.hid hb2
  obtain ⟨Ar, cr, rfl, _⟩ := hr2
  clear hb2
  go_wp2
  refine bodyPost_ret (v := .tuple #[.slice Aq qs.length cq, .slice Ar (wordL rm).length cr]) (by simp [results, Tryz.results182, go_sem]) rfl ⟨_, qs, _, rfl, ?_, ?_, below_up HB.out HB2.out, H1.out⟩
  · exact (HQ.out.keep (still_below HB2.out (fun k hk => hk.2))).mono (fun k hk => nw_up HB2.out hk)
  · exact HR2.out.mono (fun k hk => nw_late HB.out hk)
end Go.Proofs.YtloloifngbmibaaGreatDoor
