/- The thin package's value. The language's Int.Int64 and Int.Uint64; errors.New. -/
import Derived.Test.YtloloifngbmibaaGreatDoorM40
set_option linter.unusedVariables false
set_option linter.unusedSimpArgs false
set_option maxRecDepth 4000
namespace Go.Proofs.YtloloifngbmibaaGreatDoor
open Go.RowKit

theorem keysOk {d a b st : Nat} {ts : List Tr} {ys : List Value} {w : World} (hf : FVsOf (FV false d) a b ts w ys) (hb : b ≤ w.heap.size) (hd : d ≤ 9) (hg : ∀ u ∈ ts, Good d u) (hk : KeysT d st ts) (hD : Dist d st ts) (hG : GL w) : KeysOk st ys w := by
  obtain ⟨hl, Bd, h0, h1, h2, h3⟩ := hf
  have hbd : ∀ i, i < ts.length → Bd (i + 1) ≤ w.heap.size := fun i hi => Nat.le_trans (bd_le h1 (show i + 1 ≤ ts.length by omega) (Nat.le_refl _)) (Nat.le_trans h2 hb)
  have hts : ∀ i y, ys[i]? = some y → i < ts.length ∧ ts[i]? = some (ts[i]?.getD tr0) := fun i y hy => by
    have hi : i < ts.length := by have := (List.getElem?_eq_some_iff.1 hy).1; omega
    rw [List.getElem?_eq_getElem hi]
    exact ⟨hi, rfl⟩
  refine ⟨fun i y him hy => ?_, fun i j y z hji him hjm hy hz W hW => ?_, fun y hy => ?_⟩
  · obtain ⟨hi, hu⟩ := hts i y hy
    have hv := (h3 i y _ hy hu).sval
    exact hashM_any d (M := Bd (i + 1)) ⟨w, Below.refl _ _⟩ (fun W hW => ⟨hv.keep (hW.mono (hbd i hi)), Nat.le_trans (hbd i hi) hW.size⟩) (hg _ (List.mem_of_getElem? hu)) (hk i _ him hu)
  · obtain ⟨hi, hu⟩ := hts i y hy
    obtain ⟨hj, hv⟩ := hts j z hz
    have s1 := (h3 i y _ hy hu).sval.keep (hW.mono (hbd i hi))
    have s2 := (h3 j z _ hz hv).sval.keep (hW.mono (hbd j hj))
    refine (eqS_any s1 s2 (Nat.le_trans (hbd i hi) hW.size) (Nat.le_trans (hbd j hj) hW.size) (hg _ (List.mem_of_getElem? hu)) (hg _ (List.mem_of_getElem? hv)) (hk i _ him hu) (hk j _ hjm hv) hd (hG.up hW)).mono (fun e w' h => ?_)
    obtain ⟨r, h4, h5, h6⟩ := h
    exact ⟨r, h4, fun hr => hD i j _ _ hji him hjm hu hv (h5 hr).symm, h6⟩
  · obtain ⟨i, hi⟩ := List.getElem?_of_mem hy
    obtain ⟨hi', hu⟩ := hts i y hi
    exact (h3 i y _ hi hu).ifc

theorem newList_any (A : Option Addr) (n c : Nat) (w : World) : Calls Tryz.prog 56 #[.slice A n c] w fun e w' => e = .returned (.pointer (some ⟨w.heap.size, 0, none⟩)) ∧ w' = w.alloc (.cells #[.slice A n c, .bool false, .int .u32 0] 158) := by
  go_enter Tryz.func56, Tryz.ntmps56
  go_wp2
  go_ret
  exact ⟨rfl, rfl⟩

section
variable {d : Nat} {t : Tr} {w w1 w2 w3 : World} {ys : List Value}
theorem ValsR.rd (h : ValsR d t.kids w1 t.kids.length t.kids.length ys w2) : Rd w2 (fun k => k = w1.heap.size) (some ⟨w1.heap.size, 0, none⟩) ys ∧ ys.length = t.kids.length := by
  have := ownsRow_rd h.row (fun k => k = w1.heap.size) rfl
  exact ⟨this.1, this.2.1⟩
theorem ValsR.fvs (h : ValsR d t.kids w1 t.kids.length t.kids.length ys w2) : FVsOf (FV false d) (w1.heap.size + 1) w2.heap.size t.kids w2 ys := by
  have := h.fv
  rw [List.take_length] at this
  exact this
theorem FV.mkTup (hk : t.k = 7) (h : ValsR d t.kids w1 t.kids.length t.kids.length ys w2) (hw : w.heap.size ≤ w1.heap.size) : FV false (d + 1) w.heap.size w2.heap.size t w2 (.iface 101 (.slice (some ⟨w1.heap.size, 0, none⟩) t.kids.length t.kids.length)) :=
  .inr (.inl ⟨hk, _, _, ys, w1.heap.size + 1, rfl, Nat.le_refl _, Nat.le_succ_of_le hw, h.rd.1.mono (fun k hk => by subst hk; exact ⟨hw, Nat.lt_succ_self _⟩), h.fvs⟩)
theorem FV.mkList (hk : t.k = 6) (h : ValsR d t.kids w1 t.kids.length t.kids.length ys w2) (hw : w.heap.size ≤ w1.heap.size) (hb : Below w2.heap.size w2 w3) (hB : Blk w3 w2.heap.size 158 #[.slice (some ⟨w1.heap.size, 0, none⟩) t.kids.length t.kids.length, .bool false, .int .u32 0]) :
    FV false (d + 1) w.heap.size w3.heap.size t w3 (.iface 99 (.pointer (some ⟨w2.heap.size, 0, none⟩))) :=
  .inr (.inr (.inl ⟨hk, _, _, ys, w1.heap.size + 1, w2.heap.size, rfl, hB, Nat.le_refl _, Nat.le_succ_of_le hw, h.big, hB.lt,
    (h.rd.1.keep (still_below hb (fun k hk => by subst hk; exact h.big))).mono (fun k hk => by subst hk; exact ⟨hw, Nat.lt_succ_self _⟩), h.fvs.keep (still_below hb (fun k hk => hk.2)) FV.keep⟩))
theorem FV.mkDict {es : List En} (hk : t.k = 8) (h : ValsR d t.kids w1 t.kids.length t.kids.length ys w2) (hw : w.heap.size ≤ w1.heap.size) (hd : DictR w2 ys t.kids.length es w3) :
    FV false (d + 1) w.heap.size w3.heap.size t w3 (.iface 102 (.pointer (some ⟨w2.heap.size, 0, none⟩))) := by
  refine .inr (.inr (.inr (.inl ⟨hk, es, w2.heap.size, rfl, hd.blk, Nat.le_trans hw (Nat.le_of_lt h.big), hd.blk.lt, hd.hz, ?_⟩)))
  have e1 := hd.fl
  rw [← h.rd.2, List.take_length] at e1
  rw [e1]
  exact (h.fvs.keep (still_below hd.low (fun k hk => hk.2)) FV.keep).wide (Nat.le_succ_of_le hw) (Nat.le_refl _)
theorem FV.mkSet {es : List En} (hk : t.k = 9) (h : ValsR d t.kids w1 t.kids.length t.kids.length ys w2) (hw : w.heap.size ≤ w1.heap.size) (hd : SetR w2 ys t.kids.length es w3) :
    FV false (d + 1) w.heap.size w3.heap.size t w3 (.iface 105 (.pointer (some ⟨w2.heap.size, 0, none⟩))) := by
  refine .inr (.inr (.inr (.inr ⟨hk, es, w2.heap.size, rfl, hd.blk, Nat.le_trans hw (Nat.le_of_lt h.big), hd.blk.lt, hd.hz, hd.hv, ?_⟩)))
  have e1 := hd.fl
  rw [← h.rd.2, List.take_length] at e1
  rw [e1]
  exact (h.fvs.keep (still_below hd.low (fun k hk => hk.2)) FV.keep).wide (Nat.le_succ_of_le hw) (Nat.le_refl _)
end

theorem value_leaf {d d' : Nat} {t : Tr} {x : Vc} {w : World} (h : HV d t x w) (g : GoodH t) (hk : t.k < 6) : Calls Tryz.prog 27 #[x.agg] w (MadeOut d' t w) := by
  obtain ⟨k, n, A, l, c, b, s, A', l', c', rfl⟩ := h.shape
  have hal : Below w.heap.size w (w.alloc (.cells (VcB ⟨k, n, .slice A l c, b, s, .slice A' l' c'⟩) 26)) := below_al (Below.refl _ _) _
  have e1 : k = t.k := by obtain ⟨S, h1, _⟩ := h; exact h1.head.k
  have HC := scalar_any (d' := d') (h.up hal) g hk
  rw [← e1] at hk HC
  replace HC := Lib.hid HC
  have HAL := Lib.hid hal
  clear h g e1 hal
  go_enter Tryz.func27, Tryz.ntmps27
  go_wp2_with fail
  refine HC.out.mono ?_
  rintro e w2 ⟨v, rfl, hv, hb⟩
  have HV := Lib.hid (hv.wide (a' := w.heap.size) HAL.out.size (Nat.le_refl _))
  have HB := Lib.hid (below_up HAL.out hb)
  clear hv hb HC HAL
  go_wp2
  go_ret2
  exact ⟨v, rfl, HV.out, HB.out⟩

theorem value_node {d : Nat} {t : Tr} {x : Vc} {w : World} (h : HV (d + 2) t x w) (g : Good (d + 1) t) (m : MakeT (d + 1) t) (hd : d ≤ 9) (hG : GL w) (hk : ¬ t.k < 6)
    (IH : ∀ u ∈ t.kids, ∀ (x : Vc) (W : World), Below w.heap.size w W → HV (d + 1) u x W → Calls Tryz.prog 27 #[x.agg] W (MadeOut d u W)) : Calls Tryz.prog 27 #[x.agg] w (MadeOut (d + 1) t w) := by
  obtain ⟨A2, c2, hq, hc2, hks⟩ := h.kids
  obtain ⟨k, n, A, l, c, b, s, A', l', c', rfl⟩ := h.shape
  have e1 : k = t.k := by obtain ⟨S, h1, _⟩ := h; exact h1.head.k
  simp only at hq
  injection hq with q1 q2 q3
  subst q1 q2 q3
  have hal : Below w.heap.size w (w.alloc (.cells (VcB ⟨k, n, .slice A l c, b, s, .slice A' t.kids.length c'⟩) 26)) := below_al (Below.refl _ _) _
  have HVS := Lib.hid (values_any d (c := c') g.head.kl (hks.up hal) (fun u hu x W hW hx => IH u hu x W (below_up hal hW) hx))
  have HAL := Lib.hid hal
  have hk9 := g.head.k.2
  have HG := Lib.hid (hG.up hal)
  have HGD := Lib.hid g
  have HMT := Lib.hid m
  have HD := Lib.hid hd
  rw [← e1] at hk hk9
  have HE1 := Lib.hid e1
  obtain ⟨nk, hnk⟩ : ∃ nk, nk = t.kids.length := ⟨_, rfl⟩
  have HBX := Lib.hid (Blk.new w 26 (VcB ⟨k, n, .slice A l c, b, s, .slice A' t.kids.length c'⟩))
  rw [← hnk] at HVS HAL HG HBX ⊢
  have HNK := Lib.hid hnk
  clear h hks g m hal IH e1 hd hG hc2 hnk
  have hsz : (w.alloc (.cells (VcB ⟨k, n, .slice A l c, b, s, .slice A' nk c'⟩) 26)).heap.size = w.heap.size + 1 := by simp
  have HSZ := Lib.hid hsz
  clear hsz
  have hcase : k = 6 ∨ k = 7 ∨ k = 8 ∨ k = 9 := by omega
  clear hk hk9
  rcases hcase with rfl | rfl | rfl | rfl
  · go_enter Tryz.func27, Tryz.ntmps27
    go_wp2_with fail
    refine HVS.out.mono ?_
    rintro e w2 ⟨ys, rfl, hv⟩
    have c0 := (HBX.out.below hv.low HBX.out.lt).cell 0
    simp at c0
    rw [← HNK.out]
    have HV := Lib.hid hv
    clear hv HVS
    go_wp2_with fail
    refine (newList_any _ _ _ _).mono ?_
    rintro e w3 ⟨rfl, hw3⟩
    have HF := Lib.hid (FV.mkList HE1.out.symm HV.out HAL.out.size (w3 := w3) (by rw [hw3]; exact below_al (Below.refl _ _) _) (by rw [hw3, ← HNK.out, HSZ.out]; exact Blk.new _ _ _))
    have HB : Hid (Below w.heap.size w w3) := Lib.hid (by rw [hw3]; exact below_al (below_up HAL.out HV.out.low) _)
    clear hw3 HV
    go_wp2
    go_ret2
    exact ⟨(.iface 99 (.pointer (some ⟨w2.heap.size, 0, none⟩))), rfl, HF.out, HB.out⟩
  · go_enter Tryz.func27, Tryz.ntmps27
    go_wp2_with fail
    refine HVS.out.mono ?_
    rintro e w2 ⟨ys, rfl, hv⟩
    have c0 := (HBX.out.below hv.low HBX.out.lt).cell 0
    simp at c0
    have HF := Lib.hid (FV.mkTup HE1.out.symm hv HAL.out.size)
    have HB := Lib.hid (below_up HAL.out hv.low)
    rw [← HNK.out, HSZ.out] at HF
    rw [← HNK.out]
    clear hv HVS
    go_wp2
    go_ret2
    exact ⟨(.iface 101 (.slice (some ⟨w.heap.size + 1, 0, none⟩) nk nk)), rfl, HF.out, HB.out⟩
  · go_enter Tryz.func27, Tryz.ntmps27
    go_wp2_with fail
    refine HVS.out.mono ?_
    rintro e w2 ⟨ys, rfl, hv⟩
    have c0 := (HBX.out.below hv.low HBX.out.lt).cell 0
    simp at c0
    have hmt := HMT.out.2.1 HE1.out.symm
    have HC := Lib.hid (dict_any (fun k => k = (w.alloc (.cells (VcB ⟨8, n, .slice A l c, b, s, .slice A' nk c'⟩) 26)).heap.size) _ t.kids.length t.kids.length ys hv.rd.2 HGD.out.head.kl hmt.1 w2 hv.rd.1 (fun k hk => by subst hk; exact hv.big) (keysOk hv.fvs (Nat.le_refl _) HD.out HGD.out.2.2.1 (HGD.out.2.2.2.1 HE1.out.symm) hmt.2 (HG.out.up hv.low)))
    have HV := Lib.hid hv
    rw [← HNK.out, HSZ.out] at HC
    rw [← HNK.out]
    clear hv HVS hmt
    go_wp2_with fail
    refine HC.out.mono ?_
    rintro e w3 ⟨rfl, es, hd⟩
    have hd2 := hd
    rw [HNK.out] at hd2
    have HF := Lib.hid (FV.mkDict HE1.out.symm HV.out HAL.out.size hd2)
    have HB := Lib.hid (below_up (below_up HAL.out HV.out.low) hd.low)
    clear hd hd2 HC HV
    go_wp2
    go_ret2
    exact ⟨(.iface 102 (.pointer (some ⟨w2.heap.size, 0, none⟩))), rfl, HF.out, HB.out⟩
  · go_enter Tryz.func27, Tryz.ntmps27
    go_wp2_with fail
    refine HVS.out.mono ?_
    rintro e w2 ⟨ys, rfl, hv⟩
    have c0 := (HBX.out.below hv.low HBX.out.lt).cell 0
    simp at c0
    have hmt := HMT.out.2.2 HE1.out.symm
    have HC := Lib.hid (set_any (fun k => k = (w.alloc (.cells (VcB ⟨9, n, .slice A l c, b, s, .slice A' nk c'⟩) 26)).heap.size) _ t.kids.length t.kids.length ys hv.rd.2 (HGD.out.2.2.2.2 HE1.out.symm).2 w2 hv.rd.1 (fun k hk => by subst hk; exact hv.big) (keysOk hv.fvs (Nat.le_refl _) HD.out HGD.out.2.2.1 (HGD.out.2.2.2.2 HE1.out.symm).1 hmt (HG.out.up hv.low)))
    have HV := Lib.hid hv
    rw [← HNK.out, HSZ.out] at HC
    rw [← HNK.out]
    clear hv HVS hmt
    go_wp2_with fail
    refine HC.out.mono ?_
    rintro e w3 ⟨rfl, es, hd⟩
    have hd2 := hd
    rw [HNK.out] at hd2
    have HF := Lib.hid (FV.mkSet HE1.out.symm HV.out HAL.out.size hd2)
    have HB := Lib.hid (below_up (below_up HAL.out HV.out.low) hd.low)
    clear hd hd2 HC HV
    go_wp2
    go_ret2
    exact ⟨(.iface 105 (.pointer (some ⟨w2.heap.size, 0, none⟩))), rfl, HF.out, HB.out⟩

theorem value_any : ∀ (d : Nat) {t : Tr} {x : Vc} {w : World}, d ≤ 9 → HV (d + 1) t x w → Good d t → MakeT d t → GL w → Calls Tryz.prog 27 #[x.agg] w (MadeOut d t w) := by
  intro d
  induction d with
  | zero =>
    intro t x w _ h g _ _
    exact value_leaf h g.head g.2.1
  | succ d ih =>
    intro t x w hd h g m hG
    by_cases hk : t.k < 6
    · exact value_leaf h g.head hk
    · exact value_node h g m (by omega) hG hk (fun u hu x W hW hx => ih (by omega) hx (g.2.2.1 u hu) (m.1 u hu) (hG.up (hW.mono (Nat.le_refl _))))
end Go.Proofs.YtloloifngbmibaaGreatDoor
set_option linter.unusedVariables false
set_option linter.unusedSimpArgs false
set_option maxRecDepth 4000
namespace Go.Proofs.YtloloifngbmibaaGreatDoor
open Go.RowKit

theorem errNew_any (s : ByteArray) (w : World) : Calls Tryz.prog 88 #[.string s] w fun e w' => (∃ T p, e = .returned (.iface T (.pointer p))) ∧ Below w.heap.size w w' := by
  go_enter Tryz.func88, Tryz.ntmps88
  go_wp2
  go_ret
  exact ⟨⟨_, _, rfl⟩, below_al (Below.refl _ _) _⟩

theorem PartOut.bi {x : Int} (h0 : -9223372036854775808 ≤ x) (h1 : x ≤ 9223372036854775807) {b : Nat} {u0 u1 : Value} {w w' : World} (h : PartOut b 0 189 #[u0, u1] (decide (x < 0)) (absW x) w w') : BI b x w' := by
  obtain ⟨v, k, s, bt⟩ := h
  refine ⟨_, absW x, v, by simpa using k, s.mono (fun k hk => hk.2), absW_wl h0 h1, absW_nrm x, Nat.le_trans (absW_len x) (by decide), absW_wv x, fun h => ?_⟩
  have : x < 0 := of_decide_eq_true h
  unfold absW
  rw [if_neg (by omega)]
  simp
theorem setNew (x : Int) (h0 : -9223372036854775808 ≤ x) (h1 : x ≤ 9223372036854775807) (w : World) :
    Calls Tryz.prog 142 #[.pointer (some ⟨w.heap.size, 0, none⟩), .int .i64 x] (w.alloc (.cells #[.bool false, .slice none 0 0] 189)) fun e w' => e = .returned (.pointer (some ⟨w.heap.size, 0, none⟩)) ∧ BI w.heap.size x w' ∧ Below w.heap.size w w' := by
  have hb := Blk.new w 189 #[.bool false, .slice none 0 0]
  refine (setI64P x h0 h1 _ w.heap.size 0 189 _ hb (.bool false) (by rw [hb.cell]; rfl) (by rw [hb.cell]; rfl)).mono ?_
  rintro e w' ⟨rfl, hp⟩
  refine ⟨rfl, hp.bi h0 h1, ?_⟩
  obtain ⟨v, _, _, bt⟩ := hp
  exact (below_al (Below.refl _ _) _).trans (bt.below (B := w.heap.size) (by simp) (fun k hk => by subst hk; exact Nat.le_refl _))
theorem maxI_any (w : World) : Calls Tryz.prog 128 #[] w fun e w' => ∃ b, e = .returned (.pointer (some ⟨b, 0, none⟩)) ∧ BI b 9223372036854775807 w' ∧ Below w.heap.size w w' := by
  have HC := Lib.hid (setNew 9223372036854775807 (by decide) (by decide) w)
  go_enter Tryz.func128, Tryz.ntmps128
  go_wp2_with fail
  refine HC.out.mono ?_
  rintro e w1 ⟨rfl, h⟩
  have H := Lib.hid h
  clear h
  go_wp2
  go_ret
  exact ⟨_, rfl, H.out⟩
theorem minI_any (w : World) : Calls Tryz.prog 129 #[] w fun e w' => ∃ b, e = .returned (.pointer (some ⟨b, 0, none⟩)) ∧ BI b (-9223372036854775808) w' ∧ Below w.heap.size w w' := by
  have HC := Lib.hid (setNew (-9223372036854775808) (by decide) (by decide) w)
  go_enter Tryz.func129, Tryz.ntmps129
  go_wp2_with fail
  refine HC.out.mono ?_
  rintro e w1 ⟨rfl, h⟩
  have H := Lib.hid h
  clear h
  go_wp2
  go_ret
  exact ⟨_, rfl, H.out⟩

theorem sgB_wv {neg : Bool} {ws : List Int} (hw : WL ws) (hr : Nrm ws) (h : neg = true → ws ≠ []) : (0 < wv neg ws → sgB neg ws = 1) ∧ (wv neg ws < 0 → sgB neg ws = -1) ∧ (wv neg ws = 0 → sgB neg ws = 0) := by
  have hs := wv_sign hw hr h
  unfold sgB
  by_cases h0 : ws = []
  · subst h0
    have : wv neg [] = 0 := by unfold wv nv; split <;> rfl
    rw [this]
    refine ⟨fun h => absurd h (by decide), fun h => absurd h (by decide), fun _ => rfl⟩
  · have hl : ws.length ≠ 0 := fun e => h0 (List.length_eq_zero_iff.1 e)
    have hp := nv_pos hw hr h0
    rw [if_neg hl]
    cases neg
    · have : wv false ws = nv ws := rfl
      rw [this]
      exact ⟨fun _ => rfl, fun h => by omega, fun h => by omega⟩
    · have : wv true ws = -(nv ws) := rfl
      rw [this]
      exact ⟨fun h => by omega, fun _ => rfl, fun h => by omega⟩

/-- In the range of an int64. -/
def inI (x : Int) : Prop := -9223372036854775808 ≤ x ∧ x ≤ 9223372036854775807
instance (x : Int) : Decidable (inI x) := by unfold inI; infer_instance
def inU (x : Int) : Prop := 0 ≤ x ∧ x ≤ 18446744073709551615
instance (x : Int) : Decidable (inU x) := by unfold inU; infer_instance
/-- What a number that may not fit hands back: the number, whether it fits (0). -/
def FitI (x : Int) (w : World) (e : Ending) (w' : World) : Prop := ∃ r a : Int, e = .returned (.tuple #[.int .i64 r, .int .i8 a]) ∧ (a = 0 ↔ inI x) ∧ (a = 0 → r = x) ∧ Below w.heap.size w w'
def FitU (x : Int) (w : World) (e : Ending) (w' : World) : Prop := ∃ r a : Int, e = .returned (.tuple #[.int .u64 r, .int .i8 a]) ∧ (a = 0 ↔ inU x) ∧ (a = 0 → r = x) ∧ Below w.heap.size w w'

theorem toI_any {b : Nat} {x : Int} {w : World} (h : BI b x w) : Calls Tryz.prog 112 #[.pointer (some ⟨b, 0, none⟩)] w (FitI x w) := by
  have HB := Lib.hid h
  obtain ⟨neg, ws, u, h1, h2, h3, h4, h5, h6, h7⟩ := h.bigv
  have HS := Lib.hid (sign_any w _ b 0 neg ws h2)
  have HI : Hid (∀ W, Below w.heap.size w W → Calls Tryz.prog 126 #[.pointer (some ⟨b, 0, none⟩)] W fun e w' => e = .returned (.int .i64 (IntKind.i64.wrap x)) ∧ w' = W) := Lib.hid fun W hW => by
    rw [← h6]
    exact int64_any _ b 0 neg ws h3 W (h2.keep (still_below hW (fun k hk => hk)))
  have hsg := sgB_wv h3 h4 h7
  rw [h6] at hsg
  obtain ⟨sg, hsg2⟩ : ∃ sg, sg = sgB neg ws := ⟨_, rfl⟩
  rw [← hsg2] at HS hsg
  clear h h1 h2 h3 h4 h5 h6 h7 hsg2
  rcases Int.lt_trichotomy x 0 with hx | hx | hx
  · obtain rfl := hsg.2.1 hx
    have HX := Lib.hid hx
    clear hsg hx
    go_enter Tryz.func112, Tryz.ntmps112
    go_wp2_with fail
    refine HS.out.mono ?_
    rintro e w1 ⟨rfl, rfl⟩
    go_wp2_with fail
    refine (minI_any _).mono ?_
    rintro e w2 ⟨b2, rfl, hb2, hlo⟩
    have HLO := Lib.hid hlo
    have HC := Lib.hid (intCmpB (HB.out.up hlo) hb2)
    clear hb2 hlo HS
    go_wp2_with fail
    refine HC.out.mono ?_
    rintro e w3 ⟨C, rfl, hC, hlo⟩
    have HL3 := Lib.hid (below_up HLO.out hlo)
    clear hlo HC HLO
    by_cases hs : x < -9223372036854775808
    · have hC1 : C = -1 := by rw [hC, sgnc_lt hs]
      subst hC1
      have HN : Hid (¬ inI x) := Lib.hid (fun h => by unfold inI at h; omega)
      clear hC hs
      go_wp2
      go_ret2
      exact ⟨_, _, rfl, ⟨fun h => absurd h (by decide), fun h => absurd h HN.out⟩, (fun h => absurd h (by decide)), HL3.out⟩
    · have hC1 : ¬ C < 0 := by
        rw [hC]
        unfold sgnc
        rw [if_neg hs]
        split <;> decide
      have HN : Hid (inI x) := Lib.hid (by have := HX.out; unfold inI; omega)
      have HW : Hid (IntKind.i64.wrap x = x) := Lib.hid (by rw [IntKind.wrap_i64]; have := HX.out; omega)
      clear hC hs
      have HI2 := Lib.hid (HI.out w3 HL3.out)
      rw [HW.out] at HI2
      clear HI
      go_wp2_with fail
      refine HI2.out.mono ?_
      rintro e w4 ⟨rfl, rfl⟩
      go_wp2
      go_ret2
      exact ⟨_, _, rfl, ⟨fun _ => HN.out, fun _ => rfl⟩, fun _ => rfl, HL3.out⟩
  · obtain rfl := hsg.2.2 hx
    subst hx
    have HI2 := Lib.hid (HI.out w (Below.refl _ _))
    rw [show IntKind.i64.wrap 0 = 0 from rfl] at HI2
    clear hsg HI
    go_enter Tryz.func112, Tryz.ntmps112
    go_wp2_with fail
    refine HS.out.mono ?_
    rintro e w1 ⟨rfl, rfl⟩
    go_wp2_with fail
    refine HI2.out.mono ?_
    rintro e w4 ⟨rfl, rfl⟩
    go_wp2
    go_ret2
    exact ⟨_, _, rfl, ⟨fun _ => by decide, fun _ => rfl⟩, fun _ => rfl, Below.refl _ _⟩
  · obtain rfl := hsg.1 hx
    have HX := Lib.hid hx
    clear hsg hx
    go_enter Tryz.func112, Tryz.ntmps112
    go_wp2_with fail
    refine HS.out.mono ?_
    rintro e w1 ⟨rfl, rfl⟩
    go_wp2_with fail
    refine (maxI_any _).mono ?_
    rintro e w2 ⟨b2, rfl, hb2, hlo⟩
    have HLO := Lib.hid hlo
    have HC := Lib.hid (intCmpB (HB.out.up hlo) hb2)
    clear hb2 hlo HS
    go_wp2_with fail
    refine HC.out.mono ?_
    rintro e w3 ⟨C, rfl, hC, hlo⟩
    have HL3 := Lib.hid (below_up HLO.out hlo)
    clear hlo HC HLO
    by_cases hs : 9223372036854775807 < x
    · have hC1 : C = 1 := by rw [hC, sgnc_gt hs]
      subst hC1
      have HN : Hid (¬ inI x) := Lib.hid (fun h => by unfold inI at h; omega)
      clear hC hs
      go_wp2
      go_ret2
      exact ⟨_, _, rfl, ⟨fun h => absurd h (by decide), fun h => absurd h HN.out⟩, (fun h => absurd h (by decide)), HL3.out⟩
    · have hC1 : ¬ 0 < C := by
        rw [hC]
        unfold sgnc
        split
        · decide
        · rw [if_pos (by omega)]
          decide
      have HN : Hid (inI x) := Lib.hid (by have := HX.out; unfold inI; omega)
      have HW : Hid (IntKind.i64.wrap x = x) := Lib.hid (by rw [IntKind.wrap_i64]; have := HX.out; omega)
      clear hC hs
      have HI2 := Lib.hid (HI.out w3 HL3.out)
      rw [HW.out] at HI2
      clear HI
      go_wp2_with fail
      refine HI2.out.mono ?_
      rintro e w4 ⟨rfl, rfl⟩
      go_wp2
      go_ret2
      exact ⟨_, _, rfl, ⟨fun _ => HN.out, fun _ => rfl⟩, fun _ => rfl, HL3.out⟩

theorem toU_any {b : Nat} {x : Int} {w : World} (h : BI b x w) : Calls Tryz.prog 113 #[.pointer (some ⟨b, 0, none⟩)] w (FitU x w) := by
  obtain ⟨neg, ws, u, h1, h2, h3, h4, h5, h6, h7⟩ := h.bigv
  have HS := Lib.hid (sign_any w _ b 0 neg ws h2)
  have HI := Lib.hid (uint64_any _ b 0 neg ws h3 w h2)
  have HL := Lib.hid (bitLenI _ b 0 neg ws (by omega) h3 h4 w h2)
  have hsg := sgB_wv h3 h4 h7
  rw [h6] at hsg
  obtain ⟨sg, hsg2⟩ : ∃ sg, sg = sgB neg ws := ⟨_, rfl⟩
  rw [← hsg2] at HS hsg
  have hnv : (0 ≤ x → nv ws = x) := fun hx => by
    have := wv_sign h3 h4 h7
    rw [h6] at this
    rcases this with ⟨_, h⟩ | ⟨rfl, _⟩
    · omega
    · exact h6
  have hne : x ≠ 0 → ws ≠ [] := fun hx e => hx (by rw [← h6, e]; unfold wv nv; split <;> rfl)
  clear h h1 h2 h3 h4 h5 h7 hsg2
  rcases Int.lt_trichotomy x 0 with hx | hx | hx
  · obtain rfl := hsg.2.1 hx
    have HN : Hid (¬ inU x) := Lib.hid (fun h => by unfold inU at h; omega)
    clear hsg hx hnv h6 hne HI HL
    go_enter Tryz.func113, Tryz.ntmps113
    go_wp2_with fail
    refine HS.out.mono ?_
    rintro e w1 ⟨rfl, rfl⟩
    go_wp2
    go_ret2
    exact ⟨_, _, rfl, ⟨fun h => absurd h (by decide), fun h => absurd h HN.out⟩, (fun h => absurd h (by decide)), Below.refl _ _⟩
  · obtain rfl := hsg.2.2 hx
    subst hx
    rw [hnv (Int.le_refl _), show (0 : Int) % 18446744073709551616 = 0 from rfl] at HI
    clear hsg hnv h6 hne HL
    go_enter Tryz.func113, Tryz.ntmps113
    go_wp2_with fail
    refine HS.out.mono ?_
    rintro e w1 ⟨rfl, rfl⟩
    go_wp2_with fail
    refine HI.out.mono ?_
    rintro e w4 ⟨rfl, rfl⟩
    go_wp2
    go_ret2
    exact ⟨_, _, rfl, ⟨fun _ => by decide, fun _ => rfl⟩, fun _ => rfl, Below.refl _ _⟩
  · obtain rfl := hsg.1 hx
    have HX := Lib.hid hx
    have HNE := Lib.hid (hne (by omega))
    have HNV := Lib.hid (hnv (by omega))
    rw [HNV.out] at HI
    clear hsg hx hnv h6 hne
    go_enter Tryz.func113, Tryz.ntmps113
    go_wp2_with fail
    refine HS.out.mono ?_
    rintro e w1 ⟨rfl, rfl⟩
    go_wp2_with fail
    refine HL.out.mono ?_
    rintro e w2 ⟨r, rfl, ⟨_, hl1, hl2⟩, rfl⟩
    have HLO := Lib.hid (And.intro hl1 (hl2 HNE.out))
    rw [HNV.out] at HLO
    clear hl1 hl2 HS HL
    by_cases hr : 64 < r
    · have hr1 : (64 : Int) < (r : Int) := by omega
      have HN : Hid (¬ inU x) := Lib.hid (fun h => by
        have h1 := HLO.out.2.2
        have h2 : (2 : Int) ^ 64 ≤ 2 ^ (r - 1) := by
          have := Nat.pow_le_pow_right (n := 2) (by decide) (show 64 ≤ r - 1 by omega)
          exact_mod_cast this
        have h3 : (2 : Int) ^ 64 = 18446744073709551616 := by decide
        unfold inU at h
        omega)
      clear hr
      go_wp2
      go_ret2
      exact ⟨_, _, rfl, ⟨fun h => absurd h (by decide), fun h => absurd h HN.out⟩, (fun h => absurd h (by decide)), Below.refl _ _⟩
    · have hr1 : ¬ (64 : Int) < (r : Int) := by omega
      have HN : Hid (inU x) := Lib.hid (by
        have h1 := HLO.out.1
        have h2 : (2 : Int) ^ r ≤ 2 ^ 64 := by
          have := Nat.pow_le_pow_right (n := 2) (by decide) (show r ≤ 64 by omega)
          exact_mod_cast this
        have h3 : (2 : Int) ^ 64 = 18446744073709551616 := by decide
        have := HX.out
        unfold inU
        omega)
      have hm : x % 18446744073709551616 = x := Int.emod_eq_of_lt (by have := HX.out; omega) (by have := HN.out.2; omega)
      rw [hm] at HI
      clear hr hm
      go_wp2_with fail
      refine HI.out.mono ?_
      rintro e w4 ⟨rfl, rfl⟩
      go_wp2
      go_ret2
      exact ⟨_, _, rfl, ⟨fun _ => HN.out, fun _ => rfl⟩, fun _ => rfl, Below.refl _ _⟩
end Go.Proofs.YtloloifngbmibaaGreatDoor
