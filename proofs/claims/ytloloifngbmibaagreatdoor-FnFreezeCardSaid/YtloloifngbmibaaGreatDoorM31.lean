/- The thin package's values. The thin package's value. Freeze: the walks. -/
import Derived.Test.YtloloifngbmibaaGreatDoorM30
import Derived.Test.YtloloifngbmibaaGreatDoorM01
set_option linter.unusedVariables false
set_option linter.unusedSimpArgs false
set_option maxRecDepth 4000
namespace Go.Proofs.YtloloifngbmibaaGreatDoor
open Go.RowKit

theorem ownsRow_keep {W W' : World} {base size g k cap k' : Nat} {e : TypeId} {xs : List Value} (h : W.ownsRow base e size (.slice (some ⟨g, 0, none⟩) k cap) k' xs) (hk : W'.heap[g]? = W.heap[g]?) : W'.ownsRow base e size (.slice (some ⟨g, 0, none⟩) k cap) k' xs := by
  refine ⟨h.1, ?_⟩
  rcases h.2 with ⟨h1, _⟩ | ⟨g', cap', cur, e1, h2, h3, h4⟩
  · cases h1
  · have : g' = g := by
      injection e1 with e1
      injection e1 with e1
      injection e1 with e1
      exact e1.symm
    subst this
    exact .inr ⟨g', cap', cur, e1, h2, hk.trans h3, h4⟩
theorem ownsRow_rd {W : World} {base g k cap : Nat} {e : TypeId} {xs : List Value} (h : W.ownsRow base e 1 (.slice (some ⟨g, 0, none⟩) k cap) k xs) (S : Nat → Prop) (hS : S g) : Rd W S (some ⟨g, 0, none⟩) xs ∧ xs.length = k ∧ k ≤ cap := by
  have hl : xs.length = k := by have := h.1; omega
  rcases h.2 with ⟨h1, _⟩ | ⟨g', cap', cur, e1, h2, h3, h4, h5, h6, h7⟩
  · cases h1
  · have e2 : g' = g := by
      injection e1 with e1
      injection e1 with e1
      injection e1 with e1
      exact e1.symm
    have e3 : cap' = cap := by
      injection e1 with _ _ e3
      exact e3.symm
    subst e2 e3
    refine ⟨?_, hl, h4⟩
    have : Blk W g' e (xs ++ cur.toList.drop k).toArray := by
      rw [← h7, Nat.mul_one, List.take_append_drop]
      exact h3
    exact Rd.of_blk this hS

/-- Values under way. -/
structure ValsR (d : Nat) (ts : List Tr) (w : World) (i n : Nat) (ys : List Value) (W : World) : Prop where
  row : W.ownsRow w.heap.size 64 1 (.slice (some ⟨w.heap.size, 0, none⟩) i n) i ys
  low : Below w.heap.size w W
  big : w.heap.size < W.heap.size
  fv : FVsOf (FV false d) (w.heap.size + 1) W.heap.size (ts.take i) W ys
theorem FV.ifc {fz : Bool} {d a b : Nat} {t : Tr} {W : World} {v : Value} (h : FV fz d a b t W v) : ∃ T x, v = .iface T x := by
  have hf : ∀ {v : Value}, FVF a b t W v → ∃ T x, v = .iface T x := fun h => by cases h <;> exact ⟨_, _, rfl⟩
  cases d with
  | zero => exact hf h
  | succ d =>
    rcases h with h | ⟨hk, A, c, ys, m, e, _⟩ | ⟨hk, A, c, ys, m, g, e, _⟩ | ⟨hk, es, g, e, _⟩ | ⟨hk, es, g, e, _⟩
    · exact hf h
    all_goals exact ⟨_, _, e⟩
theorem FVsOf.snoc {fz : Bool} {d a b b' : Nat} {ts : List Tr} {W : World} {ys : List Value} (h : FVsOf (FV fz d) a b ts W ys) {u : Tr} {v : Value} {a' : Nat} (ha : b ≤ a') (hab : a' ≤ b') (hv : FV fz d a' b' u W v) : FVsOf (FV fz d) a b' (ts ++ [u]) W (ys ++ [v]) := by
  obtain ⟨hl, Bd, h0, h1, h2, h3⟩ := h
  refine ⟨by simp [hl], fun j => if j ≤ ts.length then Bd j else b', ?_, ?_, ?_, ?_⟩
  · dsimp only
    rw [if_pos (Nat.zero_le _)]
    exact h0
  · intro i hi
    simp at hi
    dsimp only
    by_cases hlt : i < ts.length
    · rw [if_pos (by omega), if_pos (by omega)]
      exact h1 i hlt
    · rw [if_pos (by omega), if_neg (by omega), show i = ts.length by omega]
      omega
  · dsimp only
    rw [if_neg (by simp)]
    exact Nat.le_refl _
  · intro i y u' hy hu'
    dsimp only
    by_cases hlt : i < ts.length
    · rw [if_pos (by omega), if_pos (by omega)]
      rw [List.getElem?_append_left (by omega)] at hy hu'
      exact h3 i y u' hy hu'
    · have hi : i = ts.length := by
        have := (List.getElem?_eq_some_iff.1 hu').1
        simp at this
        omega
      subst hi
      rw [if_pos (Nat.le_refl _), if_neg (by omega)]
      rw [← hl, List.getElem?_append_right (Nat.le_refl _)] at hy
      rw [List.getElem?_append_right (Nat.le_refl _)] at hu'
      simp at hy hu'
      subst hy hu'
      exact hv.wide (Nat.le_trans h2 ha) (Nat.le_refl _)
theorem ValsR.step {d : Nat} {ts : List Tr} {w : World} {i n : Nat} {ys : List Value} {W : World} (h : ValsR d ts w i n ys W) {u : Tr} (hu : ts[i]? = some u) {W2 W3 W4 : World} {a : Nat} {v : Value} (h1 : Below W.heap.size W W2) (ha : W.heap.size ≤ a) (hab : a ≤ W2.heap.size) (hv : FV false d a W2.heap.size u W2 v)
    (h3 : Below W2.heap.size W2 W3) (hrow : W4.ownsRow w.heap.size 64 1 (.slice (some ⟨w.heap.size, 0, none⟩) (i + 1) n) (i + 1) (ys ++ [v])) (hg : W3.grownBy W4 (some w.heap.size)) : ValsR d ts w (i + 1) n (ys ++ [v]) W4 := by
  have hs4 : W3.heap.size ≤ W4.heap.size := hg.size
  have hk4 : ∀ k, k < W3.heap.size → k ≠ w.heap.size → W4.heap[k]? = W3.heap[k]? := fun k hk hne => hg.block k hk (fun e => hne (Option.some.inj e))
  have h13 := below_up h1 h3
  refine ⟨hrow, ?_, Nat.lt_of_lt_of_le h.big (Nat.le_trans h13.size hs4), ?_⟩
  · have hw3 := below_up h.low (below_up h1 h3 |>.mono (Nat.le_refl _))
    refine ⟨hg.os.trans hw3.os, hg.tape.trans hw3.tape, hg.output.trans hw3.output, Nat.le_trans hw3.size hs4, fun k hk => (hk4 k (Nat.lt_of_lt_of_le hk hw3.size) (by omega)).trans (hw3.block k hk)⟩
  · have e1 : ts.take (i + 1) = ts.take i ++ [u] := by rw [List.take_add_one, hu]; rfl
    rw [e1]
    have hst : ∀ b, b ≤ W2.heap.size → Still (Itv (w.heap.size + 1) b) W2 W4 := fun b hb k hk => (hk4 k (Nat.lt_of_lt_of_le (Nat.lt_of_lt_of_le hk.2 hb) h3.size) (by have := hk.1; omega)).trans (h3.block k (Nat.lt_of_lt_of_le hk.2 hb))
    have f1 : FVsOf (FV false d) (w.heap.size + 1) W.heap.size (ts.take i) W4 ys := (h.fv.keep (still_below h1 (fun k hk => hk.2)) FV.keep).keep (hst _ h1.size) FV.keep
    have f2 : FV false d a W4.heap.size u W4 v := (hv.keep ((hst _ (Nat.le_refl _)).mono (fun k hk => hk.wide (Nat.succ_le_of_lt (Nat.lt_of_lt_of_le h.big ha)) (Nat.le_refl _)))).wide (Nat.le_refl _) (Nat.le_trans h3.size hs4)
    exact f1.snoc ha (Nat.le_trans hab (Nat.le_trans h3.size hs4)) f2

theorem HV.shape {d : Nat} {t : Tr} {x : Vc} {w : World} (h : HV d t x w) : ∃ (k : Int) (n : Bool) (A : Option Addr) (l c : Nat) (b : Int) (s : ByteArray) (A' : Option Addr) (l' c' : Nat), x = ⟨k, n, .slice A l c, b, s, .slice A' l' c'⟩ := by
  obtain ⟨S, h1, _⟩ := h
  obtain ⟨A', nq, cq, hq, _⟩ := h1.kidsV
  obtain ⟨_, _, _, _, A, cm, em, _⟩ := h1.head
  obtain ⟨k, n, m, b, s, q⟩ := x
  simp only at em hq
  subst em hq
  exact ⟨_, _, _, _, _, _, _, _, _, _, rfl⟩
theorem infoV : (Tryz.prog.info? 64).map (fun i => (i.zero, i.size, i.bytes)) = some (some .nilIface, 1, 16) := by kernel_rfl
theorem wpList_pushV {d : Nat} {ts : List Tr} {w : World} {i n : Nat} {ys : List Value} {wr : World} (h : ValsR d ts w i n ys wr) {u : Tr} (hu : ts[i]? = some u) {w2 : World} {b : Nat} {T : TypeId} {x : Value} (h1 : Below wr.heap.size wr w2) (ha : wr.heap.size ≤ b) (hab : b ≤ w2.heap.size) (hv : FV false d b w2.heap.size u w2 (.iface T x)) (hin : i < n) (TT : TypeId)
    {ops : Array Oper} {rest : List Oper} {o : Oper} {a : Act} {Q : Exit → Act → World → Prop} (hgd : o.guard = none) (s z : Operand)
    (ho : o.op = .call { callee := .builtin .append, args := #[s, z], argTypes := #[96, 96] })
    (hs : a.eval s = .slice (some ⟨w.heap.size, 0, none⟩) i n) (hz : a.eval z = .slice (some ⟨w2.heap.size, 0, none⟩) 1 1)
    (hK : ∀ w', ValsR d ts w (i + 1) n (ys ++ [.iface T x]) w' → wpList Tryz.prog ops Q rest (a.put o.dst (.slice (some ⟨w.heap.size, 0, none⟩) (i + 1) n)) w') : wpList Tryz.prog ops Q (o :: rest) a (w2.alloc (.cells #[.iface T x] TT)) := by
  obtain ⟨ti, hi1, hi2, hi3, hi4⟩ := info_parts infoV
  have h3 : Below w2.heap.size w2 (w2.alloc (.cells #[.iface T x] TT)) := below_al (Below.refl _ _) _
  refine wpList_append_fits _ hgd s z 96 ho w.heap.size 64 ti 1 Tryz.underlying96 hi1 hi3 w.heap.size i n ys hs (ownsRow_keep h.row ((below_up h1 h3).block _ h.big)) ⟨w2.heap.size, 0, none⟩ 1 1 [.iface T x] hz rfl ?_ (fun v hv => by rw [List.mem_singleton.1 hv]; rfl) (by omega) (fun w' hrow hg => hK w' (h.step hu h1 ha hab hv h3 hrow hg))
  intro j v hj
  have hj0 : j = 0 := by
    have := (List.getElem?_eq_some_iff.1 hj).1
    simp at this
    exact this
  subst hj0
  simp at hj
  subst hj
  rw [show ((⟨w2.heap.size, 0, none⟩ : Addr).add 0) = ⟨w2.heap.size, 0, none⟩ from rfl, (Blk.new w2 TT #[.iface T x]).cell]
  rfl
/-- What values hands back. -/
def ValsOut (d : Nat) (ts : List Tr) (w : World) (e : Ending) (w' : World) : Prop := ∃ ys, e = .returned (.tuple #[.slice (some ⟨w.heap.size, 0, none⟩) ts.length ts.length, .bool true]) ∧ ValsR d ts w ts.length ts.length ys w'
theorem values_any (d : Nat) {ts : List Tr} {A : Option Addr} {c : Nat} {w : World} (hn : ts.length ≤ 16) (hks : HVs (d + 1) ts A w)
    (IH : ∀ u ∈ ts, ∀ (x : Vc) (W : World), Below w.heap.size w W → HV (d + 1) u x W → Calls Tryz.prog 27 #[x.agg] W (MadeOut d u W)) :
    Calls Tryz.prog 55 #[.slice A ts.length c] w (ValsOut d ts w) := by
  obtain ⟨ti, hi1, hi2, hi3, hi4⟩ := info_parts infoV
  obtain ⟨n, hnn⟩ : ∃ n, n = ts.length := ⟨_, rfl⟩
  have HN := Lib.hid hnn
  have HK := Lib.hid hks
  have HIH := Lib.hid IH
  have hn' : n ≤ 16 := by omega
  unfold ValsOut
  rw [← hnn]
  clear hks IH hn hnn
  go_enter Tryz.func55, Tryz.ntmps55
  go_wp2_with (at_make; refine wpList_make_own _ rfl _ _ 96 rfl w.heap.size 64 ti .nilIface 1 Tryz.underlying96 hi1 hi2 hi3 _ _ _ n rfl rfl rfl (by rw [hi4]; omega) (by unfold maxLen; omega) (Nat.le_refl _) ?_; intro w1 hown hgr)
  have h0 : Hid (ValsR d ts w 0 n [] w1) := Lib.hid ⟨hown, ⟨hgr.os, hgr.tape, hgr.output, hgr.size, fun k hk => hgr.block k hk (by simp)⟩, (by
      rcases hown.2 with ⟨h, _⟩ | ⟨g, cap, cur, e1, _, h, _⟩
      · cases h
      · injection e1 with e1
        injection e1 with e1
        injection e1 with e1
        rw [e1]
        exact (Array.getElem?_eq_some_iff.1 h).1), ⟨by simp, fun _ => w.heap.size + 1, Nat.le_refl _, fun _ _ => Nat.le_refl _, (by
      rcases hown.2 with ⟨h, _⟩ | ⟨g, cap, cur, e1, _, h, _⟩
      · cases h
      · injection e1 with e1
        injection e1 with e1
        injection e1 with e1
        rw [e1]
        exact (Array.getElem?_eq_some_iff.1 h).1), fun i y u hy _ => by simp at hy⟩⟩
  clear hown hgr
  go_wp2
  go_loopw [4, 14] (fun sv iv wr => ∃ (i : Nat) (ys : List Value), sv = .slice (some ⟨w.heap.size, 0, none⟩) i n ∧ iv = .int .i64 i ∧ i ≤ n ∧ Hid (ValsR d ts w i n ys wr)) (fun _ iv _ => n - (intOf iv).toNat)
  case atStart => exact ⟨0, [], rfl, rfl, Nat.zero_le _, h0⟩
  case round =>
    obtain ⟨i, ys, rfl, rfl, hi, HV⟩ := hrel
    clear h0
    by_cases hlt : i < n
    · have HME := Lib.hid (ms_lt hlt)
      have HSI := Lib.hid (Nat.succ_le_of_lt hlt)
      obtain ⟨y, u, hu, hy, b, o, rfl, y0, y1, y2, y3, y4, y5⟩ := (HK.out.up HV.out.low).at_ (i := i) (by have := HN.out; omega)
      obtain ⟨kk, kn, Ak, lk, ck, kb, ks, Aq, lq, cq, rfl⟩ := hy.shape
      have hal := below_al (Below.refl wr.heap.size wr) (.cells (VcB ⟨kk, kn, .slice Ak lk ck, kb, ks, .slice Aq lq cq⟩) 26)
      have HC := Lib.hid (HIH.out u (List.mem_of_getElem? hu) _ _ (below_up HV.out.low hal) (hy.up hal))
      have HU := Lib.hid hu
      have HAL := Lib.hid hal
      have hi1 : (i : Int) < (n : Int) := Int.ofNat_lt.2 hlt
      clear hu hy hal
      go_wp2_with fail
      refine HC.out.mono ?_
      rintro e w2 ⟨v, rfl, hv, hb2⟩
      obtain ⟨T, x, rfl⟩ := hv.ifc
      have HB2 := Lib.hid (below_up HAL.out hb2)
      have HFV := Lib.hid hv
      have HSZ : Hid (wr.heap.size ≤ (wr.alloc (.cells (VcB ⟨kk, kn, .slice Ak lk ck, kb, ks, .slice Aq lq cq⟩) 26)).heap.size ∧ (wr.alloc (.cells (VcB ⟨kk, kn, .slice Ak lk ck, kb, ks, .slice Aq lq cq⟩) 26)).heap.size ≤ w2.heap.size) := Lib.hid ⟨HAL.out.size, hb2.size⟩
      clear hv hb2 y0 y1 y2 y3 y4 y5 HC
      go_wp2_with (at_builtin; refine wpList_pushV HV.out HU.out HB2.out HSZ.out.1 HSZ.out.2 HFV.out hlt 64 rfl _ _ rfl rfl rfl ?_; intro w5 hv5; have HV5 := Lib.hid hv5; clear hv5)
      exact ⟨⟨i + 1, _, rfl, rfl, HSI.out, HV5⟩, HME.out⟩
    · have hin : i = n := by omega
      subst hin
      go_wp2
      go_ret2
      exact ⟨ys, rfl, HV.out⟩
end Go.Proofs.YtloloifngbmibaaGreatDoor
set_option linter.unusedVariables false
set_option linter.unusedSimpArgs false
set_option maxRecDepth 4000
namespace Go.Proofs.YtloloifngbmibaaGreatDoor
open Go.RowKit

theorem keysOk {d a b st : Nat} {ts : List Tr} {ys : List Value} {w : World} (hf : FVsOf (FV false d) a b ts w ys) (hb : b ≤ w.heap.size) (hd : d ≤ 9) (hg : ∀ u ∈ ts, Good d u) (hk : KeysT d st ts) (hD : Dist d st ts) (hG : GL w) : KeysOk st ys w := by
  obtain ⟨hl, Bd, h0, h1, h2, h3⟩ := hf
  have hbd : ∀ i, i < ts.length → Bd (i + 1) ≤ w.heap.size := fun i hi => Nat.le_trans (bd_le h1 (show i + 1 ≤ ts.length by omega) (Nat.le_refl _)) (Nat.le_trans h2 hb)
  have hts : ∀ i y, ys[i]? = some y → i < ts.length ∧ ts[i]? = some (ts[i]?.getD tr0) := fun i y hy => by
    have hi : i < ts.length := by have := (List.getElem?_eq_some_iff.1 hy).1; omega
    rw [List.getElem?_eq_getElem hi]
    exact ⟨hi, rfl⟩
  refine ⟨fun i y him hy => ?_, fun i j y z hji him hjm hy hz W hW => ?_, fun y hy => ?_⟩
  · obtain ⟨hi, hu⟩ := hts i y hy
    have hv := (h3 i y _ hy hu).sval
    exact hashM_any d (M := Bd (i + 1)) ⟨w, Below.refl _ _⟩ (fun W hW => ⟨hv.keep (hW.mono (hbd i hi)), Nat.le_trans (hbd i hi) hW.size⟩) (hg _ (List.mem_of_getElem? hu)) (hk i _ him hu)
  · obtain ⟨hi, hu⟩ := hts i y hy
    obtain ⟨hj, hv⟩ := hts j z hz
    have s1 := (h3 i y _ hy hu).sval.keep (hW.mono (hbd i hi))
    have s2 := (h3 j z _ hz hv).sval.keep (hW.mono (hbd j hj))
    refine (eqS_any s1 s2 (Nat.le_trans (hbd i hi) hW.size) (Nat.le_trans (hbd j hj) hW.size) (hg _ (List.mem_of_getElem? hu)) (hg _ (List.mem_of_getElem? hv)) (hk i _ him hu) (hk j _ hjm hv) hd (hG.up hW)).mono (fun e w' h => ?_)
    obtain ⟨r, h4, h5, h6⟩ := h
    exact ⟨r, h4, fun hr => hD i j _ _ hji him hjm hu hv (h5 hr).symm, h6⟩
  · obtain ⟨i, hi⟩ := List.getElem?_of_mem hy
    obtain ⟨hi', hu⟩ := hts i y hi
    exact (h3 i y _ hi hu).ifc

theorem newList_any (A : Option Addr) (n c : Nat) (w : World) : Calls Tryz.prog 56 #[.slice A n c] w fun e w' => e = .returned (.pointer (some ⟨w.heap.size, 0, none⟩)) ∧ w' = w.alloc (.cells #[.slice A n c, .bool false, .int .u32 0] 158) := by
  go_enter Tryz.func56, Tryz.ntmps56
  go_wp2
  go_ret
  exact ⟨rfl, rfl⟩

section
variable {d : Nat} {t : Tr} {w w1 w2 w3 : World} {ys : List Value}
theorem ValsR.rd (h : ValsR d t.kids w1 t.kids.length t.kids.length ys w2) : Rd w2 (fun k => k = w1.heap.size) (some ⟨w1.heap.size, 0, none⟩) ys ∧ ys.length = t.kids.length := by
  have := ownsRow_rd h.row (fun k => k = w1.heap.size) rfl
  exact ⟨this.1, this.2.1⟩
theorem ValsR.fvs (h : ValsR d t.kids w1 t.kids.length t.kids.length ys w2) : FVsOf (FV false d) (w1.heap.size + 1) w2.heap.size t.kids w2 ys := by
  have := h.fv
  rw [List.take_length] at this
  exact this
theorem FV.mkTup (hk : t.k = 7) (h : ValsR d t.kids w1 t.kids.length t.kids.length ys w2) (hw : w.heap.size ≤ w1.heap.size) : FV false (d + 1) w.heap.size w2.heap.size t w2 (.iface 101 (.slice (some ⟨w1.heap.size, 0, none⟩) t.kids.length t.kids.length)) :=
  .inr (.inl ⟨hk, _, _, ys, w1.heap.size + 1, rfl, Nat.le_refl _, Nat.le_succ_of_le hw, h.rd.1.mono (fun k hk => by subst hk; exact ⟨hw, Nat.lt_succ_self _⟩), h.fvs⟩)
theorem FV.mkList (hk : t.k = 6) (h : ValsR d t.kids w1 t.kids.length t.kids.length ys w2) (hw : w.heap.size ≤ w1.heap.size) (hb : Below w2.heap.size w2 w3) (hB : Blk w3 w2.heap.size 158 #[.slice (some ⟨w1.heap.size, 0, none⟩) t.kids.length t.kids.length, .bool false, .int .u32 0]) :
    FV false (d + 1) w.heap.size w3.heap.size t w3 (.iface 99 (.pointer (some ⟨w2.heap.size, 0, none⟩))) :=
  .inr (.inr (.inl ⟨hk, _, _, ys, w1.heap.size + 1, w2.heap.size, rfl, hB, Nat.le_refl _, Nat.le_succ_of_le hw, h.big, hB.lt,
    (h.rd.1.keep (still_below hb (fun k hk => by subst hk; exact h.big))).mono (fun k hk => by subst hk; exact ⟨hw, Nat.lt_succ_self _⟩), h.fvs.keep (still_below hb (fun k hk => hk.2)) FV.keep⟩))
theorem FV.mkDict {es : List En} (hk : t.k = 8) (h : ValsR d t.kids w1 t.kids.length t.kids.length ys w2) (hw : w.heap.size ≤ w1.heap.size) (hd : DictR w2 ys t.kids.length es w3) :
    FV false (d + 1) w.heap.size w3.heap.size t w3 (.iface 102 (.pointer (some ⟨w2.heap.size, 0, none⟩))) := by
  refine .inr (.inr (.inr (.inl ⟨hk, es, w2.heap.size, rfl, hd.blk, Nat.le_trans hw (Nat.le_of_lt h.big), hd.blk.lt, hd.hz, ?_⟩)))
  have e1 := hd.fl
  rw [← h.rd.2, List.take_length] at e1
  rw [e1]
  exact (h.fvs.keep (still_below hd.low (fun k hk => hk.2)) FV.keep).wide (Nat.le_succ_of_le hw) (Nat.le_refl _)
theorem FV.mkSet {es : List En} (hk : t.k = 9) (h : ValsR d t.kids w1 t.kids.length t.kids.length ys w2) (hw : w.heap.size ≤ w1.heap.size) (hd : SetR w2 ys t.kids.length es w3) :
    FV false (d + 1) w.heap.size w3.heap.size t w3 (.iface 105 (.pointer (some ⟨w2.heap.size, 0, none⟩))) := by
  refine .inr (.inr (.inr (.inr ⟨hk, es, w2.heap.size, rfl, hd.blk, Nat.le_trans hw (Nat.le_of_lt h.big), hd.blk.lt, hd.hz, hd.hv, ?_⟩)))
  have e1 := hd.fl
  rw [← h.rd.2, List.take_length] at e1
  rw [e1]
  exact (h.fvs.keep (still_below hd.low (fun k hk => hk.2)) FV.keep).wide (Nat.le_succ_of_le hw) (Nat.le_refl _)
end

theorem value_leaf {d d' : Nat} {t : Tr} {x : Vc} {w : World} (h : HV d t x w) (g : GoodH t) (hk : t.k < 6) : Calls Tryz.prog 27 #[x.agg] w (MadeOut d' t w) := by
  obtain ⟨k, n, A, l, c, b, s, A', l', c', rfl⟩ := h.shape
  have hal : Below w.heap.size w (w.alloc (.cells (VcB ⟨k, n, .slice A l c, b, s, .slice A' l' c'⟩) 26)) := below_al (Below.refl _ _) _
  have e1 : k = t.k := by obtain ⟨S, h1, _⟩ := h; exact h1.head.k
  have HC := scalar_any (d' := d') (h.up hal) g hk
  rw [← e1] at hk HC
  replace HC := Lib.hid HC
  have HAL := Lib.hid hal
  clear h g e1 hal
  go_enter Tryz.func27, Tryz.ntmps27
  go_wp2_with fail
  refine HC.out.mono ?_
  rintro e w2 ⟨v, rfl, hv, hb⟩
  have HV := Lib.hid (hv.wide (a' := w.heap.size) HAL.out.size (Nat.le_refl _))
  have HB := Lib.hid (below_up HAL.out hb)
  clear hv hb HC HAL
  go_wp2
  go_ret2
  exact ⟨v, rfl, HV.out, HB.out⟩

theorem value_node {d : Nat} {t : Tr} {x : Vc} {w : World} (h : HV (d + 2) t x w) (g : Good (d + 1) t) (m : MakeT (d + 1) t) (hd : d ≤ 9) (hG : GL w) (hk : ¬ t.k < 6)
    (IH : ∀ u ∈ t.kids, ∀ (x : Vc) (W : World), Below w.heap.size w W → HV (d + 1) u x W → Calls Tryz.prog 27 #[x.agg] W (MadeOut d u W)) : Calls Tryz.prog 27 #[x.agg] w (MadeOut (d + 1) t w) := by
  obtain ⟨A2, c2, hq, hc2, hks⟩ := h.kids
  obtain ⟨k, n, A, l, c, b, s, A', l', c', rfl⟩ := h.shape
  have e1 : k = t.k := by obtain ⟨S, h1, _⟩ := h; exact h1.head.k
  simp only at hq
  injection hq with q1 q2 q3
  subst q1 q2 q3
  have hal : Below w.heap.size w (w.alloc (.cells (VcB ⟨k, n, .slice A l c, b, s, .slice A' t.kids.length c'⟩) 26)) := below_al (Below.refl _ _) _
  have HVS := Lib.hid (values_any d (c := c') g.head.kl (hks.up hal) (fun u hu x W hW hx => IH u hu x W (below_up hal hW) hx))
  have HAL := Lib.hid hal
  have hk9 := g.head.k.2
  have HG := Lib.hid (hG.up hal)
  have HGD := Lib.hid g
  have HMT := Lib.hid m
  have HD := Lib.hid hd
  rw [← e1] at hk hk9
  have HE1 := Lib.hid e1
  obtain ⟨nk, hnk⟩ : ∃ nk, nk = t.kids.length := ⟨_, rfl⟩
  have HBX := Lib.hid (Blk.new w 26 (VcB ⟨k, n, .slice A l c, b, s, .slice A' t.kids.length c'⟩))
  rw [← hnk] at HVS HAL HG HBX ⊢
  have HNK := Lib.hid hnk
  clear h hks g m hal IH e1 hd hG hc2 hnk
  have hsz : (w.alloc (.cells (VcB ⟨k, n, .slice A l c, b, s, .slice A' nk c'⟩) 26)).heap.size = w.heap.size + 1 := by simp
  have HSZ := Lib.hid hsz
  clear hsz
  have hcase : k = 6 ∨ k = 7 ∨ k = 8 ∨ k = 9 := by omega
  clear hk hk9
  rcases hcase with rfl | rfl | rfl | rfl
  · go_enter Tryz.func27, Tryz.ntmps27
    go_wp2_with fail
    refine HVS.out.mono ?_
    rintro e w2 ⟨ys, rfl, hv⟩
    have c0 := (HBX.out.below hv.low HBX.out.lt).cell 0
    simp at c0
    rw [← HNK.out]
    have HV := Lib.hid hv
    clear hv HVS
    go_wp2_with fail
    refine (newList_any _ _ _ _).mono ?_
    rintro e w3 ⟨rfl, hw3⟩
    have HF := Lib.hid (FV.mkList HE1.out.symm HV.out HAL.out.size (w3 := w3) (by rw [hw3]; exact below_al (Below.refl _ _) _) (by rw [hw3, ← HNK.out, HSZ.out]; exact Blk.new _ _ _))
    have HB : Hid (Below w.heap.size w w3) := Lib.hid (by rw [hw3]; exact below_al (below_up HAL.out HV.out.low) _)
    clear hw3 HV
    go_wp2
    go_ret2
    exact ⟨(.iface 99 (.pointer (some ⟨w2.heap.size, 0, none⟩))), rfl, HF.out, HB.out⟩
  · go_enter Tryz.func27, Tryz.ntmps27
    go_wp2_with fail
    refine HVS.out.mono ?_
    rintro e w2 ⟨ys, rfl, hv⟩
    have c0 := (HBX.out.below hv.low HBX.out.lt).cell 0
    simp at c0
    have HF := Lib.hid (FV.mkTup HE1.out.symm hv HAL.out.size)
    have HB := Lib.hid (below_up HAL.out hv.low)
    rw [← HNK.out, HSZ.out] at HF
    rw [← HNK.out]
    clear hv HVS
    go_wp2
    go_ret2
    exact ⟨(.iface 101 (.slice (some ⟨w.heap.size + 1, 0, none⟩) nk nk)), rfl, HF.out, HB.out⟩
  · go_enter Tryz.func27, Tryz.ntmps27
    go_wp2_with fail
    refine HVS.out.mono ?_
    rintro e w2 ⟨ys, rfl, hv⟩
    have c0 := (HBX.out.below hv.low HBX.out.lt).cell 0
    simp at c0
    have hmt := HMT.out.2.1 HE1.out.symm
    have HC := Lib.hid (dict_any (fun k => k = (w.alloc (.cells (VcB ⟨8, n, .slice A l c, b, s, .slice A' nk c'⟩) 26)).heap.size) _ t.kids.length t.kids.length ys hv.rd.2 HGD.out.head.kl hmt.1 w2 hv.rd.1 (fun k hk => by subst hk; exact hv.big) (keysOk hv.fvs (Nat.le_refl _) HD.out HGD.out.2.2.1 (HGD.out.2.2.2.1 HE1.out.symm).1 hmt.2 (HG.out.up hv.low)))
    have HV := Lib.hid hv
    rw [← HNK.out, HSZ.out] at HC
    rw [← HNK.out]
    clear hv HVS hmt
    go_wp2_with fail
    refine HC.out.mono ?_
    rintro e w3 ⟨rfl, es, hd⟩
    have hd2 := hd
    rw [HNK.out] at hd2
    have HF := Lib.hid (FV.mkDict HE1.out.symm HV.out HAL.out.size hd2)
    have HB := Lib.hid (below_up (below_up HAL.out HV.out.low) hd.low)
    clear hd hd2 HC HV
    go_wp2
    go_ret2
    exact ⟨(.iface 102 (.pointer (some ⟨w2.heap.size, 0, none⟩))), rfl, HF.out, HB.out⟩
  · go_enter Tryz.func27, Tryz.ntmps27
    go_wp2_with fail
    refine HVS.out.mono ?_
    rintro e w2 ⟨ys, rfl, hv⟩
    have c0 := (HBX.out.below hv.low HBX.out.lt).cell 0
    simp at c0
    have hmt := HMT.out.2.2 HE1.out.symm
    have HC := Lib.hid (set_any (fun k => k = (w.alloc (.cells (VcB ⟨9, n, .slice A l c, b, s, .slice A' nk c'⟩) 26)).heap.size) _ t.kids.length t.kids.length ys hv.rd.2 (HGD.out.2.2.2.2 HE1.out.symm).2.1 w2 hv.rd.1 (fun k hk => by subst hk; exact hv.big) (keysOk hv.fvs (Nat.le_refl _) HD.out HGD.out.2.2.1 (HGD.out.2.2.2.2 HE1.out.symm).1 hmt (HG.out.up hv.low)))
    have HV := Lib.hid hv
    rw [← HNK.out, HSZ.out] at HC
    rw [← HNK.out]
    clear hv HVS hmt
    go_wp2_with fail
    refine HC.out.mono ?_
    rintro e w3 ⟨rfl, es, hd⟩
    have hd2 := hd
    rw [HNK.out] at hd2
    have HF := Lib.hid (FV.mkSet HE1.out.symm HV.out HAL.out.size hd2)
    have HB := Lib.hid (below_up (below_up HAL.out HV.out.low) hd.low)
    clear hd hd2 HC HV
    go_wp2
    go_ret2
    exact ⟨(.iface 105 (.pointer (some ⟨w2.heap.size, 0, none⟩))), rfl, HF.out, HB.out⟩

theorem value_any : ∀ (d : Nat) {t : Tr} {x : Vc} {w : World}, d ≤ 9 → HV (d + 1) t x w → Good d t → MakeT d t → GL w → Calls Tryz.prog 27 #[x.agg] w (MadeOut d t w) := by
  intro d
  induction d with
  | zero =>
    intro t x w _ h g _ _
    exact value_leaf h g.head g.2.1
  | succ d ih =>
    intro t x w hd h g m hG
    by_cases hk : t.k < 6
    · exact value_leaf h g.head hk
    · exact value_node h g m (by omega) hG hk (fun u hu x W hW hx => ih (by omega) hx (g.2.2.1 u hu) (m.1 u hu) (hG.up (hW.mono (Nat.le_refl _))))
end Go.Proofs.YtloloifngbmibaaGreatDoor
set_option linter.unusedVariables false
set_option linter.unusedSimpArgs false
set_option maxRecDepth 4000
namespace Go.Proofs.YtloloifngbmibaaGreatDoor
open Go.RowKit

/-- What Freeze hands back: nothing. -/
def FrzE (Q : World → Prop) (e : Ending) (w' : World) : Prop := e = .returned (.tuple #[]) ∧ Q w'
/-- What can be frozen: how it is called. -/
def FrzM (v : Value) (W : World) (Q : World → Prop) : Prop := ∃ T x F, v = .iface T x ∧ (∀ W : World, (method 506 T x "Freeze").run Tryz.prog W = .ok (F, x) W) ∧ (∀ W : World, (callFunc F #[x]).run Tryz.prog W = .ok (.enter F #[x]) W) ∧ Calls Tryz.prog F #[x] W (FrzE Q)

theorem fzNone (x : Value) (w : World) : Calls Tryz.prog 309 #[x] w (FrzE (fun w' => Below w.heap.size w w')) := by
  go_enter Tryz.func309, Tryz.ntmps309
  go_wp2
  go_end0
  exact ⟨rfl, Below.refl _ _⟩
theorem fzBool (x : Value) (w : World) : Calls Tryz.prog 315 #[x] w (FrzE (fun w' => Below w.heap.size w w')) := by
  go_enter Tryz.func315, Tryz.ntmps315
  go_wp2
  go_end0
  exact ⟨rfl, Below.refl _ _⟩
theorem fzInt (s : Int) (a : Option Addr) (w : World) : Calls Tryz.prog 301 #[.agg #[.int .i64 s, .pointer a]] w (FrzE (fun w' => Below w.heap.size w w')) := by
  go_enter Tryz.func301, Tryz.ntmps301
  go_wp2
  go_end0
  exact ⟨rfl, below_al (Below.refl _ _) _⟩
theorem fzFlt (x : Value) (w : World) : Calls Tryz.prog 322 #[x] w (FrzE (fun w' => Below w.heap.size w w')) := by
  go_enter Tryz.func322, Tryz.ntmps322
  go_wp2
  go_end0
  exact ⟨rfl, Below.refl _ _⟩
theorem fzStr (x : Value) (w : World) : Calls Tryz.prog 333 #[x] w (FrzE (fun w' => Below w.heap.size w w')) := by
  go_enter Tryz.func333, Tryz.ntmps333
  go_wp2
  go_end0
  exact ⟨rfl, Below.refl _ _⟩
theorem fzByt (x : Value) (w : World) : Calls Tryz.prog 344 #[x] w (FrzE (fun w' => Below w.heap.size w w')) := by
  go_enter Tryz.func344, Tryz.ntmps344
  go_wp2
  go_end0
  exact ⟨rfl, Below.refl _ _⟩

/-- Element i of a slice can be frozen. -/
def ElFz (A : Option Addr) (i : Nat) (W : World) (Q : World → Prop) : Prop := ∃ b o v, A = some ⟨b, o, none⟩ ∧ W.cell? ⟨b, o + i, none⟩ = some v ∧ FrzM v W Q
theorem fzTup (A : Option Addr) (n c : Nat) (hn : n ≤ 1000) (Inv : Nat → World → Prop) (w : World) (h0 : Inv 0 w) (HK : ∀ i W, i < n → Inv i W → ElFz A i W (Inv (i + 1))) :
    Calls Tryz.prog 268 #[.slice A n c] w (FrzE (Inv n)) := by
  have HH := Lib.hid HK
  have H0 := Lib.hid h0
  clear HK h0
  go_enter Tryz.func268, Tryz.ntmps268
  go_wp2
  go_loopw [6] (fun iv wr => ∃ (i : Nat), iv = .int .i64 i ∧ i ≤ n ∧ Hid (Inv i wr)) (fun iv _ => n - (intOf iv).toNat)
  case atStart => exact ⟨0, rfl, Nat.zero_le _, H0⟩
  case round =>
    obtain ⟨i, rfl, hi, HI⟩ := hrel
    by_cases hlt : i < n
    · have HME := Lib.hid (ms_lt hlt)
      have HSI := Lib.hid (Nat.succ_le_of_lt hlt)
      obtain ⟨b, o, v, rfl, hce, T, x, F, rfl, hm, hf, hc⟩ := HH.out i wr hlt HI.out
      have HC := Lib.hid hc
      have hi1 : (i : Int) < (n : Int) := Int.ofNat_lt.2 hlt
      clear hc
      go_wp2_with fail
      refine HC.out.mono ?_
      rintro e w2 ⟨rfl, hq⟩
      have HQ := Lib.hid hq
      clear hq hce hm hf HC HI
      go_wp2_with fail
      exact ⟨⟨i + 1, rfl, HSI.out, HQ⟩, HME.out⟩
    · have hin : i = n := by omega
      subst hin
      go_wp2
      go_end0
      exact ⟨rfl, HI.out⟩

theorem fzListNo (g : Nat) (w : World) (h1 : w.cell? ⟨g, 1, none⟩ = some (.bool true)) : Calls Tryz.prog 261 #[.pointer (some ⟨g, 0, none⟩)] w (FrzE (fun w' => w' = w)) := by
  go_enter Tryz.func261, Tryz.ntmps261
  go_wp2
  go_end0
  exact ⟨rfl, rfl⟩
theorem fzList (g : Nat) (A : Option Addr) (n c : Nat) (hn : n ≤ 1000) (u : Value) (Inv : Nat → World → Prop) (w : World) (hb : Blk w g 158 #[.slice A n c, .bool false, u]) (h0 : Inv 0 (w.setCell ⟨g, 1, none⟩ (.bool true))) (HK : ∀ i W, i < n → Inv i W → ElFz A i W (Inv (i + 1))) :
    Calls Tryz.prog 261 #[.pointer (some ⟨g, 0, none⟩)] w (FrzE (Inv n)) := by
  have HH := Lib.hid HK
  have H0 := Lib.hid h0
  have c0 := hb.cell 0
  have c1 := hb.cell 1
  have f1 := hb.frozen 1
  have gl := hb.lt
  simp at c0 c1
  clear HK h0 hb
  go_enter Tryz.func261, Tryz.ntmps261
  go_wp2
  go_loopw [17] (fun iv wr => ∃ (i : Nat), iv = .int .i64 i ∧ i ≤ n ∧ Hid (Inv i wr)) (fun iv _ => n - (intOf iv).toNat)
  case atStart => exact ⟨0, rfl, Nat.zero_le _, H0⟩
  case round =>
    obtain ⟨i, rfl, hi, HI⟩ := hrel
    by_cases hlt : i < n
    · have HME := Lib.hid (ms_lt hlt)
      have HSI := Lib.hid (Nat.succ_le_of_lt hlt)
      obtain ⟨b, o, v, rfl, hce, T, x, F, rfl, hm, hf, hc⟩ := HH.out i wr hlt HI.out
      have HC := Lib.hid hc
      have hi1 : (i : Int) < (n : Int) := Int.ofNat_lt.2 hlt
      clear hc
      go_wp2_with fail
      refine HC.out.mono ?_
      rintro e w2 ⟨rfl, hq⟩
      have HQ := Lib.hid hq
      clear hq hce hm hf HC HI
      go_wp2_with fail
      exact ⟨⟨i + 1, rfl, HSI.out, HQ⟩, HME.out⟩
    · have hin : i = n := by omega
      subst hin
      go_wp2
      go_end0
      exact ⟨rfl, HI.out⟩

theorem htI_next (g : Nat) (es : List En) (fz : Bool) (j : Nat) (hj : j < es.length) (hn : es.length ≤ 8) : (htI g es fz)[1 + (7 - j) * 5 + 3]? = some (.pointer (if j + 1 < es.length then some ⟨g, 1 + (7 - (j + 1)) * 5, none⟩ else none)) := by
  rw [htI_en g es fz _ 3 (by omega) (by decide)]
  unfold enC
  rw [show 7 - (7 - j) = j by omega, List.getElem?_eq_getElem hj]
  simp only [List.getElem?_cons_succ, List.getElem?_cons_zero]
  by_cases h : j + 1 < es.length
  · rw [if_pos (by omega), if_pos h, show 7 - j - 1 = 7 - (j + 1) by omega]
  · rw [if_neg (by omega), if_neg h]
/-- Where entry j's pointer leads. -/
def ptE (g n j : Nat) : Value := .pointer (if j < n then some ⟨g, 1 + (7 - j) * 5, none⟩ else none)
theorem fzHtNo (g : Nat) (w : World) (h1 : w.cell? ⟨g, 46, none⟩ = some (.bool true)) : Calls Tryz.prog 280 #[.pointer (some ⟨g, 0, none⟩)] w (FrzE (fun w' => w' = w)) := by
  go_enter Tryz.func280, Tryz.ntmps280
  go_wp2
  go_end0
  exact ⟨rfl, rfl⟩
theorem fzHt (g n : Nat) (hn : n ≤ 8) (Inv : Nat → World → Prop) (w : World) (h44 : w.cell? ⟨g, 44, none⟩ = some (ptE g n 0)) (h46 : w.cell? ⟨g, 46, none⟩ = some (.bool false)) (hf46 : w.frozen? ⟨g, 46, none⟩ = false) (gl : g < w.heap.size) (h0 : Inv 0 (w.setCell ⟨g, 46, none⟩ (.bool true)))
    (HK : ∀ j W, j < n → Inv j W → ∃ k, W.cell? ⟨g, 1 + (7 - j) * 5 + 1, none⟩ = some k ∧ FrzM k W (fun W1 => ∃ v, W1.cell? ⟨g, 1 + (7 - j) * 5 + 2, none⟩ = some v ∧ FrzM v W1 (fun W2 => W2.cell? ⟨g, 1 + (7 - j) * 5 + 3, none⟩ = some (ptE g n (j + 1)) ∧ Inv (j + 1) W2))) :
    Calls Tryz.prog 280 #[.pointer (some ⟨g, 0, none⟩)] w (FrzE (Inv n)) := by
  have HH := Lib.hid HK
  have H0 := Lib.hid h0
  have hne : ∀ (W : World) (q : Nat), (binOp .neq 160 (.pointer (some ⟨g, q, none⟩)) (.pointer none)).run Tryz.prog W = .ok (.bool true) W := fun W q => by kernel_rfl
  have hno : ∀ (W : World), (binOp .neq 160 (.pointer none) (.pointer none)).run Tryz.prog W = .ok (.bool false) W := fun W => by kernel_rfl
  clear HK h0
  go_enter Tryz.func280, Tryz.ntmps280
  go_wp2
  go_loopw [2] (fun pv wr => ∃ (j : Nat), pv = ptE g n j ∧ j ≤ n ∧ Hid (Inv j wr)) (fun pv _ => match pv with | .pointer (some a) => a.off + 1 | _ => 0)
  case atStart => exact ⟨0, rfl, Nat.zero_le _, H0⟩
  case round =>
    obtain ⟨j, rfl, hj, HI⟩ := hrel
    by_cases hlt : j < n
    · have HSI := Lib.hid (Nat.succ_le_of_lt hlt)
      obtain ⟨k, hck, T, x, F, rfl, hm, hf, hc⟩ := HH.out j wr hlt HI.out
      have HC := Lib.hid hc
      rw [show ptE g n j = .pointer (some ⟨g, 1 + (7 - j) * 5, none⟩) by unfold ptE; rw [if_pos hlt]]
      clear hc
      go_wp2_with fail
      refine HC.out.mono ?_
      rintro e w2 ⟨rfl, v, hcv, T', x', F', rfl, hm', hf', hc'⟩
      have HC' := Lib.hid hc'
      clear hc' hck hm hf HC HI
      go_wp2_with fail
      refine HC'.out.mono ?_
      rintro e w3 ⟨rfl, hcn, hq⟩
      have HQ := Lib.hid hq
      have HME : Hid ((match ptE g n (j + 1) with | .pointer (some a) => a.off + 1 | _ => 0) < 1 + (7 - j) * 5 + 1) := Lib.hid (by
        unfold ptE
        by_cases h : j + 1 < n
        · rw [if_pos h]
          show 1 + (7 - (j + 1)) * 5 + 1 < 1 + (7 - j) * 5 + 1
          omega
        · rw [if_neg h]
          show 0 < 1 + (7 - j) * 5 + 1
          omega)
      clear hq hcv hm' hf' HC'
      go_wp2_with fail
      exact ⟨⟨j + 1, rfl, HSI.out, HQ⟩, HME.out⟩
    · have hin : j = n := by omega
      subst hin
      rw [show ptE g j j = .pointer none by unfold ptE; rw [if_neg hlt]]
      go_wp2
      go_end0
      exact ⟨rfl, HI.out⟩
end Go.Proofs.YtloloifngbmibaaGreatDoor
