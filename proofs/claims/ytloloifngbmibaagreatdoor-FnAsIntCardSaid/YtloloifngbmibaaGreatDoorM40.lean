/- The reference's Makes: what it tells. The thin package's scalar; lists, keys. The thin package's values. -/
import Derived.Test.YtloloifngbmibaaGreatDoorM39
import Derived.Test.YtloloifngbmibaaGreatDoorM01
set_option linter.unusedVariables false
set_option linter.unusedSimpArgs false
set_option maxRecDepth 4000
namespace Go.Proofs.YtloloifngbmibaaGreatDoor
open Go.RowKit

/-- No key stands twice. -/
def Dist (d st : Nat) (ts : List Tr) : Prop := ∀ i j u v, j < i → i % st = 0 → j % st = 0 → ts[i]? = some u → ts[j]? = some v → canon d v ≠ canon d u
/-- A value that can be made. -/
def MakeT : Nat → Tr → Prop
  | 0, _ => True
  | d + 1, t => (∀ u ∈ t.kids, MakeT d u) ∧ (t.k = 8 → t.kids.length % 2 = 0 ∧ Dist d 2 t.kids) ∧ (t.k = 9 → Dist d 1 t.kids)

theorem HVs.take {d : Nat} {ts : List Tr} {A : Option Addr} {W : World} (h : HVs d ts A W) (n : Nat) : HVs d (ts.take n) A W := by
  obtain ⟨S, xs, h1, h2, h3, h4⟩ := h
  refine ⟨S, xs.take n, by simp [h1], fun hn => ?_, fun i y u hy hu => ?_, h4⟩
  · obtain ⟨b, o, e, hb, hc⟩ := h2 (by rw [vcs_len] at hn ⊢; simp at hn; omega)
    refine ⟨b, o, e, hb, fun j u hu => hc j u ?_⟩
    have hj := (List.getElem?_eq_some_iff.1 hu).1
    rw [vcs_len] at hj
    have e2 : vcs xs = vcs (xs.take n) ++ vcs (xs.drop n) := by rw [← vcs_app, List.take_append_drop]
    rw [e2, List.getElem?_append_left (by rw [vcs_len]; exact hj)]
    exact hu
  · have hi : i < n := by
      have := (List.getElem?_eq_some_iff.1 hy).1
      simp at this
      omega
    rw [List.getElem?_take, if_pos hi] at hy hu
    exact h3 i y u hy hu

theorem makes_any : ∀ (d : Nat) {t : Tr} {x : Vc} {w : World}, HV (d + 1) t x w → Good d t → Calls Tryz.prog 20 #[x.agg] w (MakesOut (MakeT d t) w) := by
  have hcore : ∀ (d : Nat) {t : Tr} {x : Vc} {w : World}, HV (d + 1) t x w → GoodH t → t.k ≠ 8 ∧ t.k ≠ 9 → (P : Nat → Prop) → (∀ i, i < t.kids.length → ∀ W, Below w.heap.size w W → ∀ A, HVs d t.kids A W → ∃ u : Vc, KidAt W A i u ∧ Calls Tryz.prog 20 #[u.agg] W (MakesOut (P i) W)) →
      Calls Tryz.prog 20 #[x.agg] w (MakesOut (∀ i, i < t.kids.length → P i) w) := by
    intro d t x w h g hk P HK
    obtain ⟨A, c, hq, hc, hks⟩ := h.kids
    obtain ⟨S, h1, h2⟩ := id h
    obtain ⟨e1, e2, e3, e4, Am, cm, em, hcm, hr⟩ := h1.head
    obtain ⟨k, n, m, b, s, q⟩ := x
    simp only at e1 e2 e3 e4 em hq
    subst e1 e2 e3 e4 em hq
    exact makesA P (fun _ _ => True) t.k t.neg Am t.mag.length cm t.bits t.text A t.kids.length c (by have := g.kl; omega) hc hk g.k.1 g.k.2 w (fun i hi W hW => HK i hi W hW A (hks.up hW))
  intro d
  induction d with
  | zero =>
    intro t x w h g
    refine (hcore 0 h g.head ⟨by have := g.2.1; omega, by have := g.2.1; omega⟩ (fun _ => True) (fun i hi => by rw [g.2.2] at hi; simp at hi)).mono ?_
    rintro e w' ⟨r, rfl, _, hb⟩
    exact ⟨r, rfl, fun _ => trivial, hb⟩
  | succ d ih =>
    intro t x w h g
    have gh := g.head
    have HK : ∀ i, i < t.kids.length → ∀ W, Below w.heap.size w W → ∀ A, HVs (d + 1) t.kids A W → ∃ u : Vc, KidAt W A i u ∧ Calls Tryz.prog 20 #[u.agg] W (MakesOut (∀ u, t.kids[i]? = some u → MakeT d u) W) := by
      intro i hi W hW A hA
      obtain ⟨y, u, hu, hy, hya⟩ := hA.at_ hi
      refine ⟨y, hya, (ih hy (g.2.2.1 u (List.mem_of_getElem? hu))).mono ?_⟩
      rintro e w' ⟨r, rfl, hr, hb⟩
      refine ⟨r, rfl, fun h u' hu' => ?_, hb⟩
      rw [hu] at hu'
      injection hu' with hu'
      subst hu'
      exact hr h
    have hall : (∀ i, i < t.kids.length → ∀ u, t.kids[i]? = some u → MakeT d u) → ∀ u ∈ t.kids, MakeT d u := fun h u hu => by
      obtain ⟨i, hi⟩ := List.getElem?_of_mem hu
      exact h i (List.getElem?_eq_some_iff.1 hi).1 u hi
    by_cases hk : t.k ≠ 8 ∧ t.k ≠ 9
    · refine (hcore (d + 1) h gh hk _ HK).mono ?_
      rintro e w' ⟨r, rfl, hr, hb⟩
      exact ⟨r, rfl, fun h => ⟨hall (hr h), fun h8 => absurd h8 hk.1, fun h9 => absurd h9 hk.2⟩, hb⟩
    · obtain ⟨A, c, hq, hc, hks⟩ := h.kids
      obtain ⟨S, h1, h2⟩ := id h
      obtain ⟨e1, e2, e3, e4, Am, cm, em, hcm, hr⟩ := h1.head
      obtain ⟨k, n, m, b, s, q⟩ := x
      simp only at e1 e2 e3 e4 em hq
      subst e1 e2 e3 e4 em hq
      have H2 : ∀ st, 1 ≤ st ∧ st ≤ 2 → KeysT d st t.kids → ∀ i, i < t.kids.length → i % st = 0 → ∀ W, Below w.heap.size w W → ∃ u : Vc, KidAt W A i u ∧ Calls Tryz.prog 50 #[u.agg] W (fun e w' => e = .returned (.bool true) ∧ Below W.heap.size W w') ∧
          ∀ W', Below W.heap.size W W' → Calls Tryz.prog 51 #[.slice A i c, .int .i64 st, u.agg] W' (FindOut (fun j => ∃ u v, t.kids[i]? = some u ∧ t.kids[j]? = some v ∧ canon d v = canon d u) i st W') := by
        intro st hst hkeys i hi him W hW
        obtain ⟨y, u, hu, hy, hya⟩ := (hks.up hW).at_ hi
        have hgu := g.2.2.1 u (List.mem_of_getElem? hu)
        have hku := hkeys i u him hu
        have hh := hashx_any d hy hgu
        rw [key_hashB hku] at hh
        refine ⟨y, hya, hh, fun W' hW' => ?_⟩
        have hlen : (t.kids.take i).length = i := by rw [List.length_take]; omega
        have hf := find_any d st hst (ts := t.kids.take i) (A := A) (c := c) (key := u) (x := y) (w := W') (by rw [hlen]; have := gh.kl; omega) ((hks.up (below_up hW hW')).take i) (hy.up hW') (fun j v hj hv => by
          have hjl : j < i := by have := (List.getElem?_eq_some_iff.1 hv).1; rw [hlen] at this; exact this
          rw [List.getElem?_take, if_pos hjl] at hv
          exact ⟨g.2.2.1 v (List.mem_of_getElem? hv), hkeys j v hj hv⟩) hgu hku
        rw [hlen] at hf
        refine hf.mono ?_
        rintro e w' ⟨r, rfl, hr', hb⟩
        refine ⟨r, rfl, fun h j hj hjm hp => hr' h j hj hjm ?_, hb⟩
        obtain ⟨u', v, hu', hv, he⟩ := hp
        rw [hu] at hu'
        injection hu' with hu'
        subst hu'
        exact ⟨v, by rw [List.getElem?_take, if_pos hj]; exact hv, he⟩
      have hdist : ∀ st, (∀ i, i < t.kids.length → i % st = 0 → ∀ j, j < i → j % st = 0 → ¬ ∃ u v, t.kids[i]? = some u ∧ t.kids[j]? = some v ∧ canon d v = canon d u) → Dist d st t.kids := fun st h i j u v hj hi hjm hu hv he => h i (List.getElem?_eq_some_iff.1 hu).1 hi j hj hjm ⟨u, v, hu, hv, he⟩
      have hcase : t.k = 8 ∨ t.k = 9 := by omega
      rcases hcase with h8 | h9
      · refine (makes8 (fun i => ∀ u, t.kids[i]? = some u → MakeT d u) (fun i j => ∃ u v, t.kids[i]? = some u ∧ t.kids[j]? = some v ∧ canon d v = canon d u) t.k t.neg Am t.mag.length cm t.bits t.text A t.kids.length c (by have := gh.kl; omega) hc h8 gh.k.1 gh.k.2 w (fun i hi W hW => HK i hi W hW A (hks.up hW)) (H2 2 (by decide) (g.2.2.2.1 h8))).mono ?_
        rintro e w' ⟨r, rfl, hr', hb⟩
        exact ⟨r, rfl, fun h => ⟨hall (hr' h).1, fun _ => ⟨(hr' h).2.1, hdist 2 (hr' h).2.2⟩, fun h9 => by omega⟩, hb⟩
      · refine (makes9 (fun i => ∀ u, t.kids[i]? = some u → MakeT d u) (fun i j => ∃ u v, t.kids[i]? = some u ∧ t.kids[j]? = some v ∧ canon d v = canon d u) t.k t.neg Am t.mag.length cm t.bits t.text A t.kids.length c (by have := gh.kl; omega) hc h9 gh.k.1 gh.k.2 w (fun i hi W hW => HK i hi W hW A (hks.up hW)) (H2 1 (by decide) (g.2.2.2.2 h9).1)).mono ?_
        rintro e w' ⟨r, rfl, hr', hb⟩
        exact ⟨r, rfl, fun h => ⟨hall (hr' h).1, fun h8 => by omega, fun _ => hdist 1 (hr' h).2⟩, hb⟩
end Go.Proofs.YtloloifngbmibaaGreatDoor
set_option linter.unusedVariables false
set_option linter.unusedSimpArgs false
set_option maxRecDepth 4000
namespace Go.Proofs.YtloloifngbmibaaGreatDoor
open Go.RowKit

theorem floatOf_any (u : Nat) (hu : u < 18446744073709551616) (w : World) : Calls Tryz.prog 85 #[.int .u64 (u : Int)] w fun e w' => e = .returned (.float .f64 u) ∧ w' = w := by
  have hb := fun W => ffb_call u W
  have hc : ∀ W : World, (convert 83 147 (.float .f64 u)).run Tryz.prog W = .ok (.float .f64 u) W := fun W => by kernel_rfl
  clear hu
  go_enter Tryz.func85, Tryz.ntmps85
  go_wp2
  go_ret
  exact ⟨rfl, rfl⟩

/-- What a maker of values hands back. -/
def MadeOut (d : Nat) (t : Tr) (w : World) (e : Ending) (w' : World) : Prop := ∃ v, e = .returned (.tuple #[v, .bool true]) ∧ FV false d w.heap.size w'.heap.size t w' v ∧ Below w.heap.size w w'
theorem FVF.fv {fz : Bool} {d a b : Nat} {t : Tr} {W : World} {v : Value} (h : FVF a b t W v) : FV fz d a b t W v := by
  cases d with
  | zero => exact h
  | succ d => exact .inl h

theorem scalar_any {d d' : Nat} {t : Tr} {x : Vc} {w : World} (h : HV d t x w) (g : GoodH t) (hk : t.k < 6) : Calls Tryz.prog 54 #[.int .i64 t.k, x.agg] w (MadeOut d' t w) := by
  have hH : ∀ W, Below w.heap.size w W → HV d t x W := fun W hW => h.up hW
  have HWH := Lib.hid (fun W (hW : Below w.heap.size w W) => whI_any (h.up hW) g)
  obtain ⟨S, h1, h2⟩ := h
  obtain ⟨A', nq, cq, hq, _⟩ := h1.kidsV
  obtain ⟨e1, e2, e3, e4, A, cm, em, hcm, hr⟩ := h1.head
  obtain ⟨k, n, m, b, s, q⟩ := x
  simp only at e1 e2 e3 e4 em hq
  subst e1 e2 e3 e4 em hq
  have hal : Below w.heap.size w (w.alloc (.cells (VcB ⟨t.k, t.neg, .slice A t.mag.length cm, t.bits, t.text, .slice A' nq cq⟩) 26)) := below_al (Below.refl _ _) _
  have HAL := Lib.hid hal
  have hk0 := g.k.1
  have hb0 := g.b
  have HBO := Lib.hid g.bool
  obtain ⟨k, hkk⟩ : ∃ k, k = t.k := ⟨_, rfl⟩
  obtain ⟨bt, hbt⟩ : ∃ bt, bt = t.bits := ⟨_, rfl⟩
  obtain ⟨ng, hng⟩ : ∃ ng, ng = t.neg := ⟨_, rfl⟩
  obtain ⟨ml, hml⟩ : ∃ ml, ml = t.mag.length := ⟨_, rfl⟩
  obtain ⟨tx, htx⟩ : ∃ tx, tx = t.text := ⟨_, rfl⟩
  rw [← hkk, ← hbt] at HBO
  rw [← hkk, ← hbt, ← hng, ← hml, ← htx] at HWH
  rw [← hkk, ← hbt, ← hng, ← hml, ← htx] at HAL
  rw [← hkk, ← hbt, ← hng, ← hml, ← htx]
  rw [← hkk] at hk hk0
  rw [← hbt] at hb0
  have HK := Lib.hid hkk
  have HBT := Lib.hid hbt
  have HTX := Lib.hid htx
  have HNG := Lib.hid hng
  clear hH h1 h2 hr hal hkk hbt hng hml htx g
  have hcase : k = 0 ∨ k = 1 ∨ k = 2 ∨ k = 3 ∨ k = 4 ∨ k = 5 := by omega
  clear hk hk0
  rcases hcase with rfl | rfl | rfl | rfl | rfl | rfl
  · go_enter Tryz.func54, Tryz.ntmps54
    go_wp2
    go_ret2
    exact ⟨_, rfl, (FVF.none HK.out.symm).fv, HAL.out⟩
  · have hb1 : bt ≤ 1 := by have := HBO.out rfl; omega
    have HV : Hid (∀ W, FVF w.heap.size W.heap.size t W (.iface 146 (.bool (bt == 1)))) := Lib.hid fun W => by
      rw [HBT.out]
      exact .bool HK.out.symm
    have HAD := Lib.hid HAL.out.drew
    clear HBO HWH HAL
    go_enter Tryz.func54, Tryz.ntmps54
    go_wp2
    go_quiet (fail)
    go_wp2
    go_ret2
    exact ⟨_, rfl, (HV.out _).fv, below_drewN' (below_al (Below.refl _ _) _) _⟩
  · go_enter Tryz.func54, Tryz.ntmps54
    go_wp2_with fail
    refine (HWH.out _ HAL.out).mono ?_
    rintro e w2 ⟨v, rfl, hsi, hb⟩
    obtain ⟨sv, av, rfl⟩ := hsi.shape
    have HSI := Lib.hid ((hsi.low HAL.out.size).smi)
    have HB := Lib.hid (below_up HAL.out hb)
    clear hsi hb HWH HAL
    go_wp2
    go_ret2
    refine ⟨_, rfl, (FVF.int _ HK.out.symm ?_).fv, HB.out⟩
    rw [← HNG.out]
    exact HSI.out
  · obtain ⟨u, rfl⟩ := Int.eq_ofNat_of_zero_le hb0.1
    have hu : u < 18446744073709551616 := by omega
    have HF := Lib.hid (fun w => floatOf_any u hu w)
    clear hu hb0 HWH HBO
    go_enter Tryz.func54, Tryz.ntmps54
    go_wp2_with fail
    refine (HF.out _).mono ?_
    rintro e w2 ⟨rfl, rfl⟩
    go_wp2
    go_ret2
    refine ⟨_, rfl, ?_, HAL.out⟩
    have h1 := FVF.flt (a := w.heap.size) (b := (w.alloc (.cells (VcB ⟨3, ng, .slice A ml cm, (u : Int), tx, .slice A' nq cq⟩) 26)).heap.size) (W := w.alloc (.cells (VcB ⟨3, ng, .slice A ml cm, (u : Int), tx, .slice A' nq cq⟩) 26)) HK.out.symm
    rw [← HBT.out] at h1
    exact h1.fv
  · go_enter Tryz.func54, Tryz.ntmps54
    go_wp2
    go_ret2
    refine ⟨_, rfl, ?_, HAL.out⟩
    rw [HTX.out]
    exact (FVF.str HK.out.symm).fv
  · go_enter Tryz.func54, Tryz.ntmps54
    go_wp2
    go_ret2
    refine ⟨_, rfl, ?_, HAL.out⟩
    rw [HTX.out]
    exact (FVF.byt HK.out.symm).fv
end Go.Proofs.YtloloifngbmibaaGreatDoor
set_option linter.unusedVariables false
set_option linter.unusedSimpArgs false
set_option maxRecDepth 4000
namespace Go.Proofs.YtloloifngbmibaaGreatDoor
open Go.RowKit

theorem ownsRow_keep {W W' : World} {base size g k cap k' : Nat} {e : TypeId} {xs : List Value} (h : W.ownsRow base e size (.slice (some ⟨g, 0, none⟩) k cap) k' xs) (hk : W'.heap[g]? = W.heap[g]?) : W'.ownsRow base e size (.slice (some ⟨g, 0, none⟩) k cap) k' xs := by
  refine ⟨h.1, ?_⟩
  rcases h.2 with ⟨h1, _⟩ | ⟨g', cap', cur, e1, h2, h3, h4⟩
  · cases h1
  · have : g' = g := by
      injection e1 with e1
      injection e1 with e1
      injection e1 with e1
      exact e1.symm
    subst this
    exact .inr ⟨g', cap', cur, e1, h2, hk.trans h3, h4⟩
theorem ownsRow_rd {W : World} {base g k cap : Nat} {e : TypeId} {xs : List Value} (h : W.ownsRow base e 1 (.slice (some ⟨g, 0, none⟩) k cap) k xs) (S : Nat → Prop) (hS : S g) : Rd W S (some ⟨g, 0, none⟩) xs ∧ xs.length = k ∧ k ≤ cap := by
  have hl : xs.length = k := by have := h.1; omega
  rcases h.2 with ⟨h1, _⟩ | ⟨g', cap', cur, e1, h2, h3, h4, h5, h6, h7⟩
  · cases h1
  · have e2 : g' = g := by
      injection e1 with e1
      injection e1 with e1
      injection e1 with e1
      exact e1.symm
    have e3 : cap' = cap := by
      injection e1 with _ _ e3
      exact e3.symm
    subst e2 e3
    refine ⟨?_, hl, h4⟩
    have : Blk W g' e (xs ++ cur.toList.drop k).toArray := by
      rw [← h7, Nat.mul_one, List.take_append_drop]
      exact h3
    exact Rd.of_blk this hS

/-- Values under way. -/
structure ValsR (d : Nat) (ts : List Tr) (w : World) (i n : Nat) (ys : List Value) (W : World) : Prop where
  row : W.ownsRow w.heap.size 64 1 (.slice (some ⟨w.heap.size, 0, none⟩) i n) i ys
  low : Below w.heap.size w W
  big : w.heap.size < W.heap.size
  fv : FVsOf (FV false d) (w.heap.size + 1) W.heap.size (ts.take i) W ys
theorem FV.ifc {fz : Bool} {d a b : Nat} {t : Tr} {W : World} {v : Value} (h : FV fz d a b t W v) : ∃ T x, v = .iface T x := by
  have hf : ∀ {v : Value}, FVF a b t W v → ∃ T x, v = .iface T x := fun h => by cases h <;> exact ⟨_, _, rfl⟩
  cases d with
  | zero => exact hf h
  | succ d =>
    rcases h with h | ⟨hk, A, c, ys, m, e, _⟩ | ⟨hk, A, c, ys, m, g, e, _⟩ | ⟨hk, es, g, e, _⟩ | ⟨hk, es, g, e, _⟩
    · exact hf h
    all_goals exact ⟨_, _, e⟩
theorem FVsOf.snoc {fz : Bool} {d a b b' : Nat} {ts : List Tr} {W : World} {ys : List Value} (h : FVsOf (FV fz d) a b ts W ys) {u : Tr} {v : Value} {a' : Nat} (ha : b ≤ a') (hab : a' ≤ b') (hv : FV fz d a' b' u W v) : FVsOf (FV fz d) a b' (ts ++ [u]) W (ys ++ [v]) := by
  obtain ⟨hl, Bd, h0, h1, h2, h3⟩ := h
  refine ⟨by simp [hl], fun j => if j ≤ ts.length then Bd j else b', ?_, ?_, ?_, ?_⟩
  · dsimp only
    rw [if_pos (Nat.zero_le _)]
    exact h0
  · intro i hi
    simp at hi
    dsimp only
    by_cases hlt : i < ts.length
    · rw [if_pos (by omega), if_pos (by omega)]
      exact h1 i hlt
    · rw [if_pos (by omega), if_neg (by omega), show i = ts.length by omega]
      omega
  · dsimp only
    rw [if_neg (by simp)]
    exact Nat.le_refl _
  · intro i y u' hy hu'
    dsimp only
    by_cases hlt : i < ts.length
    · rw [if_pos (by omega), if_pos (by omega)]
      rw [List.getElem?_append_left (by omega)] at hy hu'
      exact h3 i y u' hy hu'
    · have hi : i = ts.length := by
        have := (List.getElem?_eq_some_iff.1 hu').1
        simp at this
        omega
      subst hi
      rw [if_pos (Nat.le_refl _), if_neg (by omega)]
      rw [← hl, List.getElem?_append_right (Nat.le_refl _)] at hy
      rw [List.getElem?_append_right (Nat.le_refl _)] at hu'
      simp at hy hu'
      subst hy hu'
      exact hv.wide (Nat.le_trans h2 ha) (Nat.le_refl _)
theorem ValsR.step {d : Nat} {ts : List Tr} {w : World} {i n : Nat} {ys : List Value} {W : World} (h : ValsR d ts w i n ys W) {u : Tr} (hu : ts[i]? = some u) {W2 W3 W4 : World} {a : Nat} {v : Value} (h1 : Below W.heap.size W W2) (ha : W.heap.size ≤ a) (hab : a ≤ W2.heap.size) (hv : FV false d a W2.heap.size u W2 v)
    (h3 : Below W2.heap.size W2 W3) (hrow : W4.ownsRow w.heap.size 64 1 (.slice (some ⟨w.heap.size, 0, none⟩) (i + 1) n) (i + 1) (ys ++ [v])) (hg : W3.grownBy W4 (some w.heap.size)) : ValsR d ts w (i + 1) n (ys ++ [v]) W4 := by
  have hs4 : W3.heap.size ≤ W4.heap.size := hg.size
  have hk4 : ∀ k, k < W3.heap.size → k ≠ w.heap.size → W4.heap[k]? = W3.heap[k]? := fun k hk hne => hg.block k hk (fun e => hne (Option.some.inj e))
  have h13 := below_up h1 h3
  refine ⟨hrow, ?_, Nat.lt_of_lt_of_le h.big (Nat.le_trans h13.size hs4), ?_⟩
  · have hw3 := below_up h.low (below_up h1 h3 |>.mono (Nat.le_refl _))
    refine ⟨hg.os.trans hw3.os, hg.tape.trans hw3.tape, hg.output.trans hw3.output, Nat.le_trans hw3.size hs4, fun k hk => (hk4 k (Nat.lt_of_lt_of_le hk hw3.size) (by omega)).trans (hw3.block k hk)⟩
  · have e1 : ts.take (i + 1) = ts.take i ++ [u] := by rw [List.take_add_one, hu]; rfl
    rw [e1]
    have hst : ∀ b, b ≤ W2.heap.size → Still (Itv (w.heap.size + 1) b) W2 W4 := fun b hb k hk => (hk4 k (Nat.lt_of_lt_of_le (Nat.lt_of_lt_of_le hk.2 hb) h3.size) (by have := hk.1; omega)).trans (h3.block k (Nat.lt_of_lt_of_le hk.2 hb))
    have f1 : FVsOf (FV false d) (w.heap.size + 1) W.heap.size (ts.take i) W4 ys := (h.fv.keep (still_below h1 (fun k hk => hk.2)) FV.keep).keep (hst _ h1.size) FV.keep
    have f2 : FV false d a W4.heap.size u W4 v := (hv.keep ((hst _ (Nat.le_refl _)).mono (fun k hk => hk.wide (Nat.succ_le_of_lt (Nat.lt_of_lt_of_le h.big ha)) (Nat.le_refl _)))).wide (Nat.le_refl _) (Nat.le_trans h3.size hs4)
    exact f1.snoc ha (Nat.le_trans hab (Nat.le_trans h3.size hs4)) f2

theorem HV.shape {d : Nat} {t : Tr} {x : Vc} {w : World} (h : HV d t x w) : ∃ (k : Int) (n : Bool) (A : Option Addr) (l c : Nat) (b : Int) (s : ByteArray) (A' : Option Addr) (l' c' : Nat), x = ⟨k, n, .slice A l c, b, s, .slice A' l' c'⟩ := by
  obtain ⟨S, h1, _⟩ := h
  obtain ⟨A', nq, cq, hq, _⟩ := h1.kidsV
  obtain ⟨_, _, _, _, A, cm, em, _⟩ := h1.head
  obtain ⟨k, n, m, b, s, q⟩ := x
  simp only at em hq
  subst em hq
  exact ⟨_, _, _, _, _, _, _, _, _, _, rfl⟩
theorem infoV : (Tryz.prog.info? 64).map (fun i => (i.zero, i.size, i.bytes)) = some (some .nilIface, 1, 16) := by kernel_rfl
theorem wpList_pushV {d : Nat} {ts : List Tr} {w : World} {i n : Nat} {ys : List Value} {wr : World} (h : ValsR d ts w i n ys wr) {u : Tr} (hu : ts[i]? = some u) {w2 : World} {b : Nat} {T : TypeId} {x : Value} (h1 : Below wr.heap.size wr w2) (ha : wr.heap.size ≤ b) (hab : b ≤ w2.heap.size) (hv : FV false d b w2.heap.size u w2 (.iface T x)) (hin : i < n) (TT : TypeId)
    {ops : Array Oper} {rest : List Oper} {o : Oper} {a : Act} {Q : Exit → Act → World → Prop} (hgd : o.guard = none) (s z : Operand)
    (ho : o.op = .call { callee := .builtin .append, args := #[s, z], argTypes := #[96, 96] })
    (hs : a.eval s = .slice (some ⟨w.heap.size, 0, none⟩) i n) (hz : a.eval z = .slice (some ⟨w2.heap.size, 0, none⟩) 1 1)
    (hK : ∀ w', ValsR d ts w (i + 1) n (ys ++ [.iface T x]) w' → wpList Tryz.prog ops Q rest (a.put o.dst (.slice (some ⟨w.heap.size, 0, none⟩) (i + 1) n)) w') : wpList Tryz.prog ops Q (o :: rest) a (w2.alloc (.cells #[.iface T x] TT)) := by
  obtain ⟨ti, hi1, hi2, hi3, hi4⟩ := info_parts infoV
  have h3 : Below w2.heap.size w2 (w2.alloc (.cells #[.iface T x] TT)) := below_al (Below.refl _ _) _
  refine wpList_append_fits _ hgd s z 96 ho w.heap.size 64 ti 1 Tryz.underlying96 hi1 hi3 w.heap.size i n ys hs (ownsRow_keep h.row ((below_up h1 h3).block _ h.big)) ⟨w2.heap.size, 0, none⟩ 1 1 [.iface T x] hz rfl ?_ (fun v hv => by rw [List.mem_singleton.1 hv]; rfl) (by omega) (fun w' hrow hg => hK w' (h.step hu h1 ha hab hv h3 hrow hg))
  intro j v hj
  have hj0 : j = 0 := by
    have := (List.getElem?_eq_some_iff.1 hj).1
    simp at this
    exact this
  subst hj0
  simp at hj
  subst hj
  rw [show ((⟨w2.heap.size, 0, none⟩ : Addr).add 0) = ⟨w2.heap.size, 0, none⟩ from rfl, (Blk.new w2 TT #[.iface T x]).cell]
  rfl
/-- What values hands back. -/
def ValsOut (d : Nat) (ts : List Tr) (w : World) (e : Ending) (w' : World) : Prop := ∃ ys, e = .returned (.tuple #[.slice (some ⟨w.heap.size, 0, none⟩) ts.length ts.length, .bool true]) ∧ ValsR d ts w ts.length ts.length ys w'
theorem values_any (d : Nat) {ts : List Tr} {A : Option Addr} {c : Nat} {w : World} (hn : ts.length ≤ 16) (hks : HVs (d + 1) ts A w)
    (IH : ∀ u ∈ ts, ∀ (x : Vc) (W : World), Below w.heap.size w W → HV (d + 1) u x W → Calls Tryz.prog 27 #[x.agg] W (MadeOut d u W)) :
    Calls Tryz.prog 55 #[.slice A ts.length c] w (ValsOut d ts w) := by
  obtain ⟨ti, hi1, hi2, hi3, hi4⟩ := info_parts infoV
  obtain ⟨n, hnn⟩ : ∃ n, n = ts.length := ⟨_, rfl⟩
  have HN := Lib.hid hnn
  have HK := Lib.hid hks
  have HIH := Lib.hid IH
  have hn' : n ≤ 16 := by omega
  unfold ValsOut
  rw [← hnn]
  clear hks IH hn hnn
  go_enter Tryz.func55, Tryz.ntmps55
  go_wp2_with (at_make; refine wpList_make_own _ rfl _ _ 96 rfl w.heap.size 64 ti .nilIface 1 Tryz.underlying96 hi1 hi2 hi3 _ _ _ n rfl rfl rfl (by rw [hi4]; omega) (by unfold maxLen; omega) (Nat.le_refl _) ?_; intro w1 hown hgr)
  have h0 : Hid (ValsR d ts w 0 n [] w1) := Lib.hid ⟨hown, ⟨hgr.os, hgr.tape, hgr.output, hgr.size, fun k hk => hgr.block k hk (by simp)⟩, (by
      rcases hown.2 with ⟨h, _⟩ | ⟨g, cap, cur, e1, _, h, _⟩
      · cases h
      · injection e1 with e1
        injection e1 with e1
        injection e1 with e1
        rw [e1]
        exact (Array.getElem?_eq_some_iff.1 h).1), ⟨by simp, fun _ => w.heap.size + 1, Nat.le_refl _, fun _ _ => Nat.le_refl _, (by
      rcases hown.2 with ⟨h, _⟩ | ⟨g, cap, cur, e1, _, h, _⟩
      · cases h
      · injection e1 with e1
        injection e1 with e1
        injection e1 with e1
        rw [e1]
        exact (Array.getElem?_eq_some_iff.1 h).1), fun i y u hy _ => by simp at hy⟩⟩
  clear hown hgr
  go_wp2
  go_loopw [4, 14] (fun sv iv wr => ∃ (i : Nat) (ys : List Value), sv = .slice (some ⟨w.heap.size, 0, none⟩) i n ∧ iv = .int .i64 i ∧ i ≤ n ∧ Hid (ValsR d ts w i n ys wr)) (fun _ iv _ => n - (intOf iv).toNat)
  case atStart => exact ⟨0, [], rfl, rfl, Nat.zero_le _, h0⟩
  case round =>
    obtain ⟨i, ys, rfl, rfl, hi, HV⟩ := hrel
    clear h0
    by_cases hlt : i < n
    · have HME := Lib.hid (ms_lt hlt)
      have HSI := Lib.hid (Nat.succ_le_of_lt hlt)
      obtain ⟨y, u, hu, hy, b, o, rfl, y0, y1, y2, y3, y4, y5⟩ := (HK.out.up HV.out.low).at_ (i := i) (by have := HN.out; omega)
      obtain ⟨kk, kn, Ak, lk, ck, kb, ks, Aq, lq, cq, rfl⟩ := hy.shape
      have hal := below_al (Below.refl wr.heap.size wr) (.cells (VcB ⟨kk, kn, .slice Ak lk ck, kb, ks, .slice Aq lq cq⟩) 26)
      have HC := Lib.hid (HIH.out u (List.mem_of_getElem? hu) _ _ (below_up HV.out.low hal) (hy.up hal))
      have HU := Lib.hid hu
      have HAL := Lib.hid hal
      have hi1 : (i : Int) < (n : Int) := Int.ofNat_lt.2 hlt
      clear hu hy hal
      go_wp2_with fail
      refine HC.out.mono ?_
      rintro e w2 ⟨v, rfl, hv, hb2⟩
      obtain ⟨T, x, rfl⟩ := hv.ifc
      have HB2 := Lib.hid (below_up HAL.out hb2)
      have HFV := Lib.hid hv
      have HSZ : Hid (wr.heap.size ≤ (wr.alloc (.cells (VcB ⟨kk, kn, .slice Ak lk ck, kb, ks, .slice Aq lq cq⟩) 26)).heap.size ∧ (wr.alloc (.cells (VcB ⟨kk, kn, .slice Ak lk ck, kb, ks, .slice Aq lq cq⟩) 26)).heap.size ≤ w2.heap.size) := Lib.hid ⟨HAL.out.size, hb2.size⟩
      clear hv hb2 y0 y1 y2 y3 y4 y5 HC
      go_wp2_with (at_builtin; refine wpList_pushV HV.out HU.out HB2.out HSZ.out.1 HSZ.out.2 HFV.out hlt 64 rfl _ _ rfl rfl rfl ?_; intro w5 hv5; have HV5 := Lib.hid hv5; clear hv5)
      exact ⟨⟨i + 1, _, rfl, rfl, HSI.out, HV5⟩, HME.out⟩
    · have hin : i = n := by omega
      subst hin
      go_wp2
      go_ret2
      exact ⟨ys, rfl, HV.out⟩
end Go.Proofs.YtloloifngbmibaaGreatDoor
