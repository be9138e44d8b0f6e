/- Freeze: what it does. Freeze of any value. Telling: numbers, iterators. Telling: what an iterator does. -/
import Derived.Test.YtloloifngbmibaaGreatDoorM31
import Derived.BigQuiet
import Derived.BigRegion
set_option linter.unusedVariables false
set_option linter.unusedSimpArgs false
set_option maxRecDepth 4000
namespace Go.Proofs.YtloloifngbmibaaGreatDoor
open Go.RowKit

theorem FrzM.mono {v : Value} {W : World} {Q Q' : World → Prop} (h : FrzM v W Q) (hq : ∀ W', Q W' → Q' W') : FrzM v W Q' := by
  obtain ⟨T, x, F, h1, h2, h3, h4⟩ := h
  exact ⟨T, x, F, h1, h2, h3, h4.mono (fun e w' h => ⟨h.1, hq _ h.2⟩)⟩
/-- Kids under way: those before place i are frozen. -/
structure Mix (fz : Bool) (d : Nat) (ts : List Tr) (ys : List Value) (Bd : Nat → Nat) (i : Nat) (w0 W : World) : Prop where
  but : But (Itv (Bd 0) (Bd ts.length)) w0 W
  kid : ∀ (j : Nat) (y : Value) (u : Tr), ys[j]? = some y → ts[j]? = some u → FV (fz || decide (j < i)) d (Bd j) (Bd (j + 1)) u W y
theorem Mix.step {fz : Bool} {d : Nat} {ts : List Tr} {ys : List Value} {Bd : Nat → Nat} {i : Nat} {w0 W W' : World} (h : Mix fz d ts ys Bd i w0 W) (hl : ys.length = ts.length) (hm : ∀ j, j < ts.length → Bd j ≤ Bd (j + 1)) (hs : Bd ts.length ≤ W.heap.size) (hi : i < ts.length)
    (hf : ∀ y u, ys[i]? = some y → ts[i]? = some u → FV true d (Bd i) (Bd (i + 1)) u W' y) (hb : But (Itv (Bd i) (Bd (i + 1))) W W') : Mix fz d ts ys Bd (i + 1) w0 W' := by
  refine ⟨h.but.trans (hb.mono (fun k hk => hk.wide (bd_le hm (Nat.zero_le _) (by omega)) (bd_le hm (by omega) (Nat.le_refl _)))), fun j y u hy hu => ?_⟩
  have hj : j < ts.length := (List.getElem?_eq_some_iff.1 hu).1
  by_cases he : j = i
  · subst he
    rw [show (fz || decide (j < j + 1)) = true by simp]
    exact hf y u hy hu
  · have e : (fz || decide (j < i + 1)) = (fz || decide (j < i)) := by
      congr 1
      exact decide_eq_decide.2 (by omega)
    rw [e]
    refine (h.kid j y u hy hu).keep (fun k hk => hb.block k ?_ (fun hk' => ?_))
    · exact Nat.lt_of_lt_of_le hk.2 (Nat.le_trans (bd_le hm (by omega) (Nat.le_refl _)) hs)
    · rcases Nat.lt_or_gt_of_ne he with hlt | hlt
      · have := bd_le hm (show j + 1 ≤ i by omega) (by omega)
        have h1 := hk.2
        have h2 := hk'.1
        omega
      · have := bd_le hm (show i + 1 ≤ j by omega) (by omega)
        have h1 := hk.1
        have h2 := hk'.2
        omega
theorem Mix.done {fz : Bool} {d : Nat} {ts : List Tr} {ys : List Value} {Bd : Nat → Nat} {w0 W : World} (h : Mix fz d ts ys Bd ts.length w0 W) {a b : Nat} (hl : ys.length = ts.length) (h0 : a ≤ Bd 0) (hm : ∀ j, j < ts.length → Bd j ≤ Bd (j + 1)) (h2 : Bd ts.length ≤ b) : FVsOf (FV true d) a b ts W ys :=
  ⟨hl, Bd, h0, hm, h2, fun i y u hy hu => by
    have hi := (List.getElem?_eq_some_iff.1 hu).1
    have := h.kid i y u hy hu
    rw [show (fz || decide (i < ts.length)) = true by simp [hi]] at this
    exact this⟩

theorem htC_frz (g : Nat) (es : List En) : (htC g es false).toArray.setIfInBounds 46 (.bool true) = (htC g es true).toArray := by
  unfold htC
  by_cases h0 : es.length = 0
  · rw [if_pos h0, if_pos h0]
    rfl
  · rw [if_neg h0, if_neg h0]
    have e : ∀ fz, htI g es fz = (.slice (some ⟨g, 1, none⟩) 1 1 :: ((List.range 8).flatMap (enC g es) ++ [.pointer none, .int .u32 es.length, .int .u32 0, if es.length = 0 then .pointer none else .pointer (some ⟨g, 36, none⟩), .pointer (some ⟨g, tOff es.length, none⟩)])) ++ [.bool fz] := fun fz => by
      unfold htI
      simp
    rw [e, e]
    have hl : (Value.slice (some ⟨g, 1, none⟩) 1 1 :: ((List.range 8).flatMap (enC g es) ++ [.pointer none, .int .u32 es.length, .int .u32 0, if es.length = 0 then .pointer none else .pointer (some ⟨g, 36, none⟩), .pointer (some ⟨g, tOff es.length, none⟩)])).length = 46 := by
      rw [List.length_cons, List.length_append, htI_flat]
      rfl
    generalize (Value.slice (some ⟨g, 1, none⟩) 1 1 :: ((List.range 8).flatMap (enC g es) ++ [.pointer none, .int .u32 es.length, .int .u32 0, if es.length = 0 then .pointer none else .pointer (some ⟨g, 36, none⟩), .pointer (some ⟨g, tOff es.length, none⟩)])) = L at hl
    apply Array.ext_getElem?
    intro i
    simp only [List.setIfInBounds_toArray, List.getElem?_toArray]
    rw [List.getElem?_set]
    by_cases hi : 46 = i
    · subst hi
      rw [if_pos rfl, if_pos (by simp [hl])]
      rw [List.getElem?_append_right (by omega), hl]
      rfl
    · rw [if_neg hi]
      by_cases hlt : i < 46
      · rw [List.getElem?_append_left (by omega), List.getElem?_append_left (by omega)]
      · rw [List.getElem?_eq_none (by simp [hl]; omega), List.getElem?_eq_none (by simp [hl]; omega)]
/-- The cells that freeze reads. -/
theorem htC_head {g : Nat} {T : TypeId} {es : List En} {fz : Bool} {w : World} (hb : Blk w g T (htC g es fz).toArray) : w.cell? ⟨g, 44, none⟩ = some (ptE g es.length 0) ∧ w.cell? ⟨g, 46, none⟩ = some (.bool fz) := by
  rw [hb.cell, hb.cell]
  unfold htC ptE
  by_cases h0 : es.length = 0
  · rw [if_pos h0, if_neg (by omega)]
    exact ⟨rfl, rfl⟩
  · rw [if_neg h0, if_pos (by omega)]
    have h1 := htI_end g es fz 3
    rw [if_neg h0] at h1
    exact ⟨by simpa using h1, by simpa using htI_end g es fz 5⟩
theorem htC_entry {g : Nat} {T : TypeId} {es : List En} {fz : Bool} {w : World} (hb : Blk w g T (htC g es fz).toArray) (hn : es.length ≤ 8) (j : Nat) (hj : j < es.length) :
    w.cell? ⟨g, 1 + (7 - j) * 5 + 1, none⟩ = some es[j].k ∧ w.cell? ⟨g, 1 + (7 - j) * 5 + 2, none⟩ = some es[j].v ∧ w.cell? ⟨g, 1 + (7 - j) * 5 + 3, none⟩ = some (ptE g es.length (j + 1)) := by
  have hc : htC g es fz = htI g es fz := by unfold htC; rw [if_neg (by omega)]
  rw [hc] at hb
  have h1 := htI_yes g es fz (7 - j) (by omega) es[j] (by rw [show 7 - (7 - j) = j by omega]; exact List.getElem?_eq_getElem hj)
  have h2 := htI_next g es fz j hj hn
  exact ⟨by rw [hb.cell]; simpa using h1.2.1, by rw [hb.cell]; simpa using h1.2.2, by rw [hb.cell]; unfold ptE; simpa using h2⟩
theorem flatE_k : ∀ {es : List En} {j : Nat} (h : j < es.length), (flatE es)[2 * j]? = some es[j].k ∧ (flatE es)[2 * j + 1]? = some es[j].v
  | e :: es, 0, _ => ⟨rfl, rfl⟩
  | e :: es, j + 1, h => by
    have := flatE_k (es := es) (j := j) (by simpa using h)
    rw [show 2 * (j + 1) = 2 * j + 1 + 1 by omega]
    simpa [flatE] using this
theorem But.cell {T : Nat → Prop} {w w' : World} (h : But T w w') {b : Nat} (hb : b < w.heap.size) (hT : ¬ T b) (o : Nat) : w'.cell? ⟨b, o, none⟩ = w.cell? ⟨b, o, none⟩ := World.cell?_of_block (a := ⟨b, o, none⟩) (h.block b hb hT)
theorem FrzM.flat {T : TypeId} {x : Value} {F : FuncId} {W : World} (hm : ∀ W : World, (method 506 T x "Freeze").run Tryz.prog W = .ok (F, x) W) (hf : ∀ W : World, (callFunc F #[x]).run Tryz.prog W = .ok (.enter F #[x]) W) (hc : Calls Tryz.prog F #[x] W (FrzE (fun w' => Below W.heap.size W w'))) {fz : Bool} {d a b : Nat} {t : Tr} (hb : b ≤ W.heap.size) (h : FVF a b t W (.iface T x)) :
    FrzM (.iface T x) W (fun w' => FV true d a b t w' (.iface T x) ∧ But (Itv a b) W w') :=
  ⟨T, x, F, rfl, hm, hf, hc.mono (fun e w' h' => ⟨h'.1, (h.keep (still_below h'.2 (fun k hk => Nat.lt_of_lt_of_le hk.2 hb))).fv, But.of_below h'.2⟩)⟩
theorem fz_flat {fz : Bool} {d a b : Nat} {t : Tr} {v : Value} {w : World} (h : FVF a b t w v) (hb : b ≤ w.heap.size) : FrzM v w (fun w' => FV true d a b t w' v ∧ But (Itv a b) w w') := by
  have h0 := h
  cases h with
  | none h => exact FrzM.flat (F := 309) (fz := fz) (fun W => by kernel_rfl) (fun W => by kernel_rfl) (fzNone _ w) hb h0
  | bool h => exact FrzM.flat (F := 315) (fz := fz) (fun W => by kernel_rfl) (fun W => by kernel_rfl) (fzBool _ w) hb h0
  | int v h hs =>
    obtain ⟨s1, a1, rfl⟩ := (hs.sm.si hb).shape
    exact FrzM.flat (F := 301) (fz := fz) (fun W => by kernel_rfl) (fun W => by kernel_rfl) (fzInt _ _ w) hb h0
  | flt h => exact FrzM.flat (F := 322) (fz := fz) (fun W => by kernel_rfl) (fun W => by kernel_rfl) (fzFlt _ w) hb h0
  | str h => exact FrzM.flat (F := 333) (fz := fz) (fun W => by kernel_rfl) (fun W => by kernel_rfl) (fzStr _ w) hb h0
  | byt h => exact FrzM.flat (F := 344) (fz := fz) (fun W => by kernel_rfl) (fun W => by kernel_rfl) (fzByt _ w) hb h0
theorem fzDictW (g : Nat) (w : World) (Q : World → Prop) (h : Calls Tryz.prog 280 #[.pointer (some ⟨g, 0, none⟩)] w (FrzE Q)) : Calls Tryz.prog 274 #[.pointer (some ⟨g, 0, none⟩)] w (FrzE Q) := by
  have HC := Lib.hid h
  clear h
  go_enter Tryz.func274, Tryz.ntmps274
  go_wp2_with fail
  refine HC.out.mono ?_
  rintro e w1 ⟨rfl, hq⟩
  have HQ := Lib.hid hq
  clear hq
  go_wp2
  go_end0
  exact ⟨rfl, HQ.out⟩
theorem fzSetW (g : Nat) (w : World) (Q : World → Prop) (h : Calls Tryz.prog 280 #[.pointer (some ⟨g, 0, none⟩)] w (FrzE Q)) : Calls Tryz.prog 284 #[.pointer (some ⟨g, 0, none⟩)] w (FrzE Q) := by
  have HC := Lib.hid h
  clear h
  go_enter Tryz.func284, Tryz.ntmps284
  go_wp2_with fail
  refine HC.out.mono ?_
  rintro e w1 ⟨rfl, hq⟩
  have HQ := Lib.hid hq
  clear hq
  go_wp2
  go_end0
  exact ⟨rfl, HQ.out⟩
end Go.Proofs.YtloloifngbmibaaGreatDoor
set_option linter.unusedVariables false
set_option linter.unusedSimpArgs false
set_option maxRecDepth 4000
namespace Go.Proofs.YtloloifngbmibaaGreatDoor
open Go.RowKit

theorem Mix.start {fz : Bool} {d : Nat} {ts : List Tr} {ys : List Value} {Bd : Nat → Nat} {w0 : World} (h : ∀ (j : Nat) (y : Value) (u : Tr), ys[j]? = some y → ts[j]? = some u → FV fz d (Bd j) (Bd (j + 1)) u w0 y) : Mix fz d ts ys Bd 0 w0 w0 :=
  ⟨But.refl _ _, fun j y u hy hu => by
    rw [show (fz || decide (j < 0)) = fz by simp]
    exact h j y u hy hu⟩
theorem Mix.now {fz : Bool} {d : Nat} {ts : List Tr} {ys : List Value} {Bd : Nat → Nat} {i : Nat} {w0 W : World} (h : Mix fz d ts ys Bd i w0 W) {y : Value} {u : Tr} (hy : ys[i]? = some y) (hu : ts[i]? = some u) : FV fz d (Bd i) (Bd (i + 1)) u W y := by
  have := h.kid i y u hy hu
  rw [show (fz || decide (i < i)) = fz by simp] at this
  exact this

/-- A kid's freezing, as a step. -/
theorem Mix.kidFz {d : Nat} {fz : Bool} {ts : List Tr} {ys : List Value} {Bd : Nat → Nat} {i : Nat} {w0 W : World} (IH : ∀ {fz : Bool} {a b : Nat} {t : Tr} {v : Value} {w : World}, FV fz d a b t w v → b ≤ w.heap.size → Good d t → FrzM v w (fun w' => FV true d a b t w' v ∧ But (Itv a b) w w'))
    (h : Mix fz d ts ys Bd i w0 W) (hl : ys.length = ts.length) (hm : ∀ j, j < ts.length → Bd j ≤ Bd (j + 1)) (hs : Bd ts.length ≤ W.heap.size) (hi : i < ts.length) (hg : ∀ u ∈ ts, Good d u) {y : Value} (hy : ys[i]? = some y) : FrzM y W (Mix fz d ts ys Bd (i + 1) w0) := by
  have hu : ts[i]? = some ts[i] := List.getElem?_eq_getElem hi
  refine (IH (h.now hy hu) (Nat.le_trans (bd_le hm (by omega) (Nat.le_refl _)) hs) (hg _ (List.getElem_mem _))).mono (fun W' hq => ?_)
  refine h.step hl hm hs hi (fun y' u' hy' hu' => ?_) hq.2
  rw [hy] at hy'
  rw [hu] at hu'
  injection hy' with hy'
  injection hu' with hu'
  subst hy' hu'
  exact hq.1

theorem frz_any : ∀ (d : Nat) {fz : Bool} {a b : Nat} {t : Tr} {v : Value} {w : World}, FV fz d a b t w v → b ≤ w.heap.size → Good d t → FrzM v w (fun w' => FV true d a b t w' v ∧ But (Itv a b) w w') := by
  intro d
  induction d with
  | zero => exact fun h hb _ => fz_flat (fz := true) (d := 0) h hb
  | succ d ih =>
    intro fz a b t v w h hb g
    have hg := g.2.2.1
    have hkl := g.head.kl
    rcases h with h | ⟨hk, A, c, ys, m, rfl, hc, hm, hr, hl, Bd, b0, bm, b2, b3⟩ | ⟨hk, A, c, ys, m, q, rfl, hB, hc, hm, hmg, hq, hr, hl, Bd, b0, bm, b2, b3⟩ | ⟨hk, es, q, rfl, hB, haq, hq, hz, hl, Bd, b0, bm, b2, b3⟩ | ⟨hk, es, q, rfl, hB, haq, hq, hz, hv, hl, Bd, b0, bm, b2, b3⟩
    · exact fz_flat (fz := fz) h hb
    · have h0n := bd_le bm (Nat.zero_le _) (Nat.le_refl _)
      refine ⟨_, _, 268, rfl, fun W => by kernel_rfl, fun W => by kernel_rfl, (fzTup A t.kids.length c (by omega) (fun i W => Mix fz d t.kids ys Bd i w W) w (Mix.start b3) (fun i W hi hM => ?_)).mono (fun e w' he => ⟨he.1, ?_, ?_⟩)⟩
      · obtain ⟨b', o, rfl, hS, hce⟩ := hr.at_ (k := i) (by omega)
        refine ⟨b', o, ys[i], rfl, ?_, hM.kidFz ih hl bm (Nat.le_trans b2 (Nat.le_trans hb hM.but.size)) hi hg (List.getElem?_eq_getElem (by omega))⟩
        rw [hM.but.cell (by have := hS.2; omega) (fun hk => by have := hS.2; have := hk.1; omega)]
        exact hce
      · exact .inr (.inl ⟨hk, A, c, ys, m, rfl, hc, hm, hr.keep (he.2.but.still (fun k hk => ⟨by have := hk.2; omega, fun hk' => by have := hk.2; have := hk'.1; omega⟩)), he.2.done hl b0 bm b2⟩)
      · exact he.2.but.mono (fun k hk => hk.wide (Nat.le_trans hm b0) b2)
    · have h0n := bd_le bm (Nat.zero_le _) (Nat.le_refl _)
      cases fz with
      | true =>
        refine ⟨_, _, 261, rfl, fun W => by kernel_rfl, fun W => by kernel_rfl, (fzListNo q w (by rw [hB.cell]; rfl)).mono (fun e w' he => ?_)⟩
        obtain ⟨h1, rfl⟩ := he
        exact ⟨h1, .inr (.inr (.inl ⟨hk, A, c, ys, m, q, rfl, hB, hc, hm, hmg, hq, hr, hl, Bd, b0, bm, b2, b3⟩)), But.refl _ _⟩
      | false =>
        have hw0 : But (fun k => k = q) w (w.setCell ⟨q, 1, none⟩ (.bool true)) := (But.refl (fun k => k = q) w).set (p := ⟨q, 1, none⟩) rfl _
        have hsz : (w.setCell ⟨q, 1, none⟩ (.bool true)).heap.size = w.heap.size := by simp [World.setCell]
        have hB0 : Blk (w.setCell ⟨q, 1, none⟩ (.bool true)) q 158 #[.slice A t.kids.length c, .bool true, .int .u32 0] := by simpa using hB.set 1 (.bool true)
        have b3' : ∀ (j : Nat) (y : Value) (u : Tr), ys[j]? = some y → t.kids[j]? = some u → FV false d (Bd j) (Bd (j + 1)) u (w.setCell ⟨q, 1, none⟩ (.bool true)) y := fun j y u hy hu => (b3 j y u hy hu).keep (hw0.still (fun k hk => by
          have hj := (List.getElem?_eq_some_iff.1 hu).1
          have h1 := bd_le bm (show j + 1 ≤ t.kids.length by omega) (Nat.le_refl _)
          have h2 := hk.2
          exact ⟨by omega, by omega⟩))
        refine ⟨_, _, 261, rfl, fun W => by kernel_rfl, fun W => by kernel_rfl, (fzList q A t.kids.length c (by omega) (.int .u32 0) (fun i W => Mix false d t.kids ys Bd i (w.setCell ⟨q, 1, none⟩ (.bool true)) W) w hB (Mix.start b3') (fun i W hi hM => ?_)).mono (fun e w' he => ⟨he.1, ?_, ?_⟩)⟩
        · obtain ⟨b', o, rfl, hS, hce⟩ := hr.at_ (k := i) (by omega)
          have hbw : b' < w.heap.size := by have := hS.2; omega
          refine ⟨b', o, ys[i], rfl, ?_, hM.kidFz ih hl bm (Nat.le_trans (by omega) hM.but.size) hi hg (List.getElem?_eq_getElem (by omega))⟩
          rw [hM.but.cell (by omega) (fun hk => by have := hS.2; have := hk.1; omega), hw0.cell hbw (by have := hS.2; omega)]
          exact hce
        · have hst : Still (Itv a m) w w' := fun k hk => (he.2.but.block k (by have := hk.2; omega) (fun hk' => by have := hk.2; have := hk'.1; omega)).trans (hw0.block k (by have := hk.2; omega) (by have := hk.2; omega))
          exact .inr (.inr (.inl ⟨hk, A, c, ys, m, q, rfl, hB0.keep (he.2.but.block q (by omega) (fun hk' => by have := hk'.2; omega)), hc, hm, hmg, hq, hr.keep hst, he.2.done hl b0 bm b2⟩))
        · exact (hw0.mono (fun k hk => by subst hk; exact ⟨by omega, hq⟩)).trans (he.2.but.mono (fun k hk => hk.wide (Nat.le_trans hm b0) (by omega)))
    · have h0n := bd_le bm (Nat.zero_le _) (Nat.le_refl _)
      have hn : 2 * es.length = t.kids.length := by rw [← hl, flatE_len]
      cases fz with
      | true =>
        refine ⟨_, _, 274, rfl, fun W => by kernel_rfl, fun W => by kernel_rfl, (fzDictW q w _ (fzHtNo q w (htC_head hB).2)).mono (fun e w' he => ?_)⟩
        obtain ⟨h1, rfl⟩ := he
        exact ⟨h1, .inr (.inr (.inr (.inl ⟨hk, es, q, rfl, hB, haq, hq, hz, hl, Bd, b0, bm, b2, b3⟩))), But.refl _ _⟩
      | false =>
        have hw0 : But (fun k => k = q) w (w.setCell ⟨q, 46, none⟩ (.bool true)) := (But.refl (fun k => k = q) w).set (p := ⟨q, 46, none⟩) rfl _
        have hsz : (w.setCell ⟨q, 46, none⟩ (.bool true)).heap.size = w.heap.size := by simp [World.setCell]
        have hB0 : Blk (w.setCell ⟨q, 46, none⟩ (.bool true)) q 174 (htC q es true).toArray := by rw [← htC_frz]; exact hB.set 46 (.bool true)
        have b3' : ∀ (j : Nat) (y : Value) (u : Tr), (flatE es)[j]? = some y → t.kids[j]? = some u → FV false d (Bd j) (Bd (j + 1)) u (w.setCell ⟨q, 46, none⟩ (.bool true)) y := fun j y u hy hu => (b3 j y u hy hu).keep (hw0.still (fun k hk => by
          have hj := (List.getElem?_eq_some_iff.1 hu).1
          have h1 := bd_le bm (show j + 1 ≤ t.kids.length by omega) (Nat.le_refl _)
          have h2 := hk.2
          exact ⟨by omega, by omega⟩))
        refine ⟨_, _, 274, rfl, fun W => by kernel_rfl, fun W => by kernel_rfl, (fzDictW q w _ (fzHt q es.length (by omega) (fun i W => Mix false d t.kids (flatE es) Bd (2 * i) (w.setCell ⟨q, 46, none⟩ (.bool true)) W) w (htC_head hB).1 (htC_head hB).2 (hB.frozen 46) hB.lt (Mix.start b3') (fun i W hi hM => ?_))).mono (fun e w' he => ⟨he.1, ?_, ?_⟩)⟩
        · have hqb : ∀ W', But (Itv (Bd 0) (Bd t.kids.length)) (w.setCell ⟨q, 46, none⟩ (.bool true)) W' → Blk W' q 174 (htC q es true).toArray := fun W' hW' => hB0.keep (hW'.block q (by omega) (fun hk' => by have := hk'.2; omega))
          have hce := htC_entry (hqb W hM.but) (by omega) i hi
          refine ⟨es[i].k, hce.1, (hM.kidFz ih hl bm (Nat.le_trans (by omega) hM.but.size) (by omega) hg (flatE_k hi).1).mono (fun W1 hM1 => ?_)⟩
          have hce1 := htC_entry (hqb W1 hM1.but) (by omega) i hi
          refine ⟨es[i].v, hce1.2.1, (hM1.kidFz ih hl bm (Nat.le_trans (by omega) hM1.but.size) (by omega) hg (flatE_k hi).2).mono (fun W2 hM2 => ?_)⟩
          have hce2 := htC_entry (hqb W2 hM2.but) (by omega) i hi
          exact ⟨hce2.2.2, by rw [show 2 * (i + 1) = 2 * i + 1 + 1 by omega]; exact hM2⟩
        · have hM := he.2
          rw [hn] at hM
          exact .inr (.inr (.inr (.inl ⟨hk, es, q, rfl, hB0.keep (hM.but.block q (by omega) (fun hk' => by have := hk'.2; omega)), haq, hq, hz, hM.done hl b0 bm b2⟩)))
        · have hM := he.2
          rw [hn] at hM
          exact (hw0.mono (fun k hk => by subst hk; exact ⟨haq, hq⟩)).trans (hM.but.mono (fun k hk => hk.wide b0 (by omega)))
    · have h0n := bd_le bm (Nat.zero_le _) (Nat.le_refl _)
      have hn : es.length = t.kids.length := by rw [← hl, List.length_map]
      have hn8 : es.length ≤ 8 := by rw [hn]; exact (g.2.2.2.2 hk).2.1
      cases fz with
      | true =>
        refine ⟨_, _, 284, rfl, fun W => by kernel_rfl, fun W => by kernel_rfl, (fzSetW q w _ (fzHtNo q w (htC_head hB).2)).mono (fun e w' he => ?_)⟩
        obtain ⟨h1, rfl⟩ := he
        exact ⟨h1, .inr (.inr (.inr (.inr ⟨hk, es, q, rfl, hB, haq, hq, hz, hv, hl, Bd, b0, bm, b2, b3⟩))), But.refl _ _⟩
      | false =>
        have hw0 : But (fun k => k = q) w (w.setCell ⟨q, 46, none⟩ (.bool true)) := (But.refl (fun k => k = q) w).set (p := ⟨q, 46, none⟩) rfl _
        have hsz : (w.setCell ⟨q, 46, none⟩ (.bool true)).heap.size = w.heap.size := by simp [World.setCell]
        have hB0 : Blk (w.setCell ⟨q, 46, none⟩ (.bool true)) q 175 (htC q es true).toArray := by rw [← htC_frz]; exact hB.set 46 (.bool true)
        have b3' : ∀ (j : Nat) (y : Value) (u : Tr), (es.map En.k)[j]? = some y → t.kids[j]? = some u → FV false d (Bd j) (Bd (j + 1)) u (w.setCell ⟨q, 46, none⟩ (.bool true)) y := fun j y u hy hu => (b3 j y u hy hu).keep (hw0.still (fun k hk => by
          have hj := (List.getElem?_eq_some_iff.1 hu).1
          have h1 := bd_le bm (show j + 1 ≤ t.kids.length by omega) (Nat.le_refl _)
          have h2 := hk.2
          exact ⟨by omega, by omega⟩))
        refine ⟨_, _, 284, rfl, fun W => by kernel_rfl, fun W => by kernel_rfl, (fzSetW q w _ (fzHt q es.length (by omega) (fun i W => Mix false d t.kids (es.map En.k) Bd i (w.setCell ⟨q, 46, none⟩ (.bool true)) W) w (htC_head hB).1 (htC_head hB).2 (hB.frozen 46) hB.lt (Mix.start b3') (fun i W hi hM => ?_))).mono (fun e w' he => ⟨he.1, ?_, ?_⟩)⟩
        · have hqb : ∀ W', But (Itv (Bd 0) (Bd t.kids.length)) (w.setCell ⟨q, 46, none⟩ (.bool true)) W' → Blk W' q 175 (htC q es true).toArray := fun W' hW' => hB0.keep (hW'.block q (by omega) (fun hk' => by have := hk'.2; omega))
          have hce := htC_entry (hqb W hM.but) (by omega) i hi
          refine ⟨es[i].k, hce.1, (hM.kidFz ih hl bm (Nat.le_trans (by omega) hM.but.size) (by omega) hg (by simp [hi])).mono (fun W1 hM1 => ?_)⟩
          have hce1 := htC_entry (hqb W1 hM1.but) (by omega) i hi
          have hvi := hv _ (List.getElem_mem hi)
          refine ⟨es[i].v, hce1.2.1, ?_⟩
          rw [hvi]
          refine ⟨_, _, 309, rfl, fun W => by kernel_rfl, fun W => by kernel_rfl, (fzNone _ W1).mono (fun e w2 h2 => ⟨h2.1, ?_, ?_⟩)⟩
          · have hb2 : But (Itv (Bd 0) (Bd t.kids.length)) (w.setCell ⟨q, 46, none⟩ (.bool true)) w2 := hM1.but.trans (But.of_below h2.2)
            exact (htC_entry (hqb w2 hb2) (by omega) i hi).2.2
          · exact ⟨hM1.but.trans (But.of_below h2.2), fun j y u hy hu => (hM1.kid j y u hy hu).keep (still_below h2.2 (fun k hk => by
              have hj := (List.getElem?_eq_some_iff.1 hu).1
              have h1 := bd_le bm (show j + 1 ≤ t.kids.length by omega) (Nat.le_refl _)
              have h3 := hk.2
              have h4 := hM1.but.size
              omega))⟩
        · have hM := he.2
          rw [hn] at hM
          exact .inr (.inr (.inr (.inr ⟨hk, es, q, rfl, hB0.keep (hM.but.block q (by omega) (fun hk' => by have := hk'.2; omega)), haq, hq, hz, hv, hM.done hl b0 bm b2⟩)))
        · have hM := he.2
          rw [hn] at hM
          exact (hw0.mono (fun k hk => by subst hk; exact ⟨haq, hq⟩)).trans (hM.but.mono (fun k hk => hk.wide b0 (by omega)))
end Go.Proofs.YtloloifngbmibaaGreatDoor
set_option linter.unusedVariables false
set_option linter.unusedSimpArgs false
set_option maxRecDepth 4000
namespace Go.Proofs.YtloloifngbmibaaGreatDoor
open Go.RowKit

theorem SMI.bigOf {a b : Nat} {v : Value} {x : Int} {W : World} (h : SMI a b v x W) (hb : b ≤ W.heap.size) : ∃ s p neg xs, v = .agg #[.int .i64 s, .pointer p] ∧ BigOf W (Itv a b) s p neg xs ∧ WL xs ∧ xs.length ≤ 30 ∧ Nrm xs ∧ wv neg xs = x ∧ (neg = true → xs ≠ []) := by
  rcases h with ⟨rfl, h0, h1⟩ | ⟨g, neg, ws, u, rfl, hB, hu, hg, hw, hn, hl, h30, hx⟩
  · exact ⟨x, none, decide (x < 0), absW x, rfl, BigOf.small _ x (by omega) (by omega) W, absW_wl (by omega) (by omega), Nat.le_trans (absW_len x) (by decide), absW_nrm x, absW_wv x, absW_neg⟩
  · exact ⟨0, some ⟨g, 0, none⟩, neg, ws, rfl, BigOf.big W _ g neg ws (by omega) _ _ hB (BigV.of_blk hB hg hu) (fun k hk => Nat.lt_of_lt_of_le hk.2 hb), hw, h30, hn, hx, fun _ h => by subst h; simp at hl⟩
theorem sgB_wv {neg : Bool} {ws : List Int} (h : neg = true → ws ≠ []) : decide (sgB neg ws < 0) = neg := by
  unfold sgB
  cases neg
  · split <;> simp
  · rw [if_neg (fun h0 => h rfl (List.eq_nil_of_length_eq_zero h0))]
    simp
theorem num_tree {t : Tr} (g : GoodH t) {neg : Bool} {ws : List Int} (hw : WL ws) (hn : Nrm ws) (h : neg = true → ws ≠ []) (he : wv neg ws = iv t.neg t.mag) : neg = t.neg ∧ strip (beB ws) = t.mag := by
  have h1 := wv_sign hw hn h
  have hiv : (t.neg = true ∧ iv t.neg t.mag < 0) ∨ (t.neg = false ∧ 0 ≤ iv t.neg t.mag) := by
    cases hneg : t.neg with
    | true =>
      have h0 := g.sgn hneg
      have := bv_ne g.by_ g.lead (fun h => h0 (List.eq_nil_of_length_eq_zero h))
      exact .inl ⟨rfl, by unfold iv; rw [if_pos rfl]; omega⟩
    | false => exact .inr ⟨rfl, by unfold iv; rw [if_neg (by decide)]; exact (bv_bd g.by_).1⟩
  have hneg : neg = t.neg := by
    rcases h1 with ⟨a, b⟩ | ⟨a, b⟩ <;> rcases hiv with ⟨c, d⟩ | ⟨c, d⟩
    · rw [a, c]
    · omega
    · omega
    · rw [a, c]
  refine ⟨hneg, ?_⟩
  have hv : nv ws = bv t.mag := by
    rw [hneg] at he
    unfold wv iv at he
    split at he <;> omega
  exact lead_inj (beB_by ws).strip g.by_ (strip_lead _) g.lead (by rw [bv_strip, bv_beB hw, hv])

/-- What tell hands back: the very tree. -/
def TellOut (d : Nat) (t : Tr) (w : World) (e : Ending) (w' : World) : Prop := ∃ x : Vc, e = .returned x.agg ∧ HVB w.heap.size (d + 1) t x w' ∧ Below w.heap.size w w'
theorem HVB.leaf {B d : Nat} {t : Tr} {x : Vc} {W : World} {S : Nat → Prop} (hk : t.kids = []) (h : IsH W S t x) (hq : x.q = .slice none 0 0) (hS : ∀ k, S k → B ≤ k ∧ k < W.heap.size) : HVB B (d + 1) t x W :=
  ⟨S, ⟨h, none, 0, [], by rw [hk]; exact hq, by rw [hk]; exact Nat.le_refl _, by rw [hk]; rfl, Rd.nil _ _ _, fun i y u hy => by simp at hy⟩, fun k hk => ⟨.inr (hS k hk).1, (hS k hk).2⟩⟩
theorem numTell {d a b : Nat} {t : Tr} {v : Value} {w : World} (hs : SMI a b v (iv t.neg t.mag) w) (hb : b ≤ w.heap.size) (g : GoodH t) (hk : t.k = 2) (hkids : t.kids = []) : Calls Tryz.prog 60 #[v] w (TellOut d t w) := by
  obtain ⟨s, p, neg, ws, rfl, hB, hw, h30, hn, hx, hne⟩ := hs.bigOf hb
  refine (number_any w _ s p neg ws (by omega) hw hB (fun k hk => Nat.lt_of_lt_of_le hk.2 hb)).mono ?_
  rintro e w' ⟨v, rfl, ⟨mv, rfl, hm⟩, hbe⟩
  obtain ⟨e1, e2⟩ := num_tree g hw hn hne hx
  rw [sgB_wv hne]
  refine ⟨⟨2, neg, mv, 0, ⟨#[]⟩, .slice none 0 0⟩, rfl, ?_, hbe⟩
  refine HVB.leaf (S := Nw w w') hkids ⟨hk.symm, e1, (g.nfb (by omega) (by omega)).symm, (g.notx (by omega) (by omega)).symm, ?_⟩ rfl (fun k hk => hk)
  rw [← e2]
  exact hm
theorem bitsOf_any (u : Nat) (w : World) : Calls Tryz.prog 78 #[.float .f64 u] w fun e w' => e = .returned (.int .u64 u) ∧ w' = w := by
  have hb : ∀ w, (callFunc 103 #[.float .f64 u]).run Tryz.prog w = .ok (.value (.int .u64 u)) w := fun w => by
    rw [run_callFunc_extern Tryz.func103 (by kernel_rfl) (by kernel_rfl) (by kernel_rfl) (e := Extern.MathFloatBits.float64bits) (by kernel_rfl)]
    rfl
  go_enter Tryz.func78, Tryz.ntmps78
  go_wp2
  go_ret
  exact ⟨rfl, rfl⟩

/-- List.Iterate of what is frozen. -/
theorem listIter (g : Nat) (w : World) (h1 : w.cell? ⟨g, 1, none⟩ = some (.bool true)) : Calls Tryz.prog 76 #[.pointer (some ⟨g, 0, none⟩)] w fun e w' => e = .returned (.iface 193 (.pointer (some ⟨w.heap.size, 0, none⟩))) ∧ w' = w.alloc (.cells #[.pointer (some ⟨g, 0, none⟩), .int .i64 0] 195) := by
  go_enter Tryz.func76, Tryz.ntmps76
  go_wp2
  go_ret
  exact ⟨rfl, rfl⟩
theorem htIter (g : Nat) (q : Option Addr) (w : World) (h1 : w.cell? ⟨g, 46, none⟩ = some (.bool true)) (h2 : w.cell? ⟨g, 44, none⟩ = some (.pointer q)) : Calls Tryz.prog 104 #[.pointer (some ⟨g, 0, none⟩)] w fun e w' => e = .returned (.pointer (some ⟨w.heap.size, 0, none⟩)) ∧ w' = w.alloc (.cells #[.pointer (some ⟨g, 0, none⟩), .pointer q] 245) := by
  go_enter Tryz.func104, Tryz.ntmps104
  go_wp2
  go_ret
  exact ⟨rfl, rfl⟩
theorem setIter (g : Nat) (q : Option Addr) (w : World) (h1 : w.cell? ⟨g, 46, none⟩ = some (.bool true)) (h2 : w.cell? ⟨g, 44, none⟩ = some (.pointer q)) : Calls Tryz.prog 81 #[.pointer (some ⟨g, 0, none⟩)] w fun e w' => e = .returned (.iface 197 (.pointer (some ⟨w.heap.size, 0, none⟩))) ∧ w' = w.alloc (.cells #[.pointer (some ⟨g, 0, none⟩), .pointer q] 245) := by
  have HC := Lib.hid (htIter g q w h1 h2)
  go_enter Tryz.func81, Tryz.ntmps81
  go_wp2_with fail
  refine HC.out.mono ?_
  rintro e w1 ⟨rfl, rfl⟩
  go_wp2
  go_ret
  exact ⟨rfl, rfl⟩
theorem listDone (g gi : Nat) (i : Value) (w : World) (hi : Blk w gi 195 #[.pointer (some ⟨g, 0, none⟩), i]) (h1 : w.cell? ⟨g, 1, none⟩ = some (.bool true)) : Calls Tryz.prog 355 #[.pointer (some ⟨gi, 0, none⟩)] w (FrzE (fun w' => w' = w)) := by
  have c0 := hi.cell 0
  simp at c0
  go_enter Tryz.func355, Tryz.ntmps355
  go_wp2
  go_end0
  exact ⟨rfl, rfl⟩
theorem keyDone (g gi : Nat) (i : Value) (w : World) (hi : Blk w gi 245 #[.pointer (some ⟨g, 0, none⟩), i]) (h1 : w.cell? ⟨g, 46, none⟩ = some (.bool true)) : Calls Tryz.prog 357 #[.pointer (some ⟨gi, 0, none⟩)] w (FrzE (fun w' => w' = w)) := by
  have c0 := hi.cell 0
  simp at c0
  go_enter Tryz.func357, Tryz.ntmps357
  go_wp2
  go_end0
  exact ⟨rfl, rfl⟩
/-- What Next does: n elements in all. -/
def NextE (gi c n : Nat) (TI : TypeId) (P : Value) (st : Nat → Value) (y : Value) (i : Nat) (w : World) (e : Ending) (w' : World) : Prop :=
  (i < n → e = .returned (.bool true) ∧ Blk w' gi TI #[P, st (i + 1)] ∧ Blk w' c 64 #[y] ∧ But (fun k => k = gi ∨ k = c) w w') ∧ (¬ i < n → e = .returned (.bool false) ∧ But (fun _ => False) w w')
end Go.Proofs.YtloloifngbmibaaGreatDoor
set_option linter.unusedVariables false
set_option linter.unusedSimpArgs false
set_option maxRecDepth 4000
namespace Go.Proofs.YtloloifngbmibaaGreatDoor
open Go.RowKit

theorem listLen (g n c : Nat) (A : Option Addr) (w : World) (h : w.cell? ⟨g, 0, none⟩ = some (.slice A n c)) : Calls Tryz.prog 66 #[.pointer (some ⟨g, 0, none⟩)] w fun e w' => e = .returned (.int .i64 n) ∧ w' = w := by
  go_enter Tryz.func66, Tryz.ntmps66
  go_wp2
  go_ret
  exact ⟨rfl, rfl⟩
theorem listNext (g gi c n cc : Nat) (A : Option Addr) (u1 u2 u : Value) (TY : TypeId) (xy : Value) (i : Nat) (hn : n ≤ 1000) (w : World) (hB : Blk w g 158 #[.slice A n cc, u1, u2]) (hi : Blk w gi 195 #[.pointer (some ⟨g, 0, none⟩), .int .i64 i]) (hc : Blk w c 64 #[u]) (hy : i < n → ∃ b o, A = some ⟨b, o, none⟩ ∧ w.cell? ⟨b, o + i, none⟩ = some (.iface TY xy) ∧ b ≠ gi ∧ b ≠ c) (hig : gi ≠ g) (hcg : c ≠ g) (hci : c ≠ gi) :
    Calls Tryz.prog 356 #[.pointer (some ⟨gi, 0, none⟩), .pointer (some ⟨c, 0, none⟩)] w (NextE gi c n 195 (.pointer (some ⟨g, 0, none⟩)) (fun i => .int .i64 i) (.iface TY xy) i w) := by
  have i0 := hi.cell 0
  have i1 := hi.cell 1
  have if1 := hi.frozen 1
  have il := hi.lt
  have g0 := hB.cell 0
  have cf := hc.frozen 0
  have cl := hc.lt
  simp at i0 i1 g0
  have HL : Hid (∀ k, Calls Tryz.prog 66 #[.pointer (some ⟨g, 0, none⟩)] (w.drewN k) fun e w' => e = .returned (.int .i64 n) ∧ ∃ m, w' = w.drewN m) := Lib.hid fun k => (listLen g n cc A (w.drewN k) g0).mono (fun e w' h => ⟨h.1, k, h.2⟩)
  have HI := Lib.hid hi
  have HC := Lib.hid hc
  have HY := Lib.hid hy
  clear hi hc hy hB
  go_enter Tryz.func356, Tryz.ntmps356
  go_wp2
  go_quiet (exact HL.out _)
  generalize hW : w.drewN nq = W
  have hbw : But (fun _ => False) w W := by rw [← hW]; exact But.of_below (below_drewN' (Below.refl _ _) _)
  have HBW := Lib.hid hbw
  have e1 : ∀ b o, W.cell? ⟨b, o, none⟩ = w.cell? ⟨b, o, none⟩ := fun b o => by rw [← hW]; rfl
  have HI2 := Lib.hid (HI.out.keep (hbw.block gi il (fun h => h)))
  have HC2 := Lib.hid (HC.out.keep (hbw.block c cl (fun h => h)))
  have i0' := HI2.out.cell 0
  have i1' := HI2.out.cell 1
  have if1' := HI2.out.frozen 1
  have il' := HI2.out.lt
  have cf' := HC2.out.frozen 0
  have cl' := HC2.out.lt
  have g0' := (e1 g 0).trans g0
  have c0' := HC2.out.cell 0
  simp at i0' i1' c0'
  by_cases hlt : i < n
  · have hi1 : (i : Int) < (n : Int) := Int.ofNat_lt.2 hlt
    obtain ⟨b, o, rfl, hce, hbg, hbc⟩ := HY.out hlt
    have hce' := (e1 b (o + i)).trans hce
    clear hbw e1 HI HC HY i0 i1 if1 il g0 cf cl HL hW hce
    go_wp2
    go_region
    generalize hW2 : (W.setCell ⟨c, 0, none⟩ (.iface TY xy)).drew = W2
    have hb2 : But (fun k => k = gi ∨ k = c) W W2 := by rw [← hW2]; exact ((But.refl _ W).set (p := ⟨c, 0, none⟩) (.inr rfl) _).drewN 1
    have hi2 : Blk W2 gi 195 #[.pointer (some ⟨g, 0, none⟩), .int .i64 i] := by rw [← hW2]; exact HI2.out.far (p := ⟨c, 0, none⟩) hci.symm _
    have hc2 : Blk W2 c 64 #[.iface TY xy] := by rw [← hW2]; exact HC2.out.set 0 (.iface TY xy)
    have HB2 := Lib.hid ((HBW.out.mono (fun k h => h.elim)).trans hb2)
    clear if1' i0' i1' c0' hce' g0' il' cf' cl' hb2 hW2 HBW HI2 HC2
    have i0 := hi2.cell 0
    have i1 := hi2.cell 1
    have if1 := hi2.frozen 1
    have il := hi2.lt
    simp at i0 i1
    have HI3 := Lib.hid hi2
    have HC3 := Lib.hid hc2
    have hs : IntKind.i64.wrap ((i : Int) + 1) = ((i + 1 : Nat) : Int) := by rw [IntKind.wrap_i64]; omega
    clear hi2 hc2
    go_wp2
    go_ret
    exact ⟨fun _ => ⟨rfl, HI3.out.set 1 _, HC3.out.far (p := ⟨gi, 1, none⟩) hci _, HB2.out.set (p := ⟨gi, 1, none⟩) (.inl rfl) _⟩, fun h => absurd hlt h⟩
  · go_wp2
    go_ret
    exact ⟨fun h => absurd h hlt, fun _ => ⟨rfl, HBW.out⟩⟩
theorem keyNext (g gi c n : Nat) (u : Value) (TY : TypeId) (xy : Value) (i : Nat) (hin : i ≤ n) (hn : n ≤ 8) (w : World) (hi : Blk w gi 245 #[.pointer (some ⟨g, 0, none⟩), ptE g n i]) (hc : Blk w c 64 #[u]) (hk : i < n → w.cell? ⟨g, 1 + (7 - i) * 5 + 1, none⟩ = some (.iface TY xy) ∧ w.cell? ⟨g, 1 + (7 - i) * 5 + 3, none⟩ = some (ptE g n (i + 1))) (hig : gi ≠ g) (hcg : c ≠ g) (hci : c ≠ gi) :
    Calls Tryz.prog 358 #[.pointer (some ⟨gi, 0, none⟩), .pointer (some ⟨c, 0, none⟩)] w (NextE gi c n 245 (.pointer (some ⟨g, 0, none⟩)) (ptE g n) (.iface TY xy) i w) := by
  have hne : ∀ (W : World) (q : Nat), (binOp .neq 160 (.pointer (some ⟨g, q, none⟩)) (.pointer none)).run Tryz.prog W = .ok (.bool true) W := fun W q => by kernel_rfl
  have hno : ∀ (W : World), (binOp .neq 160 (.pointer none) (.pointer none)).run Tryz.prog W = .ok (.bool false) W := fun W => by kernel_rfl
  have i1 := hi.cell 1
  have if1 := hi.frozen 1
  have il := hi.lt
  have cf := hc.frozen 0
  have cl := hc.lt
  have c0 := hc.cell 0
  simp at i1 c0
  have HI := Lib.hid hi
  have HC := Lib.hid hc
  clear hi hc
  by_cases hlt : i < n
  · obtain ⟨hk1, hk3⟩ := hk hlt
    have e1 : ptE g n i = .pointer (some ⟨g, 1 + (7 - i) * 5, none⟩) := by unfold ptE; rw [if_pos hlt]
    obtain ⟨nx, hnx⟩ : ∃ nx, ptE g n (i + 1) = .pointer nx := ⟨_, rfl⟩
    rw [e1] at i1
    rw [hnx] at hk3
    have HNX := Lib.hid hnx
    obtain ⟨q, hq⟩ : ∃ q, q = 1 + (7 - i) * 5 := ⟨_, rfl⟩
    rw [← hq] at i1 hk1 hk3
    clear hk e1 hnx hq
    go_enter Tryz.func358, Tryz.ntmps358
    go_wp2
    go_ret
    refine ⟨fun _ => ⟨rfl, ?_, ?_, ?_⟩, fun h => absurd hlt h⟩
    · rw [HNX.out]
      exact (HI.out.far (p := ⟨c, 0, none⟩) hci.symm _).set 1 _
    · exact (HC.out.set 0 _).far (p := ⟨gi, 1, none⟩) hci _
    · exact ((But.refl _ w).set (p := ⟨c, 0, none⟩) (.inr rfl) _).set (p := ⟨gi, 1, none⟩) (.inl rfl) _
  · have e1 : ptE g n i = .pointer none := by unfold ptE; rw [if_neg hlt]
    rw [e1] at i1
    clear hk e1
    go_enter Tryz.func358, Tryz.ntmps358
    go_wp2
    go_ret
    exact ⟨fun h => absurd h hlt, fun _ => ⟨rfl, But.refl _ _⟩⟩
end Go.Proofs.YtloloifngbmibaaGreatDoor
