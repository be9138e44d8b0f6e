/- The reference's Same: one tree twice. FreezeRun. FreezeRun: the walk. -/
import Derived.Test.YtloloifngbmibaaGreatDoorM37
set_option linter.unusedVariables false
set_option linter.unusedSimpArgs false
set_option maxRecDepth 4000
namespace Go.Proofs.YtloloifngbmibaaGreatDoor
open Go.RowKit

theorem HV.parts {d : Nat} {t : Tr} {x : Vc} {w : World} (h : HV (d + 1) t x w) : ∃ (S : Nat → Prop) (Am : Option Addr) (cm : Nat) (Q : Option Addr) (qc : Nat), x = ⟨t.k, t.neg, .slice Am t.mag.length cm, t.bits, t.text, .slice Q t.kids.length qc⟩ ∧ HVs d t.kids Q w ∧ SlV w S .u8 (.slice Am t.mag.length cm) t.mag ∧ ∀ k, S k → k < w.heap.size := by
  obtain ⟨S, ⟨h1, Q, qc, xs, e1, e2, e3, hr, hx⟩, h2⟩ := h
  obtain ⟨a1, a2, a3, a4, a5⟩ := h1
  obtain ⟨Am, cm, em, hc, hrd⟩ := id a5
  obtain ⟨k, n, m, b, s, q⟩ := x
  simp only at a1 a2 a3 a4 em e1 a5
  subst a1 a2 a3 a4 em e1
  exact ⟨S, Am, cm, Q, qc, rfl, ⟨S, xs, e3, hr, hx, h2⟩, a5, h2⟩
theorem same_step {d : Nat} {t : Tr} {x y : Vc} {w : World} (hx : HV (d + 1) t x w) (hy : HV (d + 1) t y w) (g : GoodH t) (hleaf : t.k < 6 → t.kids = [])
    (IH : ∀ i, i < t.kids.length → ∀ (A B : Option Addr) (W : World), HVs d t.kids A W → HVs d t.kids B W → ∃ x y : Vc, (∃ b o, A = some ⟨b, o, none⟩ ∧ Six W b (o + i * 6) x) ∧ (∃ b o, B = some ⟨b, o, none⟩ ∧ Six W b (o + i * 6) y) ∧ Calls Tryz.prog 14 #[x.agg, y.agg] W (YesE W)) :
    Calls Tryz.prog 14 #[x.agg, y.agg] w (YesE w) := by
  obtain ⟨S, Am, cm, Q, qc, rfl, hks, hm, hS⟩ := hx.parts
  obtain ⟨S', Am', cm', Q', qc', rfl, hks', hm', hS'⟩ := hy.parts
  have hkl := g.kl
  by_cases h2 : t.k = 2
  · have e1 := g.notx (by omega) (by omega)
    have e2 := hleaf (by omega)
    have e3 : t.kids.length = 0 := by rw [e2]; rfl
    have hml := g.ml
    have := same_num2 S S' t.neg _ _ t.mag t.bits t.bits Q Q' qc qc' (by omega) w hm hm' hS hS'
    rw [h2, e1, e3]
    exact this
  · by_cases h31 : t.k = 3 ∨ t.k = 1
    · exact same_flt t.k h31 _ _ _ _ _ _ _ _ _ _ _ _ _ _ _ w
    · refine same_node t.k (fun h => h31 (.inr h)) h2 (fun h => h31 (.inl h)) _ _ _ _ _ _ _ _ _ _ _ _ _ _ _ _ w (fun W hW => ?_)
      exact sameList_any t.kids.length qc qc' Q Q' (by omega) W (fun i hi W' hW' => IH i hi _ _ W' ((hks.up hW).up hW') ((hks'.up hW).up hW'))
theorem same_any : ∀ (d : Nat) {t : Tr} {x y : Vc} {w : World}, HV (d + 1) t x w → HV (d + 1) t y w → Good d t → Calls Tryz.prog 14 #[x.agg, y.agg] w (YesE w) := by
  intro d
  induction d with
  | zero =>
    intro t x y w hx hy g
    exact same_step hx hy g.head g.leaf (fun i hi => by rw [g.2.2] at hi; exact absurd hi (Nat.not_lt_zero _))
  | succ d ih =>
    intro t x y w hx hy g
    refine same_step hx hy g.head g.leaf (fun i hi A B W h1 h2 => ?_)
    obtain ⟨x', u, hu, hx', b, o, eA, hc⟩ := h1.at_ hi
    obtain ⟨y', u', hu', hy', b', o', eB, hc'⟩ := h2.at_ hi
    rw [hu] at hu'
    injection hu' with hu'
    subst hu'
    exact ⟨x', y', ⟨b, o, eA, hc⟩, ⟨b', o', eB, hc'⟩, ih hx' hy' (g.2.2.1 u (List.mem_of_getElem? hu))⟩
end Go.Proofs.YtloloifngbmibaaGreatDoor
set_option linter.unusedVariables false
set_option linter.unusedSimpArgs false
set_option maxRecDepth 4000
namespace Go.Proofs.YtloloifngbmibaaGreatDoor
open Go.RowKit

theorem infoB : (Tryz.prog.info? 4).map (fun i => (i.zero, i.size, i.bytes)) = some (some (.bool false), 1, 1) := by kernel_rfl
@[reducible] def toldZ (dv : Value) : Array Value := #[dv, .int .i64 0, .bool false, .slice none 0 0, .int .u64 0, .string { data := #[] }, .slice none 0 0, .bool false]
/-- FreezeRun's loop under way. -/
structure FrL (w : World) (d a b B : Nat) (t : Tr) (v : Value) (kc : Array Value) (i : Nat) (dv : Value) (W : World) : Prop where
  low : Below w.heap.size w W
  hb : b ≤ B
  hB : B ≤ W.heap.size
  h3 : w.heap.size + 3 ≤ a ∧ a ≤ b
  fv : FV true d a b t W v
  kid : Blk W (w.heap.size + 1) 44 kc
  told : Blk W (w.heap.size + 2) 50 (toldZ dv)
  row : W.ownsRow B 4 1 dv i (List.replicate i (.bool false))
theorem FrL.step {w : World} {d a b B : Nat} {t : Tr} {v : Value} {kc : Array Value} {i : Nat} {dv dv' : Value} {W W3 : World} (h : FrL w d a b B t v kc i dv W) (hb : Below B W W3) (hr : W3.ownsRow B 4 1 dv' (i + 1) (List.replicate (i + 1) (.bool false))) : FrL w d a b B t v kc (i + 1) dv' (W3.setCell ⟨w.heap.size + 2, 0, none⟩ dv') := by
  have hab := h.h3
  have h1 := h.hb
  have hne : w.heap.size + 2 < B := by omega
  have hbut : But (fun k => k = w.heap.size + 2) W3 (W3.setCell ⟨w.heap.size + 2, 0, none⟩ dv') := (But.refl (fun k => k = w.heap.size + 2) W3).set (p := ⟨w.heap.size + 2, 0, none⟩) rfl _
  have hs3 := hb.size
  have hB3 : B ≤ W3.heap.size := Nat.le_trans h.hB hs3
  refine ⟨(h.low.trans (hb.mono (by omega))).setCell (p := ⟨w.heap.size + 2, 0, none⟩) (by show w.heap.size ≤ w.heap.size + 2; omega) _, h.hb, by simpa [World.setCell] using hB3, h.h3, ?_, ?_, ?_, ?_⟩
  · exact (h.fv.keep (still_below hb (fun k hk => Nat.lt_of_lt_of_le hk.2 h1))).keep (hbut.still (fun k hk => ⟨by have := hk.2; omega, by have := hk.1; omega⟩))
  · exact (h.kid.below hb (by omega)).far (p := ⟨w.heap.size + 2, 0, none⟩) (by show w.heap.size + 1 ≠ w.heap.size + 2; omega) _
  · have := (h.told.below hb (by omega)).set 0 dv'
    simpa using this
  · exact own_keep hr (fun g cs hg _ => Below.heap_setCell W3 ⟨w.heap.size + 2, 0, none⟩ dv' g (by have := (own_lt hr hg).1; show g ≠ w.heap.size + 2; omega))
theorem FrL.up {w : World} {d a b B : Nat} {t : Tr} {v : Value} {kc : Array Value} {i : Nat} {dv : Value} {W W' : World} (h : FrL w d a b B t v kc i dv W) (hb : Below W.heap.size W W') : FrL w d a b B t v kc i dv W' := by
  have h1 := h.hb
  have h2 := h.hB
  exact ⟨h.low.trans (hb.mono h.low.size), h.hb, Nat.le_trans h.hB hb.size, h.h3, h.fv.keep (still_below hb (fun k hk => by have := hk.2; omega)), h.kid.below hb h.kid.lt, h.told.below hb h.told.lt, own_below h.row hb⟩
theorem FrL.st7 {w : World} {d a b B : Nat} {t : Tr} {v : Value} {kc : Array Value} {i : Nat} {dv : Value} {W : World} (h : FrL w d a b B t v kc i dv W) : FrL w d a b B t v kc i dv (W.setCell ⟨w.heap.size + 2, 7, none⟩ (.bool false)) := by
  have h1 := h.hb
  have h2 := h.hB
  have h3 := h.h3
  have hbut : But (fun k => k = w.heap.size + 2) W (W.setCell ⟨w.heap.size + 2, 7, none⟩ (.bool false)) := (But.refl (fun k => k = w.heap.size + 2) W).set (p := ⟨w.heap.size + 2, 7, none⟩) rfl _
  refine ⟨h.low.setCell (p := ⟨w.heap.size + 2, 7, none⟩) (by show w.heap.size ≤ w.heap.size + 2; omega) _, h.hb, by simpa [World.setCell] using h.hB, h.h3, h.fv.keep (hbut.still (fun k hk => ⟨by have := hk.2; omega, by have := hk.1; omega⟩)), h.kid.far (p := ⟨w.heap.size + 2, 7, none⟩) (by show w.heap.size + 1 ≠ w.heap.size + 2; omega) _, ?_, ?_⟩
  · have := h.told.set 7 (.bool false)
    simpa using this
  · exact own_keep h.row (fun g cs hg _ => Below.heap_setCell W ⟨w.heap.size + 2, 7, none⟩ (.bool false) g (by have := (own_lt h.row hg).1; show g ≠ w.heap.size + 2; omega))
theorem FrL.start {w w1 w3 : World} {d a b : Nat} {t : Tr} {v : Value} {kc : Array Value} (low : Below w.heap.size w w1) (h3 : w.heap.size + 3 ≤ a) (hab : a ≤ b) (hb : b ≤ w1.heap.size) (kid : Blk w1 (w.heap.size + 1) 44 kc) (told : Blk w1 (w.heap.size + 2) 50 (toldZ (.slice none 0 0))) (hfv : FV true d a b t w3 v) (hbut : But (Itv a b) w1 w3) : FrL w d a b w3.heap.size t v kc 0 (.slice none 0 0) w3 := by
  have hs := hbut.size
  refine ⟨low.trans (hbut.below low.size (fun k hk => by have := hk.1; omega)), by omega, Nat.le_refl _, ⟨h3, hab⟩, hfv, kid.keep (hbut.block _ kid.lt (fun hk => by have := hk.1; omega)), told.keep (hbut.block _ told.lt (fun hk => by have := hk.1; omega)), ?_⟩
  simpa using World.ownsRow_nil w3 w3.heap.size 4 1
theorem step_pb {B i cc : Nat} {A : Option Addr} (W1 : World) (h : W1.ownsRow B 4 1 (.slice A i cc) i (List.replicate i (.bool false))) (hB1 : B ≤ W1.heap.size) (hi : i ≤ 1000) (T : TypeId)
    {ops : Array Oper} {o : Oper} {a : Act} {KK : Act → World → Prop} {Q : Exit → Act → World → Prop} {E : Prop} (hgd : o.guard = none) (s z : Operand)
    (ho : o.op = .call { callee := .builtin .append, args := #[s, z], argTypes := #[48, 48] })
    (hs : a.eval s = .slice A i cc) (hz : a.eval z = .slice (some ⟨W1.heap.size, 0, none⟩) 1 1)
    (hK : ∀ A' c' w', w'.ownsRow B 4 1 (.slice A' (i + 1) c') (i + 1) (List.replicate (i + 1) (.bool false)) → Below B W1 w' → (∀ k, k < W1.heap.size → (∀ g, (Value.slice A i cc).ownBlock = some g → g ≠ k) → w'.heap[k]? = W1.heap[k]?) → KK (a.put o.dst (.slice A' (i + 1) c')) w') : if Region.wanted o (yielded ops a.tmps) = true then o.wp Tryz.prog a (W1.alloc (.cells #[.bool false] T)) KK Q else E := by
  have hbl : Below B W1 (W1.alloc (.cells #[.bool false] T)) := (Below.refl _ _).alloc hB1 _
  refine step_append_rd _ hgd s z 48 ho B 4 (.bool false) 1 1 Tryz.underlying48 infoB rfl (by decide) (.slice A i cc) i (List.replicate i (.bool false)) hs (own_below h (below_al (Below.refl _ _) _)) (fun k => k = W1.heap.size) (some ⟨W1.heap.size, 0, none⟩) 1 1 [.bool false] hz rfl (Rd.of_blk (ys := []) (by simpa using Blk.new W1 T #[.bool false]) rfl) (fun u hu => by rw [List.mem_singleton.1 hu]; rfl) (by unfold maxLen; omega) (by omega) (by simp; omega) ?_
  intro v' w4 hrow hg _
  rw [← List.replicate_succ'] at hrow
  obtain ⟨A', cc', rfl, _⟩ := own_rd hrow
  have hb4 := hbl.grown hg (Nat.le_trans hB1 hbl.size) (fun k hk => (own_lt h hk).1)
  exact hK A' cc' w4 hrow hb4 (fun k hk hne => (hg.block k (Nat.lt_of_lt_of_le hk hbl.size) (fun e => hne k e.symm rfl)).trans ((below_al (Below.refl W1.heap.size W1) (.cells #[.bool false] T)).block k hk))
end Go.Proofs.YtloloifngbmibaaGreatDoor
set_option linter.unusedVariables false
set_option linter.unusedSimpArgs false
set_option maxRecDepth 4000
namespace Go.Proofs.YtloloifngbmibaaGreatDoor
open Go.RowKit

/-- A Try's cells. -/
abbrev RunC (q : Nat) (x : Vt) (W : World) : Prop := W.cell? ⟨q, 0, none⟩ = some (.int .i64 x.w) ∧ TryC q x.k x.v W
theorem RunC.keep {q : Nat} {x : Vt} {W W' : World} (h : RunC q x W) (hq : W'.heap[q]? = W.heap[q]?) : RunC q x W' :=
  ⟨(World.cell?_of_block (a := ⟨q, _, none⟩) hq).trans h.1, h.2.keep hq⟩
theorem RunC.up {q : Nat} {x : Vt} {W W' : World} (h : RunC q x W) (hb : Below W.heap.size W W') : RunC q x W' := h.keep (hb.block q (World.block_lt_of_cell? W _ h.1))
theorem RunC.al {q : Nat} {x : Vt} {W : World} (h : RunC q x W) (ob : Obj) : RunC q x (W.alloc ob) := h.up (below_al (Below.refl _ _) ob)
theorem RunC.st {q : Nat} {x : Vt} {W : World} (h : RunC q x W) {g : Nat} (hg : g ≠ q) (j : Nat) (z : Value) : RunC q x (W.setCell ⟨g, j, none⟩ z) := h.keep (Below.heap_setCell W ⟨g, j, none⟩ z q (fun e => hg e.symm))

/-- What FreezeRun hands back. -/
def RunOut (d n : Nat) (t : Tr) (w : World) (e : Ending) (w' : World) : Prop := ∃ (AD : Option Addr) (cD : Nat) (y : Vc), e = .returned (.tuple #[.agg #[.slice AD n cD, .int .i64 y.k, .bool y.n, y.m, .int .u64 y.b, .string y.s, y.q, .bool false], .bool true]) ∧ Rd w' (fun k => k < w'.heap.size) AD (List.replicate n (.bool false)) ∧ HV (d + 1) t y w' ∧ Below w.heap.size w w'
theorem FrL.out {w : World} {d a b B : Nat} {t : Tr} {v : Value} {kc : Array Value} {i : Nat} {AD : Option Addr} {cD : Nat} {W W' : World} (h : FrL w d a b B t v kc i (.slice AD i cD) W) (hb : But (fun k => k = w.heap.size + 2) W W') : Rd W' (fun k => k < W'.heap.size) AD (List.replicate i (.bool false)) ∧ Below w.heap.size w W' := by
  have h1 := h.hb
  have h2 := h.hB
  have h3 := h.h3
  obtain ⟨A', c', e, _, hr, _⟩ := own_rd h.row
  injection e with e
  rw [← e] at hr
  exact ⟨(hr.keep (hb.still (fun k hk => ⟨hk.2, by have := hk.1; omega⟩))).mono (fun k hk => Nat.lt_of_lt_of_le hk.2 hb.size), h.low.trans (hb.below h.low.size (fun k hk => by omega))⟩
theorem told_keep {B d g : Nat} {t : Tr} {x : Vc} {W W' : World} (h : HVB B d t x W) (hg : g < B) (hb : But (fun k => k = g) W W') : HV d t x W' := by
  obtain ⟨S, h1, h2⟩ := h
  exact ⟨S, h1.keep (hb.still (fun k hk => ⟨(h2 k hk).2, by rcases (h2 k hk).1 with h | h <;> omega⟩)), fun k hk => Nat.lt_of_lt_of_le (h2 k hk).2 hb.size⟩
theorem but8 {W W' : World} {g : Nat} (h : But (fun k => k = g) W W') (a0 a1 a2 a3 a4 a5 a6 a7 : Value) : But (fun k => k = g) W ((((((((W'.setCell ⟨g, 0, none⟩ a0).setCell ⟨g, 1, none⟩ a1).setCell ⟨g, 2, none⟩ a2).setCell ⟨g, 3, none⟩ a3).setCell ⟨g, 4, none⟩ a4).setCell ⟨g, 5, none⟩ a5).setCell ⟨g, 6, none⟩ a6).setCell ⟨g, 7, none⟩ a7) :=
  (((((((h.set (p := ⟨g, 0, none⟩) rfl a0).set (p := ⟨g, 1, none⟩) rfl a1).set (p := ⟨g, 2, none⟩) rfl a2).set (p := ⟨g, 3, none⟩) rfl a3).set (p := ⟨g, 4, none⟩) rfl a4).set (p := ⟨g, 5, none⟩) rfl a5).set (p := ⟨g, 6, none⟩) rfl a6).set (p := ⟨g, 7, none⟩) rfl a7
set_option maxHeartbeats 1000000 in
theorem freezeRun_any (d : Nat) {t : Tr} {x : Vc} {kd : Vt} {ku : Tr} {A : Option Addr} {n c : Nat} {w : World} (at_ : Nat) (tw : Bool) (hd : d ≤ 9) (hx : HV (d + 1) t x w) (g : Good d t) (hG : GL w) (hn : n ≤ 8) (ht : HTs (Good 1) 2 n A w) (hk : HV 2 ku kd.v w) (gk : Good 1 ku) :
    Calls Tryz.prog 18 #[x.agg, .bool tw, .slice A n c, .int .i64 at_, tryV kd.w kd.k kd.v] w (RunOut d n t w) := by
  obtain ⟨k, ng, Am, l, cm, b, s, Aq, l', c', rfl⟩ := hx.shape
  obtain ⟨kw, kk, kv⟩ := kd
  obtain ⟨k2, n2, A2, l2, c2, b2, s2, A3, l3, c3, hkv⟩ := hk.shape
  simp only at hkv hk
  subst hkv
  have HVA := Lib.hid (fun (W0 : World) (h1 : Below w.heap.size w W0) => value_any d hd (hx.up h1) g g.make (hG.up h1))
  have HG := Lib.hid g
  have HGL := Lib.hid hG
  have HT := Lib.hid ht
  have HK := Lib.hid hk
  have HGK := Lib.hid gk
  have hn1 : ¬ (100 : Int) < n := by omega
  clear hx g hG ht hk gk
  go_enter Tryz.func18, Tryz.ntmps18
  go_upto_region 1 with fail
  rw [show w.heap.size + 1 + 1 = w.heap.size + 2 from rfl]
  generalize hw0 : ((w.alloc (.cells #[.int .i64 k, .bool ng, .slice Am l cm, .int .u64 b, .string s, .slice Aq l' c'] 26)).alloc (.cells #[.int .i64 kw, .int .i64 kk, .int .i64 k2, .bool n2, .slice A2 l2 c2, .int .u64 b2, .string s2, .slice A3 l3 c3] 44)).alloc (.cells (toldZ (.slice none 0 0)) 50) = w0
  have hs2 : ((w.alloc (.cells #[.int .i64 k, .bool ng, .slice Am l cm, .int .u64 b, .string s, .slice Aq l' c'] 26)).alloc (.cells #[.int .i64 kw, .int .i64 kk, .int .i64 k2, .bool n2, .slice A2 l2 c2, .int .u64 b2, .string s2, .slice A3 l3 c3] 44)).heap.size = w.heap.size + 2 := by simp
  have hb5 : Blk w0 w.heap.size 26 #[.int .i64 k, .bool ng, .slice Am l cm, .int .u64 b, .string s, .slice Aq l' c'] := by rw [← hw0]; exact ((Blk.new w _ _).alloc _).alloc _
  have hb9 : Blk w0 (w.heap.size + 1) 44 #[.int .i64 kw, .int .i64 kk, .int .i64 k2, .bool n2, .slice A2 l2 c2, .int .u64 b2, .string s2, .slice A3 l3 c3] := by
    rw [← hw0]
    have := (Blk.new (w.alloc (.cells #[.int .i64 k, .bool ng, .slice Am l cm, .int .u64 b, .string s, .slice Aq l' c'] 26)) 44 #[.int .i64 kw, .int .i64 kk, .int .i64 k2, .bool n2, .slice A2 l2 c2, .int .u64 b2, .string s2, .slice A3 l3 c3]).alloc (.cells (toldZ (.slice none 0 0)) 50)
    simpa using this
  have hb10 : Blk w0 (w.heap.size + 2) 50 (toldZ (.slice none 0 0)) := by
    rw [← hw0, ← hs2]
    exact Blk.new _ _ _
  have HH : Hid (Below w.heap.size w w0) := Lib.hid (by rw [← hw0]; exact below_al (below_al (below_al (Below.refl _ _) _) _) _)
  have HS0 : Hid (w.heap.size + 3 ≤ w0.heap.size) := Lib.hid hb10.lt
  have HMV := Lib.hid (HVA.out w0 HH.out)
  have v0 := hb5.cell 0
  have v1 := hb5.cell 1
  have v2 := hb5.cell 2
  have v3 := hb5.cell 3
  have v4 := hb5.cell 4
  have v5 := hb5.cell 5
  simp at v0 v1 v2 v3 v4 v5
  have HB9 := Lib.hid hb9
  have HB10 := Lib.hid hb10
  clear hw0 hs2 hb5 hb9 hb10 HVA
  go_wp2_with fail
  refine HMV.out.mono ?_
  rintro e w1 ⟨v, rfl, hfv, hb1⟩
  obtain ⟨T, xx, F, rfl, hm, hf, hc⟩ := frz_any d hfv (Nat.le_refl _) HG.out
  have HB9' := Lib.hid (HB9.out.below hb1 HB9.out.lt)
  have HB10' := Lib.hid (HB10.out.below hb1 HB10.out.lt)
  have HLO := Lib.hid (HH.out.trans (hb1.mono HH.out.size))
  have HAB := Lib.hid hb1.size
  have HC := Lib.hid hc
  clear hfv hb1 hc HMV v0 v1 v2 v3 v4 v5 HB9 HB10 HH
  go_wp2_with fail
  refine HC.out.mono ?_
  rintro e w2 ⟨rfl, hq1, hq2⟩
  have HQ1 := Lib.hid hq1
  have HQ2 := Lib.hid hq2
  clear hq1 hq2 HC hm hf
  cases tw
  case' false =>
    obtain ⟨w3, hw3⟩ : ∃ w3, w3 = w2 := ⟨_, rfl⟩
    have HF := Lib.hid (FrL.start HLO.out HS0.out HAB.out (Nat.le_refl _) HB9'.out HB10'.out HQ1.out HQ2.out)
    rw [← hw3] at HF ⊢
    clear HB9' HB10' HLO HQ1 HQ2 hw3
    go_wp2
  case' true =>
    obtain ⟨T', x', F', he, hm, hf, hc⟩ := frz_any d HQ1.out HQ2.out.size HG.out
    injection he with he1 he2
    subst he1 he2
    have HC := Lib.hid hc
    clear hc
    go_wp2_with fail
    refine HC.out.mono ?_
    rintro e w3 ⟨rfl, hr1, hr2⟩
    have HF := Lib.hid (FrL.start HLO.out HS0.out HAB.out (Nat.le_refl _) HB9'.out HB10'.out hr1 (HQ2.out.trans hr2))
    clear hr1 hr2 HC HB9' HB10' HLO HQ1 HQ2 hm hf
    go_wp2
  all_goals
    obtain ⟨B, hB⟩ : ∃ B, B = w3.heap.size := ⟨_, rfl⟩
    rw [← hB] at HF
    clear hB
    go_loopw [37] (fun iv wr => ∃ (i : Nat) (AD : Option Addr) (cD : Nat), iv = .int .i64 i ∧ i ≤ n ∧ Hid (FrL w d w0.heap.size w1.heap.size B t (.iface T xx) #[.int .i64 kw, .int .i64 kk, .int .i64 k2, .bool n2, .slice A2 l2 c2, .int .u64 b2, .string s2, .slice A3 l3 c3] i (.slice AD i cD) wr)) (fun iv _ => n - (intOf iv).toNat)
    case atStart => exact ⟨0, none, 0, rfl, Nat.zero_le _, HF⟩
    case round =>
      obtain ⟨i, AD, cD, rfl, hi, HR⟩ := hrel
      clear HF
      by_cases hlt : i < n
      · have HME := Lib.hid (ms_lt hlt)
        have HSI := Lib.hid (Nat.succ_le_of_lt hlt)
        have hi1 : (i : Int) < (n : Int) := Int.ofNat_lt.2 hlt
        obtain ⟨⟨yw, yk, yv⟩, uy, hy, hp, b', o', rfl, hbl, hcs⟩ := (HT.out.up HR.out.low).at_ hlt
        obtain ⟨ky, ny, Ay, ly, cy, by', sy, Qy, lqy, cqy, hye⟩ := hy.shape
        simp only at hye hy
        subst hye
        have y0 := hcs 0 _ rfl
        rw [Nat.add_zero] at y0
        have y1 := hcs 1 _ rfl
        have y2 := hcs 2 _ rfl
        have y3 := hcs 3 _ rfl
        have y4 := hcs 4 _ rfl
        have y5 := hcs 5 _ rfl
        have y6 := hcs 6 _ rfl
        have y7 := hcs 7 _ rfl
        have HI8 : Hid (i ≤ 1000) := Lib.hid (by omega)
        have HY := Lib.hid hy
        have HP := Lib.hid hp
        clear hcs hy hp
        go_upto_region 10 with fail
        generalize hw4 : wr.alloc (.cells #[.int .i64 yw, .int .i64 yk, .int .i64 ky, .bool ny, .slice Ay ly cy, .int .u64 by', .string sy, .slice Qy lqy cqy] 44) = w4
        have hbk : Blk w4 wr.heap.size 44 #[.int .i64 yw, .int .i64 yk, .int .i64 ky, .bool ny, .slice Ay ly cy, .int .u64 by', .string sy, .slice Qy lqy cqy] := by rw [← hw4]; exact Blk.new wr _ _
        have HBW : Hid (Below wr.heap.size wr w4) := Lib.hid (by rw [← hw4]; exact below_al (Below.refl _ _) _)
        have HLQ : Hid (wr.heap.size < w4.heap.size) := Lib.hid hbk.lt
        have HRC : Hid (RunC wr.heap.size ⟨yw, yk, ⟨ky, ny, .slice Ay ly cy, by', sy, .slice Qy lqy cqy⟩⟩ w4.drew) := Lib.hid ⟨(hbk.drew.cell 0).trans rfl, TryC.of_blk (xw := yw) (x := ⟨ky, ny, .slice Ay ly cy, by', sy, .slice Qy lqy cqy⟩) hbk.drew⟩
        have HCL : Hid (Calls Tryz.prog 46 #[.agg #[.int .i64 yw, .int .i64 yk, .int .i64 ky, .bool ny, .slice Ay ly cy, .int .u64 by', .string sy, .slice Qy lqy cqy], .iface T xx] w4.drew (NotDone w4.drew)) := Lib.hid (done_any yw yk (xV := ⟨ky, ny, .slice Ay ly cy, by', sy, .slice Qy lqy cqy⟩) (HR.out.fv.keep (still_below HBW.out.drew (fun k hk => Nat.lt_of_lt_of_le hk.2 (Nat.le_trans HR.out.hb HR.out.hB)))) (Nat.le_trans HR.out.hb (Nat.le_trans HR.out.hB HBW.out.drew.size)) (HY.out.up HBW.out.drew) HP.out (by decide) ((HGL.out.up HR.out.low).up HBW.out.drew))
        have htd := (HR.out.told.below HBW.out.drew HR.out.told.lt)
        have d0 : w4.drew.cell? ⟨w.heap.size + 2, 0, none⟩ = some (.slice AD i cD) := htd.cell 0
        have l40 := htd.lt
        have d00 : w4.cell? ⟨w.heap.size + 2, 0, none⟩ = some (.slice AD i cD) := htd.cell 0
        have HTD := Lib.hid htd
        have HGQ : Hid (w.heap.size + 2 ≠ wr.heap.size) := Lib.hid (Nat.ne_of_lt HR.out.told.lt)
        have HBB : Hid (B ≤ w4.heap.size) := Lib.hid (Nat.le_trans HR.out.hB (Nat.le_of_lt HLQ.out))
        clear y0 y1 y2 y3 y4 y5 y6 y7 hw4 hbk hbl HY HP htd
        rw [show Op.load 48 (.tmp 41) = ldAs 48 (.tmp 41) from rfl]
        go_region_held3 (fun W => RunC wr.heap.size ⟨yw, yk, ⟨ky, ny, .slice Ay ly cy, by', sy, .slice Qy lqy cqy⟩⟩ W)
          (first | (with_reducible assumption) | (with_reducible exact HRC.out) | (with_reducible exact (‹RunC _ _ _›).al _) | (with_reducible exact (‹RunC _ _ _›).up ‹Below _ _ _›) | (with_reducible exact HRC.out.up ‹Below _ _ _›) | (with_reducible exact (‹RunC _ _ _›).st HGQ.out _ _))
          (first
            | (go_at_call 46; (with_reducible refine HCL.out.mono ?_); rintro e w5 ⟨rfl, hb5⟩; have HB5 := Lib.hid (below_up HBW.out.drew hb5); have HRW := Lib.hid (own_below HR.out.row HB5.out); have hrc5 := HRC.out.up hb5; have HRC5 := Lib.hid hrc5; have HTD5 := Lib.hid (HTD.out.below hb5 HTD.out.lt); have d0' : w5.cell? ⟨w.heap.size + 2, 0, none⟩ = some (.slice AD i cD) := HTD5.out.cell 0; have l5' := HTD5.out.lt; have HS5 := Lib.hid (Nat.le_trans HBB.out hb5.size); have HQ5 := Lib.hid (Nat.lt_of_lt_of_le HLQ.out hb5.size))
            | (refine step_pb w5 HRW.out HS5.out HI8.out 4 rfl _ _ rfl (by rfl) (by rfl) ?_; rintro A' c'' w6 hr6 hb6 hk6; have HR6 := Lib.hid hr6; have HB6 := Lib.hid hb6; have hrc6 := HRC5.out.keep (hk6 _ HQ5.out (fun g hg e => absurd ((own_lt HR.out.row hg).2) (by rw [e]; exact Nat.lt_irrefl _))); have htd6 := HTD5.out.keep (hk6 _ HTD5.out.lt (fun g hg e => absurd ((own_lt HR.out.row hg).1) (by rw [e]; have := HR.out.h3; have := HR.out.hb; omega))); have q6 : w6.cell? ⟨w.heap.size + 2, 0, none⟩ = some (.slice AD i cD) := htd6.cell 0; have qf6 := htd6.frozen 0; have ql6 := htd6.lt; clear hr6 hb6 hk6 htd6))
        all_goals
          have HF7 := Lib.hid (HR.out.step ((HB5.out.mono HR.out.hB).trans HB6.out) HR6.out)
          clear HB5 HB6 HR6 HRW HRC5 HTD5 HRC HTD HCL HS5 HQ5 hrc5 hrc6 d0 d00 l40 d0' l5' q6 qf6 ql6
          go_wp2
          exact ⟨⟨i + 1, A', c'', rfl, HSI.out, HF7⟩, HME.out⟩
      · have hin : i = n := by omega
        subst hin
        have hpn : ∀ W : World, (binOp .neq 64 .nilIface .nilIface).run Tryz.prog W = .ok (.bool false) W := fun W => by kernel_rfl
        have hpy : ∀ (T : TypeId) (x : Value) (W : World), (binOp .neq 64 (.iface T x) .nilIface).run Tryz.prog W = .ok (.bool true) W := fun T x W => by kernel_rfl
        have HPA := Lib.hid (part_any at_ HR.out.fv (Nat.le_trans HR.out.hb HR.out.hB) HG.out.head)
        go_wp2_with fail
        refine HPA.out.mono ?_
        rintro e w5 ⟨hb5, hpe⟩
        have HR5 := Lib.hid (HR.out.up hb5)
        have HLW := Lib.hid hb5
        clear hb5 HPA
        rcases hpe with rfl | ⟨TP, xp, rfl, d', a', b', u', hfp, hbp⟩
        · have HTL := Lib.hid (tell_any d HR5.out.fv (Nat.le_trans HR5.out.hb HR5.out.hB) HG.out)
          go_wp2_with fail
          refine HTL.out.mono ?_
          rintro e w6 ⟨yv, rfl, hyv, hb6⟩
          obtain ⟨zk, zn, zA, zl, zc, zb, zs, zQ, zq, zqc, rfl⟩ := hyv.hv.shape
          have HR6 := Lib.hid (HR5.out.up hb6)
          have HYV := Lib.hid hyv
          have t1 : w6.cell? ⟨w.heap.size + 2, 1, none⟩ = some (.int .i64 0) := HR6.out.told.cell 1
          have t2 : w6.cell? ⟨w.heap.size + 2, 2, none⟩ = some (.bool false) := HR6.out.told.cell 2
          have t3 : w6.cell? ⟨w.heap.size + 2, 3, none⟩ = some (.slice none 0 0) := HR6.out.told.cell 3
          have t4 : w6.cell? ⟨w.heap.size + 2, 4, none⟩ = some (.int .u64 0) := HR6.out.told.cell 4
          have t5 : w6.cell? ⟨w.heap.size + 2, 5, none⟩ = some (.string { data := #[] }) := HR6.out.told.cell 5
          have t6 : w6.cell? ⟨w.heap.size + 2, 6, none⟩ = some (.slice none 0 0) := HR6.out.told.cell 6
          have f1 := HR6.out.told.frozen 1
          have f2 := HR6.out.told.frozen 2
          have f3 := HR6.out.told.frozen 3
          have f4 := HR6.out.told.frozen 4
          have f5 := HR6.out.told.frozen 5
          have f6 := HR6.out.told.frozen 6
          have tl := HR6.out.told.lt
          clear hyv hb6 HTL
          go_upto_region 16 with fail
          generalize hw7 : (((((w6.setCell ⟨w.heap.size + 2, 1, none⟩ (.int .i64 zk)).setCell ⟨w.heap.size + 2, 2, none⟩ (.bool zn)).setCell ⟨w.heap.size + 2, 3, none⟩ (.slice zA zl zc)).setCell ⟨w.heap.size + 2, 4, none⟩ (.int .u64 zb)).setCell ⟨w.heap.size + 2, 5, none⟩ (.string zs)).setCell ⟨w.heap.size + 2, 6, none⟩ (.slice zQ zq zqc) = w7
          have hb7 : Blk w7 (w.heap.size + 2) 50 #[.slice AD i cD, .int .i64 zk, .bool zn, .slice zA zl zc, .int .u64 zb, .string zs, .slice zQ zq zqc, .bool false] := by
            rw [← hw7]
            have := (((((HR6.out.told.set 1 (.int .i64 zk)).set 2 (.bool zn)).set 3 (.slice zA zl zc)).set 4 (.int .u64 zb)).set 5 (.string zs)).set 6 (.slice zQ zq zqc)
            simpa using this
          have HB7 : Hid (But (fun k => k = w.heap.size + 2) w6 w7) := Lib.hid (by
            rw [← hw7]
            exact ((((((But.refl (fun k => k = w.heap.size + 2) w6).set (p := ⟨w.heap.size + 2, 1, none⟩) rfl _).set (p := ⟨w.heap.size + 2, 2, none⟩) rfl _).set (p := ⟨w.heap.size + 2, 3, none⟩) rfl _).set (p := ⟨w.heap.size + 2, 4, none⟩) rfl _).set (p := ⟨w.heap.size + 2, 5, none⟩) rfl _).set (p := ⟨w.heap.size + 2, 6, none⟩) rfl _)
          have HG5 : Hid (w.heap.size + 2 < w5.heap.size) := Lib.hid HR5.out.told.lt
          have q0 := hb7.cell 0
          have q1 := hb7.cell 1
          have q2 := hb7.cell 2
          have q3 := hb7.cell 3
          have q4 := hb7.cell 4
          have q5 := hb7.cell 5
          have q6 := hb7.cell 6
          have q7 := hb7.cell 7
          have p0 := hb7.frozen 0
          have p1 := hb7.frozen 1
          have p2 := hb7.frozen 2
          have p3 := hb7.frozen 3
          have p4 := hb7.frozen 4
          have p5 := hb7.frozen 5
          have p6 := hb7.frozen 6
          have p7 := hb7.frozen 7
          have pl := hb7.lt
          simp at q0 q1 q2 q3 q4 q5 q6 q7
          clear t1 t2 t3 t4 t5 t6 f1 f2 f3 f4 f5 f6 tl hw7 hb7
          go_wp2
          refine bodyPost_ret (v := .tuple #[.agg #[.slice AD i cD, .int .i64 zk, .bool zn, .slice zA zl zc, .int .u64 zb, .string zs, .slice zQ zq zqc, .bool false], .bool true]) (by simp [results, Tryz.results18, go_sem, q0, q1, q2, q3, q4, q5, q6, q7]) rfl ?_
          have HB8 := but8 HB7.out (.slice AD i cD) (.int .i64 zk) (.bool zn) (.slice zA zl zc) (.int .u64 zb) (.string zs) (.slice zQ zq zqc) (.bool false)
          exact ⟨AD, cD, ⟨zk, zn, .slice zA zl zc, zb, zs, .slice zQ zq zqc⟩, rfl, (HR6.out.out HB8).1, told_keep HYV.out HG5.out HB8, (HR6.out.out HB8).2⟩
        · have k0 : w5.cell? ⟨w.heap.size + 1, 0, none⟩ = some (.int .i64 kw) := HR5.out.kid.cell 0
          have k1 : w5.cell? ⟨w.heap.size + 1, 1, none⟩ = some (.int .i64 kk) := HR5.out.kid.cell 1
          have k2' : w5.cell? ⟨w.heap.size + 1, 2, none⟩ = some (.int .i64 k2) := HR5.out.kid.cell 2
          have k3 : w5.cell? ⟨w.heap.size + 1, 3, none⟩ = some (.bool n2) := HR5.out.kid.cell 3
          have k4 : w5.cell? ⟨w.heap.size + 1, 4, none⟩ = some (.slice A2 l2 c2) := HR5.out.kid.cell 4
          have k5 : w5.cell? ⟨w.heap.size + 1, 5, none⟩ = some (.int .u64 b2) := HR5.out.kid.cell 5
          have k6 : w5.cell? ⟨w.heap.size + 1, 6, none⟩ = some (.string s2) := HR5.out.kid.cell 6
          have k7 : w5.cell? ⟨w.heap.size + 1, 7, none⟩ = some (.slice A3 l3 c3) := HR5.out.kid.cell 7
          have HDN := Lib.hid (done_any kw kk (xV := ⟨k2, n2, .slice A2 l2 c2, b2, s2, .slice A3 l3 c3⟩) hfp hbp (HK.out.up HR5.out.low) HGK.out (by decide) (HGL.out.up HR5.out.low))
          clear hfp hbp
          go_wp2_with fail
          refine HDN.out.mono ?_
          rintro e w6 ⟨rfl, hb6⟩
          have HR6 := Lib.hid (HR5.out.up hb6)
          have t7 : w6.cell? ⟨w.heap.size + 2, 7, none⟩ = some (.bool false) := HR6.out.told.cell 7
          have f7 := HR6.out.told.frozen 7
          have l7 := HR6.out.told.lt
          clear k0 k1 k2' k3 k4 k5 k6 k7 HDN hb6
          go_upto_region 15 with fail
          have HR7 := Lib.hid HR6.out.st7
          generalize w6.setCell ⟨w.heap.size + 2, 7, none⟩ (.bool false) = w7 at HR7 ⊢
          clear t7 f7 l7 HR5 HR6 HLW
          have HTL := Lib.hid (tell_any d HR7.out.fv (Nat.le_trans HR7.out.hb HR7.out.hB) HG.out)
          go_wp2_with fail
          refine HTL.out.mono ?_
          rintro e w8 ⟨yv, rfl, hyv, hb8⟩
          obtain ⟨zk, zn, zA, zl, zc, zb, zs, zQ, zq, zqc, rfl⟩ := hyv.hv.shape
          have HR8 := Lib.hid (HR7.out.up hb8)
          have HYV := Lib.hid hyv
          have t1 : w8.cell? ⟨w.heap.size + 2, 1, none⟩ = some (.int .i64 0) := HR8.out.told.cell 1
          have t2 : w8.cell? ⟨w.heap.size + 2, 2, none⟩ = some (.bool false) := HR8.out.told.cell 2
          have t3 : w8.cell? ⟨w.heap.size + 2, 3, none⟩ = some (.slice none 0 0) := HR8.out.told.cell 3
          have t4 : w8.cell? ⟨w.heap.size + 2, 4, none⟩ = some (.int .u64 0) := HR8.out.told.cell 4
          have t5 : w8.cell? ⟨w.heap.size + 2, 5, none⟩ = some (.string { data := #[] }) := HR8.out.told.cell 5
          have t6 : w8.cell? ⟨w.heap.size + 2, 6, none⟩ = some (.slice none 0 0) := HR8.out.told.cell 6
          have f1 := HR8.out.told.frozen 1
          have f2 := HR8.out.told.frozen 2
          have f3 := HR8.out.told.frozen 3
          have f4 := HR8.out.told.frozen 4
          have f5 := HR8.out.told.frozen 5
          have f6 := HR8.out.told.frozen 6
          have tl := HR8.out.told.lt
          clear hyv hb8 HTL
          go_upto_region 16 with fail
          generalize hw9 : (((((w8.setCell ⟨w.heap.size + 2, 1, none⟩ (.int .i64 zk)).setCell ⟨w.heap.size + 2, 2, none⟩ (.bool zn)).setCell ⟨w.heap.size + 2, 3, none⟩ (.slice zA zl zc)).setCell ⟨w.heap.size + 2, 4, none⟩ (.int .u64 zb)).setCell ⟨w.heap.size + 2, 5, none⟩ (.string zs)).setCell ⟨w.heap.size + 2, 6, none⟩ (.slice zQ zq zqc) = w9
          have hb9 : Blk w9 (w.heap.size + 2) 50 #[.slice AD i cD, .int .i64 zk, .bool zn, .slice zA zl zc, .int .u64 zb, .string zs, .slice zQ zq zqc, .bool false] := by
            rw [← hw9]
            have := (((((HR8.out.told.set 1 (.int .i64 zk)).set 2 (.bool zn)).set 3 (.slice zA zl zc)).set 4 (.int .u64 zb)).set 5 (.string zs)).set 6 (.slice zQ zq zqc)
            simpa using this
          have HB9 : Hid (But (fun k => k = w.heap.size + 2) w8 w9) := Lib.hid (by
            rw [← hw9]
            exact ((((((But.refl (fun k => k = w.heap.size + 2) w8).set (p := ⟨w.heap.size + 2, 1, none⟩) rfl _).set (p := ⟨w.heap.size + 2, 2, none⟩) rfl _).set (p := ⟨w.heap.size + 2, 3, none⟩) rfl _).set (p := ⟨w.heap.size + 2, 4, none⟩) rfl _).set (p := ⟨w.heap.size + 2, 5, none⟩) rfl _).set (p := ⟨w.heap.size + 2, 6, none⟩) rfl _)
          have HG5 : Hid (w.heap.size + 2 < w7.heap.size) := Lib.hid HR7.out.told.lt
          have q0 := hb9.cell 0
          have q1 := hb9.cell 1
          have q2 := hb9.cell 2
          have q3 := hb9.cell 3
          have q4 := hb9.cell 4
          have q5 := hb9.cell 5
          have q6 := hb9.cell 6
          have q7 := hb9.cell 7
          have p0 := hb9.frozen 0
          have p1 := hb9.frozen 1
          have p2 := hb9.frozen 2
          have p3 := hb9.frozen 3
          have p4 := hb9.frozen 4
          have p5 := hb9.frozen 5
          have p6 := hb9.frozen 6
          have p7 := hb9.frozen 7
          have pl := hb9.lt
          simp at q0 q1 q2 q3 q4 q5 q6 q7
          clear t1 t2 t3 t4 t5 t6 f1 f2 f3 f4 f5 f6 tl hw9 hb9
          go_wp2
          refine bodyPost_ret (v := .tuple #[.agg #[.slice AD i cD, .int .i64 zk, .bool zn, .slice zA zl zc, .int .u64 zb, .string zs, .slice zQ zq zqc, .bool false], .bool true]) (by simp [results, Tryz.results18, go_sem, q0, q1, q2, q3, q4, q5, q6, q7]) rfl ?_
          have HC8 := but8 HB9.out (.slice AD i cD) (.int .i64 zk) (.bool zn) (.slice zA zl zc) (.int .u64 zb) (.string zs) (.slice zQ zq zqc) (.bool false)
          exact ⟨AD, cD, ⟨zk, zn, .slice zA zl zc, zb, zs, .slice zQ zq zqc⟩, rfl, (HR8.out.out HC8).1, told_keep HYV.out HG5.out HC8, (HR8.out.out HC8).2⟩
end Go.Proofs.YtloloifngbmibaaGreatDoor
