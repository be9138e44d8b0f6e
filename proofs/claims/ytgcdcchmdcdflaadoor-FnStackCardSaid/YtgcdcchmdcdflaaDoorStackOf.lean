/- Walk of StackOf. -/
import Derived.Test.YtgcdcchmdcdflaaDoorStr
set_option linter.unusedVariables false
namespace Go.Proofs.YtgcdcchmdcdflaaDoor
open Go.RowKit

/-- A load, by a name of its own (a region's walk takes it for no load: it goes through its ways without a word). -/
abbrev ldAs (t : TypeId) (x : Operand) : Op := .load t x

theorem info_cf : (Tryd.prog.info? 42).map (fun i => (i.zero, i.size, i.bytes)) = some (some (.agg #[.string { data := #[] }, .pointer none, .int .i32 0, .int .i32 0]), 4, 32) := by kernel_rfl
theorem info_s : (Tryd.prog.info? 9).map (fun i => (i.zero, i.size, i.bytes)) = some (some (.string { data := #[] }), 1, 16) := by kernel_rfl

/-- StackOf's own variables: what it tells, the stack, the file's name. -/
structure St (w : World) (t1 t2 t3 t4 s : Value) (W : World) : Prop where
  below : Below w.heap.size w W
  bt : Blk W w.heap.size 26 #[t1, t2, t3, t4]
  bs : Blk W (w.heap.size + 1) 35 #[s]
  bf : Blk W (w.heap.size + 2) 9 #[.string { data := #[102] }]
theorem St.up {w W W' : World} {t1 t2 t3 t4 s : Value} (h : St w t1 t2 t3 t4 s W) (hb : Below W.heap.size W W') : St w t1 t2 t3 t4 s W' :=
  ⟨below_up h.below hb, h.bt.below hb h.bt.lt, h.bs.below hb h.bs.lt, h.bf.below hb h.bf.lt⟩
theorem St.start (w : World) : St w (.slice none 0 0) (.slice none 0 0) (.int .i64 0) (.bool false) (.slice none 0 0) (((w.alloc (.cells #[.slice none 0 0, .slice none 0 0, .int .i64 0, .bool false] 26)).alloc (.cells #[.slice none 0 0] 35)).alloc (.cells #[.string { data := #[102] }] 9)) := by
  have h1 := Blk.new w 26 #[.slice none 0 0, .slice none 0 0, .int .i64 0, .bool false]
  have h2 := Blk.new (w.alloc (.cells #[.slice none 0 0, .slice none 0 0, .int .i64 0, .bool false] 26)) 35 #[.slice none 0 0]
  have h3 := Blk.new ((w.alloc (.cells #[.slice none 0 0, .slice none 0 0, .int .i64 0, .bool false] 26)).alloc (.cells #[.slice none 0 0] 35)) 9 #[.string { data := #[102] }]
  simp at h2 h3
  exact ⟨below_al (below_al (below_al (Below.refl _ _) _) _) _, (h1.alloc _).alloc _, h2.alloc _, h3⟩

theorem blk_new' (W : World) (t : TypeId) (cs : Array Value) (g : Nat) (hg : g = W.heap.size) : Blk (W.alloc (.cells cs t)) g t cs := by
  subst hg
  exact Blk.new W t cs
/-- What the first loop holds: the stack so far (k6 frames), the names so far (k7), the frame at hand. -/
structure Gt (w : World) (t1 t2 t3 t4 s0 : Value) (l : List Fr) (f : Fr) (gx : Nat) (s6 v7 : Value) (k6 k7 : Nat) (W : World) : Prop where
  st : St w t1 t2 t3 t4 s0 W
  o6 : W.ownsRow (w.heap.size + 3) 42 4 s6 k6 (cfs ⟨w.heap.size + 2, 0, none⟩ (l.take k6))
  o7 : W.ownsRow (w.heap.size + 3) 9 1 v7 k7 (nms (l.take k7))
  bx : Blk W gx 30 #[.string f.nm, .int .i64 f.ln, .int .i64 f.cl]
section
variable {w : World} {t1 t2 t3 t4 s0 : Value} {l : List Fr} {f : Fr} {gx : Nat} {s6 v7 : Value} {k6 k7 : Nat} {W W' : World}
theorem Gt.up (h : Gt w t1 t2 t3 t4 s0 l f gx s6 v7 k6 k7 W) (hb : Below W.heap.size W W') : Gt w t1 t2 t3 t4 s0 l f gx s6 v7 k6 k7 W' :=
  ⟨h.st.up hb, own_below h.o6 hb, own_below h.o7 hb, h.bx.below hb h.bx.lt⟩
theorem Gt.size (h : Gt w t1 t2 t3 t4 s0 l f gx s6 v7 k6 k7 W) : w.heap.size + 3 ≤ W.heap.size := by have := h.st.bf.lt; omega
theorem St.grown {e : TypeId} {n size : Nat} {v : Value} {xs : List Value} (h : St w t1 t2 t3 t4 s0 W) (ho : W.ownsRow (w.heap.size + 3) e size v n xs) (hg : W.grownBy W' v.ownBlock) : St w t1 t2 t3 t4 s0 W' := by
  have hne : ∀ g, g < w.heap.size + 3 → some g ≠ v.ownBlock := fun g hg e => by
    have := (own_lt ho e.symm).1
    omega
  exact ⟨h.below.grown hg (by have := h.bt.lt; omega) (fun g hg => by have := (own_lt ho hg).1; omega), h.bt.grown hg (hne _ (by omega)), h.bs.grown hg (hne _ (by omega)), h.bf.grown hg (hne _ (by omega))⟩
theorem Gt.app6 {s' : Value} (h : Gt w t1 t2 t3 t4 s0 l f gx s6 v7 k6 k7 W) (hg : W.grownBy W' s6.ownBlock) (hf : l[k6]? = some f) (ho : W'.ownsRow (w.heap.size + 3) 42 4 s' (k6 + 1) (cfs ⟨w.heap.size + 2, 0, none⟩ (l.take k6) ++ cfs ⟨w.heap.size + 2, 0, none⟩ [f])) : Gt w t1 t2 t3 t4 s0 l f gx s' v7 (k6 + 1) k7 W' := by
  refine ⟨h.st.grown h.o6 hg, ?_, own_grown h.o7 hg (fun g cs _ h3 => own_ne h.o6 h3 (by decide)), h.bx.grown hg (own_ne h.o6 h.bx (by decide))⟩
  have hk : k6 < l.length := (List.getElem?_eq_some_iff.1 hf).1
  have e : l[k6] = f := (List.getElem?_eq_some_iff.1 hf).2
  rw [List.take_succ_eq_append_getElem hk, e, cfs_app]
  exact ho
theorem Gt.app7 {v' : Value} (h : Gt w t1 t2 t3 t4 s0 l f gx s6 v7 k6 k7 W) (hg : W.grownBy W' v7.ownBlock) (hf : l[k7]? = some f) (ho : W'.ownsRow (w.heap.size + 3) 9 1 v' (k7 + 1) (nms (l.take k7) ++ nms [f])) : Gt w t1 t2 t3 t4 s0 l f gx s6 v' k6 (k7 + 1) W' := by
  refine ⟨h.st.grown h.o7 hg, own_grown h.o6 hg (fun g cs _ h3 => own_ne h.o7 h3 (by decide)), ?_, h.bx.grown hg (own_ne h.o7 h.bx (by decide))⟩
  have hk : k7 < l.length := (List.getElem?_eq_some_iff.1 hf).1
  have e : l[k7] = f := (List.getElem?_eq_some_iff.1 hf).2
  rw [List.take_succ_eq_append_getElem hk, e, nms_app]
  exact ho
end
theorem rd_cf1 {W : World} {g : Nat} {t : TypeId} {p : Addr} {f : Fr} (h : Blk W g t #[.string f.nm, .pointer (some p), .int .i32 f.ln, .int .i32 f.cl]) : Rd W (fun _ => True) (some ⟨g, 0, none⟩) (cfs p [f]) := Rd.of_blk (ys := []) h trivial
theorem rd_nm1 {W : World} {g : Nat} {t : TypeId} {f : Fr} (h : Blk W g t #[.string f.nm]) : Rd W (fun _ => True) (some ⟨g, 0, none⟩) (nms [f]) := Rd.of_blk (ys := []) h trivial
theorem rd_fr1 {W : World} {g : Nat} {t : TypeId} {f : Fr} (h : Blk W g t #[.string f.nm, .int .i64 f.ln, .int .i64 f.cl]) : Rd W (fun _ => True) (some ⟨g, 0, none⟩) (frs [f]) := Rd.of_blk (ys := []) h trivial
theorem cell_al {W : World} {p : Addr} {v : Value} (h : W.cell? p = some v) (o : Obj) : (W.alloc o).cell? p = some v := cell_up (below_al (Below.refl _ _) o) h
theorem cell_st {W : World} {g i j h : Nat} {v : Value} (hne : h ≠ g) (hc : W.cell? ⟨h, j, none⟩ = some v) (u : Value) : (W.setCell ⟨g, i, none⟩ u).cell? ⟨h, j, none⟩ = some v :=
  (World.cell?_of_block (a := ⟨h, j, none⟩) (Below.heap_setCell W ⟨g, i, none⟩ u h hne)).trans hc
theorem St.store {w W : World} {t1 t2 t3 t4 s : Value} (h : St w t1 t2 t3 t4 s W) (v : Value) : St w t1 t2 t3 t4 v (W.setCell ⟨w.heap.size + 1, 0, none⟩ v) :=
  ⟨h.below.setCell (by simp) _, h.bt.far (by simp) _, h.bs.set 0 v, h.bf.far (by simp) _⟩
theorem mk_pos (p : Addr) (a b : Int) (ha : 1 ≤ a ∧ a ≤ 100000) (hb : 1 ≤ b ∧ b ≤ 100000) (w : World) :
    Calls Tryd.prog 8 #[.pointer (some p), .int .i32 (IntKind.i32.wrap a), .int .i32 (IntKind.i32.wrap b)] w fun e w' => e = .returned (.agg #[.pointer (some p), .int .i32 a, .int .i32 b]) ∧ Below w.heap.size w w' := by
  have e1 : IntKind.i32.wrap a = a := by simp only [IntKind.wrap_i32]; omega
  have e2 : IntKind.i32.wrap b = b := by simp only [IntKind.wrap_i32]; omega
  rw [e1, e2]
  exact makePos_any p a b w

theorem step6 {w W : World} {t1 t2 t3 t4 s0 s6 v7 : Value} {l : List Fr} {f : Fr} {gx k k7 : Nat} {ops : Array Oper} {o : Oper} {a : Act} {K : Act → World → Prop} {Q : Exit → Act → World → Prop} {E : Prop} (hgd : o.guard = none) (s x : Operand)
    (ho : o.op = .call { callee := .builtin .append, args := #[s, x], argTypes := #[35, 35] }) (hs : a.eval s = s6) (A : Option Addr) (hx : a.eval x = .slice A 1 1)
    (hG : Gt w t1 t2 t3 t4 s0 l f gx s6 v7 k k7 W) (hr : Rd W (fun _ => True) A (cfs ⟨w.heap.size + 2, 0, none⟩ [f])) (hf : l[k]? = some f) (hk : k ≤ 1000)
    (h : ∀ v' w', Hid (Gt w t1 t2 t3 t4 s0 l f gx v' v7 (k + 1) k7 w') → Hid (∀ g t cs, Blk W g t cs → t ≠ 42 → Blk w' g t cs) → K (a.put o.dst v') w') : if Region.wanted o (yielded ops a.tmps) = true then o.wp Tryd.prog a W K Q else E :=
  step_append_rd W hgd s x 35 ho (w.heap.size + 3) 42 (.agg #[.string { data := #[] }, .pointer none, .int .i32 0, .int .i32 0]) 4 32 Tryd.underlying35 info_cf rfl (by decide) s6 k (cfs ⟨w.heap.size + 2, 0, none⟩ (l.take k)) hs hG.o6 (fun _ => True) A 1 1 (cfs ⟨w.heap.size + 2, 0, none⟩ [f]) hx rfl hr (cfs_one _ _) (by unfold maxLen; omega) (by omega) hG.size
    fun v' w' ho hg _ => h v' w' (Lib.hid (Gt.app6 hG hg hf ho)) (Lib.hid fun g t cs h ht => h.grown hg (own_ne hG.o6 h ht))
theorem step7 {w W : World} {t1 t2 t3 t4 s0 s6 v7 : Value} {l : List Fr} {f : Fr} {gx k k6 : Nat} {ops : Array Oper} {o : Oper} {a : Act} {K : Act → World → Prop} {Q : Exit → Act → World → Prop} {E : Prop} (hgd : o.guard = none) (s x : Operand)
    (ho : o.op = .call { callee := .builtin .append, args := #[s, x], argTypes := #[36, 36] }) (hs : a.eval s = v7) (A : Option Addr) (hx : a.eval x = .slice A 1 1)
    (hG : Gt w t1 t2 t3 t4 s0 l f gx s6 v7 k6 k W) (hr : Rd W (fun _ => True) A (nms [f])) (hf : l[k]? = some f) (hk : k ≤ 1000)
    (h : ∀ v' w', Hid (Gt w t1 t2 t3 t4 s0 l f gx s6 v' k6 (k + 1) w') → K (a.put o.dst v') w') : if Region.wanted o (yielded ops a.tmps) = true then o.wp Tryd.prog a W K Q else E :=
  step_append_rd W hgd s x 36 ho (w.heap.size + 3) 9 (.string { data := #[] }) 1 16 Tryd.underlying36 info_s rfl (by decide) v7 k (nms (l.take k)) hs hG.o7 (fun _ => True) A 1 1 (nms [f]) hx rfl hr (nms_one _) (by unfold maxLen; omega) (by omega) hG.size
    fun v' w' ho hg _ => h v' w' (Lib.hid (Gt.app7 hG hg hf ho))
theorem own_form {W : World} {base n size : Nat} {e : TypeId} {v : Value} {xs : List Value} (h : W.ownsRow base e size v n xs) : ∃ A c, v = .slice A n c := by
  obtain ⟨A, c, h1, _⟩ := own_rd h
  exact ⟨A, c, h1⟩
theorem St.told {w W : World} {t1 t2 t3 t4 s : Value} (h : St w t1 t2 t3 t4 s W) (v : Value) : St w t1 t2 t3 v s (W.setCell ⟨w.heap.size, 3, none⟩ v) :=
  ⟨h.below.setCell (Nat.le_refl _) _, h.bt.set 3 v, h.bs.far (by simp) _, h.bf.far (by simp) _⟩
theorem St.left {w W : World} {t1 t2 t3 t4 s : Value} (h : St w t1 t2 t3 t4 s W) (v : Value) : St w t1 t2 v t4 s (W.setCell ⟨w.heap.size, 2, none⟩ v) :=
  ⟨h.below.setCell (Nat.le_refl _) _, h.bt.set 2 v, h.bs.far (by simp) _, h.bf.far (by simp) _⟩
theorem St.put0 {w W : World} {t1 t2 t3 t4 s : Value} (h : St w t1 t2 t3 t4 s W) (v : Value) : St w v t2 t3 t4 s (W.setCell ⟨w.heap.size, 0, none⟩ v) :=
  ⟨h.below.setCell (Nat.le_refl _) _, h.bt.set 0 v, h.bs.far (by simp) _, h.bf.far (by simp) _⟩
theorem St.put1 {w W : World} {t1 t2 t3 t4 s : Value} (h : St w t1 t2 t3 t4 s W) (v : Value) : St w t1 v t3 t4 s (W.setCell ⟨w.heap.size, 1, none⟩ v) :=
  ⟨h.below.setCell (Nat.le_refl _) _, h.bt.set 1 v, h.bs.far (by simp) _, h.bf.far (by simp) _⟩
theorem own_rd' {W : World} {base n m size c : Nat} {e : TypeId} {A : Option Addr} {xs : List Value} (h : W.ownsRow base e size (.slice A m c) n xs) : Rd W (fun j => base ≤ j ∧ j < W.heap.size) A xs := by
  obtain ⟨A', c', h1, _, h2, _⟩ := own_rd h
  injection h1 with h1
  rw [h1]
  exact h2
/-- What the second and the third loop hold: the stack's cells, the row of frames that grows. -/
structure G2 (w : World) (t1 t2 t3 t4 s : Value) (l : List Fr) (v6 v : Value) (k : Nat) (xs : List Fr) (W : World) : Prop where
  st : St w t1 t2 t3 t4 s W
  o6 : W.ownsRow (w.heap.size + 3) 42 4 v6 l.length (cfs ⟨w.heap.size + 2, 0, none⟩ l)
  o1 : W.ownsRow (w.heap.size + 3) 30 3 v k (frs xs)
theorem G2.up {w : World} {t1 t2 t3 t4 s v6 v : Value} {l xs : List Fr} {k : Nat} {W W' : World} (h : G2 w t1 t2 t3 t4 s l v6 v k xs W) (hb : Below W.heap.size W W') : G2 w t1 t2 t3 t4 s l v6 v k xs W' :=
  ⟨h.st.up hb, own_below h.o6 hb, own_below h.o1 hb⟩
theorem step8 {w W : World} {t1 t2 t3 t4 s v6 v : Value} {l xs : List Fr} {f : Fr} {k : Nat} {ops : Array Oper} {o : Oper} {a : Act} {K : Act → World → Prop} {Q : Exit → Act → World → Prop} {E : Prop} (hgd : o.guard = none) (sl x : Operand)
    (ho : o.op = .call { callee := .builtin .append, args := #[sl, x], argTypes := #[22, 22] }) (hs : a.eval sl = v) (A : Option Addr) (hx : a.eval x = .slice A 1 1)
    (hG : G2 w t1 t2 t3 t4 s l v6 v k xs W) (hr : Rd W (fun _ => True) A (frs [f])) (hk : k ≤ 1000)
    (h : ∀ v' w', Hid (G2 w t1 t2 t3 t4 s l v6 v' (k + 1) (xs ++ [f]) w') → Hid (v'.ownBlock = v.ownBlock ∨ v'.ownBlock = some W.heap.size) → Hid (W.grownBy w' v.ownBlock) → K (a.put o.dst v') w') : if Region.wanted o (yielded ops a.tmps) = true then o.wp Tryd.prog a W K Q else E :=
  step_append_rd W hgd sl x 22 ho (w.heap.size + 3) 30 (.agg #[.string { data := #[] }, .int .i64 0, .int .i64 0]) 3 32 Tryd.underlying22 info_fr rfl (by decide) v k (frs xs) hs hG.o1 (fun _ => True) A 1 1 (frs [f]) hx rfl hr (frs_one _) (by unfold maxLen; omega) (by omega) (by have := hG.st.bf.lt; omega)
    fun v' w' ho hg hrow => h v' w' (Lib.hid ⟨hG.st.grown hG.o1 hg, own_grown hG.o6 hg (fun g cs _ h3 => own_ne hG.o1 h3 (by decide)), by rw [frs_app]; exact ho⟩) (Lib.hid hrow) (Lib.hid hg)
theorem rev_next {l : List Fr} {f : Fr} {k : Nat} (hk : k < l.length) (hf : l[l.length - 1 - k]? = some f) : l.reverse.take (k + 1) = l.reverse.take k ++ [f] := by
  have hk' : k < l.reverse.length := by simpa using hk
  have h := List.getElem?_reverse hk
  rw [hf] at h
  have e : l.reverse[k] = f := (List.getElem?_eq_some_iff.1 h).2
  rw [List.take_succ_eq_append_getElem hk', e]
theorem Rd.left {W : World} {S : Nat → Prop} {A : Option Addr} {xs ys : List Value} (h : Rd W S A (xs ++ ys)) : Rd W S A xs := fun hn => by
  obtain ⟨b, o, e, hb, hc⟩ := h (by rw [List.length_append]; omega)
  exact ⟨b, o, e, hb, fun j u hu => hc j u (by rw [List.getElem?_append_left (List.getElem?_eq_some_iff.1 hu).1]; exact hu)⟩
/-- What the third loop holds besides: the row of the second. -/
structure G3 (w : World) (t1 t2 t3 t4 s : Value) (l : List Fr) (v6 v : Value) (k : Nat) (xs : List Fr) (W : World) : Prop where
  g2 : G2 w t1 t2 t3 t4 s l v6 v k xs W
  o0 : W.ownsRow (w.heap.size + 3) 30 3 t1 l.length (frs l.reverse)
  sep : ∀ g, t1.ownBlock = some g → some g ≠ v.ownBlock
theorem G3.up {w : World} {t1 t2 t3 t4 s v6 v : Value} {l xs : List Fr} {k : Nat} {W W' : World} (h : G3 w t1 t2 t3 t4 s l v6 v k xs W) (hb : Below W.heap.size W W') : G3 w t1 t2 t3 t4 s l v6 v k xs W' :=
  ⟨h.g2.up hb, own_below h.o0 hb, h.sep⟩
theorem G3.pop {w : World} {t1 t2 t3 t4 s v6 v : Value} {l xs : List Fr} {k : Nat} {W : World} (h : G3 w t1 t2 t3 t4 s l v6 v k xs W) (s' : Value) : G3 w t1 t2 t3 t4 s' l v6 v k xs (W.setCell ⟨w.heap.size + 1, 0, none⟩ s') :=
  ⟨⟨h.g2.st.store s', own_set h.g2.o6 (p := ⟨w.heap.size + 1, 0, none⟩) h.g2.st.bs (by decide) s', own_set h.g2.o1 (p := ⟨w.heap.size + 1, 0, none⟩) h.g2.st.bs (by decide) s'⟩, own_set h.o0 (p := ⟨w.heap.size + 1, 0, none⟩) h.g2.st.bs (by decide) s', h.sep⟩
theorem G3.app {w : World} {t1 t2 t3 t4 s v6 v v' : Value} {l xs xs' : List Fr} {k : Nat} {W W' : World} (h : G3 w t1 t2 t3 t4 s l v6 v k xs W) (h2 : G2 w t1 t2 t3 t4 s l v6 v' (k + 1) xs' W') (hrow : v'.ownBlock = v.ownBlock ∨ v'.ownBlock = some W.heap.size) (hg : W.grownBy W' v.ownBlock) : G3 w t1 t2 t3 t4 s l v6 v' (k + 1) xs' W' :=
  ⟨h2, own_grown h.o0 hg (fun g cs h1 _ => h.sep g h1), fun g h1 => by
    rcases hrow with e | e
    · rw [e]; exact h.sep g h1
    · rw [e]
      intro e2
      injection e2 with e2
      have := (own_lt h.o0 h1).2
      omega⟩
theorem rd_al1 {W : World} {S : Nat → Prop} {A : Option Addr} {xs : List Value} (h : Rd W (fun _ => True) A xs) (o : Obj) : Rd (W.alloc o) (fun _ => True) A xs := fun hn => by
  obtain ⟨b, o', e, _, hc⟩ := h hn
  exact ⟨b, o', e, trivial, fun j u hu => cell_al (hc j u hu) o⟩

set_option maxHeartbeats 4000000 in
theorem stackOf_any (S : Nat → Prop) (A : Option Addr) (c : Nat) (l : List Fr) (n : Nat) (hl : l.length ≤ 1000) (hn : n ≤ l.length) (hok : ∀ f ∈ l, f.Ok) (w : World) (h : Rd w S A (frs l)) (hS : ∀ k, S k → k < w.heap.size) (ht : Tab w) :
    Calls Tryd.prog 6 #[.slice A l.length c, .int .i64 (n : Int)] w fun e w' => ∃ A1 c1 A2 c2, e = .returned (.tuple #[.agg #[.slice A1 l.length c1, .slice A2 n c2, .int .i64 ((l.length - n : Nat) : Int), .bool true], .bool true]) ∧
      Rd w' (fun k => w.heap.size ≤ k ∧ k < w'.heap.size) A1 (frs l.reverse) ∧ Rd w' (fun k => w.heap.size ≤ k ∧ k < w'.heap.size) A2 (frs (l.reverse.take n)) ∧ Below w.heap.size w w' := by
  have H : Hid (∀ W : World, Below w.heap.size w W → Rd W S A (frs l)) := fun W hW => h.keep (still_below hW hS)
  have HT : Hid (∀ W : World, Below w.heap.size w W → Tab W) := Lib.hid fun W hW => tab_up ht hW
  have HN := Lib.hid hl
  have HNN := Lib.hid hn
  have HO := Lib.hid hok
  have hst := Lib.hid (St.start w)
  have q1 : ¬ ((n : Int) < 0) := by omega
  have q2 : ¬ ((l.length : Int) < (n : Int)) := by omega
  have q3 : ¬ ((1000 : Int) < (l.length : Int)) := by omega
  clear h hS ht hl hn hok
  go_enter Tryd.func6, Tryd.ntmps6
  go_wp2
  clear q1 q2 q3
  go_loopw [7, 28] (fun v i wr => ∃ (k : Nat) (s : Value), i = .int .i64 (k : Int) ∧ k ≤ l.length ∧ Hid (St w (.slice none 0 0) (.slice none 0 0) (.int .i64 0) (.bool false) s wr) ∧ Hid (wr.ownsRow (w.heap.size + 3) 42 4 s k (cfs ⟨w.heap.size + 2, 0, none⟩ (l.take k))) ∧ Hid (wr.ownsRow (w.heap.size + 3) 9 1 v k (nms (l.take k)))) (fun _ i _ => ((l.length : Int) - intOf i).toNat)
  case atStart => exact ⟨0, _, rfl, by omega, hst, Lib.hid (World.ownsRow_nil _ _ _ _), Lib.hid (World.ownsRow_nil _ _ _ _)⟩
  case round =>
    obtain ⟨k, s, rfl, hk, hT, h6, h7⟩ := hrel
    by_cases hlt : k < l.length
    · obtain ⟨f, hf, b, o, rfl, hSb, c0, c1, c2⟩ := rd_fr (H.out _ hT.out.below) hlt
      have hfo : Hid f.Ok := Lib.hid (HO.out f (List.mem_of_getElem? hf))
      have r1 : ¬ f.ln < 0 := by have := hfo.out.2.1; omega
      have r2 : ¬ 1073741824 < f.ln := by have := hfo.out.2.2.1; omega
      have r3 : ¬ f.cl < 0 := by have := hfo.out.2.2.2.1; omega
      have r4 : ¬ 1073741824 < f.cl := by have := hfo.out.2.2.2.2; omega
      go_upto_region 11 with fail
      obtain ⟨W, hW⟩ : ∃ W, W = (wr.alloc (.cells #[.string f.nm, .int .i64 f.ln, .int .i64 f.cl] 30)) := ⟨_, rfl⟩
      have hG : Hid (Gt w (.slice none 0 0) (.slice none 0 0) (.int .i64 0) (.bool false) s l f wr.heap.size s u7 k k W.drew) := by
        have hbg := below_al (Below.refl wr.heap.size wr) (.cells #[.string f.nm, .int .i64 f.ln, .int .i64 f.cl] 30)
        rw [hW]
        exact Lib.hid ⟨hT.out.up hbg.drew, own_below h6.out hbg.drew, own_below h7.out hbg.drew, Blk.new _ _ _⟩
      rw [← hW]
      have HF := Lib.hid hf
      have HLT := Lib.hid hlt
      have HMK := Lib.hid (fun W' => mk_pos ⟨w.heap.size + 2, 0, none⟩ f.ln f.cl ⟨hfo.out.2.1, hfo.out.2.2.1⟩ hfo.out.2.2.2 W')
      have b6 : w.heap.size + 1 < W.heap.size := hG.out.st.bs.lt
      have b7 := Nat.lt_of_succ_lt b6
      have c6 : W.cell? ⟨w.heap.size + 1, 0, none⟩ = some s := hG.out.st.bs.cell 0
      have d0 : W.cell? ⟨wr.heap.size, 0, none⟩ = some (.string f.nm) := hG.out.bx.cell 0
      have d1 : W.cell? ⟨wr.heap.size, 1, none⟩ = some (.int .i64 f.ln) := hG.out.bx.cell 1
      have d2 : W.cell? ⟨wr.heap.size, 2, none⟩ = some (.int .i64 f.cl) := hG.out.bx.cell 2
      clear hW c0 c1 c2 hf hSb r1 r2 r3 r4 hT h6 h7
      have HK10 : Hid (k ≤ 1000) := Lib.hid (by have := HN.out; omega)
      have hne9 : Hid ((9 : TypeId) ≠ 42) := Lib.hid (by decide)
      have hne0 : Hid (wr.heap.size ≠ w.heap.size + 1) := Lib.hid fun e => by
        have h1 := hG.out.st.bs
        have h2 := hG.out.bx
        rw [e] at h2
        unfold Blk at h1 h2
        rw [h1] at h2
        injection h2 with h2
        injection h2 with _ h2
        exact absurd h2 (by decide)
      rw [show Op.load 35 (.tmp 6) = ldAs 35 (.tmp 6) from rfl]
      go_region_held3 (fun W => W.cell? ⟨wr.heap.size, 0, none⟩ = some (.string f.nm) ∧ W.cell? ⟨wr.heap.size, 1, none⟩ = some (.int .i64 f.ln) ∧ W.cell? ⟨wr.heap.size, 2, none⟩ = some (.int .i64 f.cl)) (first | exact ⟨d0, d1, d2⟩ | exact ⟨cell_al d0 _, cell_al d1 _, cell_al d2 _⟩ | exact ⟨cell_al (cell_al d0 _) _, cell_al (cell_al d1 _) _, cell_al (cell_al d2 _) _⟩ | exact ⟨cell_st hne0.out d0 _, cell_st hne0.out d1 _, cell_st hne0.out d2 _⟩)
        (first
          | (go_at_call 8; (with_reducible refine (HMK.out _).mono ?_); rintro e w' ⟨rfl, hb⟩; (have hG := Lib.hid (Gt.up hG.out (by first | exact hb | exact below_up (below_al (Below.refl _ _) _) hb))); (have hk60 := Lib.hid (fun g t cs (h : Blk _ g t cs) => h.below hb h.lt)); have b6 := hG.out.st.bs.lt; have b7 := Nat.lt_of_succ_lt b6; have c6 := hG.out.st.bs.cell 0; have d0 := hG.out.bx.cell 0; have d1 := hG.out.bx.cell 1; have d2 := hG.out.bx.cell 2; simp at c6 d0 d1 d2)
          | (refine step7 (w := w) (t1 := .slice none 0 0) (t2 := .slice none 0 0) (t3 := .int .i64 0) (t4 := .bool false) (s0 := s) (gx := wr.heap.size) (l := l) (f := f) (s6 := .slice A6 (k + 1) q6) (v7 := u7) (k6 := k + 1) (k := k) rfl _ _ rfl (by rfl) _ (by rfl) ?_ ?_ HF.out ?_ ?_; (first | exact hG.out | exact hG.out.up (below_al (Below.refl _ _) _) | exact hG.out.up (below_al (below_al (Below.refl _ _) _) _)); (refine rd_nm1 (t := 9) ?_); (first | refine blk_new' _ _ _ _ ?_ | refine hk63.out _ _ _ (blk_new' _ _ _ _ ?_) hne9.out | refine hk63.out _ _ _ ((blk_new' _ _ _ _ ?_).alloc _) hne9.out | refine hk63.out _ _ _ ((hk60.out _ _ _ (blk_new' _ _ _ _ ?_)).alloc _) hne9.out | refine hk63.out _ _ _ ((hk60.out _ _ _ (Blk.drew (blk_new' _ _ _ _ ?_))).alloc _) hne9.out); simp; exact HK10.out; intro v7 w7 hG; have b6 := hG.out.st.bs.lt; have b7 := Nat.lt_of_succ_lt b6; have c6 := hG.out.st.bs.cell 0; have f6 := hG.out.st.bs.frozen 0; have d0 := hG.out.bx.cell 0; have d1 := hG.out.bx.cell 1; have d2 := hG.out.bx.cell 2; simp at c6 d0 d1 d2)
          | (refine step6 (w := w) (t1 := .slice none 0 0) (t2 := .slice none 0 0) (t3 := .int .i64 0) (t4 := .bool false) (s0 := s) (gx := wr.heap.size) (l := l) (f := f) (s6 := s) (v7 := u7) (k := k) (k7 := k) rfl _ _ rfl (by rfl) _ (by rfl) ?_ ?_ HF.out ?_ ?_; (first | exact hG.out | exact hG.out.up (below_al (Below.refl _ _) _) | exact hG.out.up (below_al (below_al (Below.refl _ _) _) _)); (refine rd_cf1 (t := 42) ?_); (first | refine blk_new' _ _ _ _ ?_ | refine (blk_new' _ _ _ _ ?_).alloc _); simp; exact HK10.out; intro v6 w6 hG hk63; obtain ⟨A6, q6, rfl⟩ := own_form hG.out.o6; have b6 := hG.out.st.bs.lt; have b7 := Nat.lt_of_succ_lt b6; have c6 := hG.out.st.bs.cell 0; have d0 := hG.out.bx.cell 0; have d1 := hG.out.bx.cell 1; have d2 := hG.out.bx.cell 2; simp at c6 d0 d1 d2))
      all_goals
        have HM := Lib.hid (meas_lt HLT.out)
        have w1k : wrap64 ((k : Int) + 1) = (k : Int) + 1 := by have := HN.out; have := HLT.out; unfold wrap64; omega
        have hS1 := Lib.hid (hG.out.st.store (.slice A6 (k + 1) q6))
        have h61 := Lib.hid (own_set hG.out.o6 (p := ⟨w.heap.size + 1, 0, none⟩) hG.out.st.bs (by decide) (.slice A6 (k + 1) q6))
        have h71 := Lib.hid (own_set hG.out.o7 (p := ⟨w.heap.size + 1, 0, none⟩) hG.out.st.bs (by decide) (.slice A6 (k + 1) q6))
        clear c6 d0 d1 d2 b6 b7 hk hlt f6
        go_wp2
        go_roundw
        case rel => exact ⟨k + 1, .slice A6 (k + 1) q6, by first | rfl | (rw [w1k]; rfl), HLT.out, hS1, h61, h71⟩
        case measure => first | exact HM.out | (rw [w1k]; exact HM.out)
    · have : k = l.length := by omega
      subst this
      rw [List.take_length] at h6 h7
      obtain ⟨A6, q6, rfl, hq6, hr6, _⟩ := own_rd h6.out
      obtain ⟨A7, q7, rfl, hq7, hr7, _⟩ := own_rd h7.out
      have c6 : wr.cell? ⟨w.heap.size + 1, 0, none⟩ = some (.slice A6 l.length q6) := hT.out.bs.cell 0
      have HSTR := Lib.hid (str_any (w.heap.size + 2) (fun j => w.heap.size + 3 ≤ j ∧ j < wr.heap.size) A6 q6 l HN.out HO.out wr hr6 (fun k hk => hk.2) (hT.out.bf.cell 0) hT.out.bf.lt (HT.out _ hT.out.below))
      have HR7 := Lib.hid hr7
      have HQ6 := Lib.hid hq6
      clear hr6 hr7 hq6 hq7 hlt hk
      go_wp2_with fail
      refine HSTR.out.mono ?_
      rintro e w1 ⟨T, rfl, hE, hTs, hb1⟩
      have HORD := Lib.hid (ordered_any (fun j => w.heap.size + 3 ≤ j ∧ j < wr.heap.size) A7 q7 T hTs l HN.out w1 (HR7.out.keep (still_below hb1 (fun k hk => hk.2))) hE)
      have hT1 := Lib.hid (hT.out.up hb1)
      have h61 := Lib.hid (own_below h6.out hb1)
      clear hE hTs hb1 HSTR c6 hT h6 h7 HR7
      go_wp2_with fail
      refine HORD.out.mono ?_
      rintro e w2 ⟨rfl, rfl⟩
      have f3 := hT1.out.bt.frozen 3
      have c3 := hT1.out.bt.cell 3
      simp at c3
      have hT2 := Lib.hid (hT1.out.told (.bool true))
      have h62 := Lib.hid (own_set h61.out (p := ⟨w.heap.size, 3, none⟩) hT1.out.bt (by decide) (.bool true))
      have hs0 := Lib.hid (World.ownsRow_nil (w2.setCell ⟨w.heap.size, 3, none⟩ (.bool true)) (w.heap.size + 3) 30 3)
      clear HORD hT1 h61
      go_wp2
      go_loopw [11, 77] (fun _ i wr => ∃ (k : Nat) (t1 : Value), i = .int .i64 (k : Int) ∧ k ≤ l.length ∧ Hid (St w t1 (.slice none 0 0) (.int .i64 0) (.bool true) (.slice A6 l.length q6) wr) ∧ Hid (wr.ownsRow (w.heap.size + 3) 42 4 (.slice A6 l.length q6) l.length (cfs ⟨w.heap.size + 2, 0, none⟩ l)) ∧ Hid (wr.ownsRow (w.heap.size + 3) 30 3 t1 k (frs (l.reverse.take k)))) (fun _ i _ => ((l.length : Int) - intOf i).toNat)
      case atStart => exact ⟨0, _, rfl, by omega, hT2, h62, hs0⟩
      case round =>
        obtain ⟨k, t1, rfl, hk, hT3, h63, h13⟩ := hrel
        by_cases hlt : k < l.length
        · obtain ⟨f, hf⟩ : ∃ f, l[l.length - 1 - k]? = some f := ⟨_, List.getElem?_eq_getElem (by omega)⟩
          have hfo : Hid f.Ok := Lib.hid (HO.out f (List.mem_of_getElem? hf))
          have hG : Hid (G2 w t1 (.slice none 0 0) (.int .i64 0) (.bool true) (.slice A6 l.length q6) l (.slice A6 l.length q6) t1 k (l.reverse.take k) wr.drew) := Lib.hid ⟨hT3.out.up (Below.refl _ _).drew, own_below h63.out (Below.refl _ _).drew, own_below h13.out (Below.refl _ _).drew⟩
          have HAT : Hid (∀ W : World, G2 w t1 (.slice none 0 0) (.int .i64 0) (.bool true) (.slice A6 l.length q6) l (.slice A6 l.length q6) t1 k (l.reverse.take k) W → Calls Tryd.prog 12 #[.slice A6 l.length q6, .int .i64 (k : Int)] W fun e w' => e = .returned (f.cagg ⟨w.heap.size + 2, 0, none⟩) ∧ Hid (G2 w t1 (.slice none 0 0) (.int .i64 0) (.bool true) (.slice A6 l.length q6) l (.slice A6 l.length q6) t1 k (l.reverse.take k) w')) := Lib.hid fun W hW => by
            refine (at_any ⟨w.heap.size + 2, 0, none⟩ _ A6 q6 l HN.out k hlt W (own_rd' hW.o6) (fun k hk => hk.2)).mono ?_
            rintro e w' ⟨f', hf', rfl, hb⟩
            obtain rfl : f = f' := Option.some.inj (hf.symm.trans hf')
            exact ⟨rfl, Lib.hid (hW.up hb)⟩
          have HTO : Hid (∀ W : World, G2 w t1 (.slice none 0 0) (.int .i64 0) (.bool true) (.slice A6 l.length q6) l (.slice A6 l.length q6) t1 k (l.reverse.take k) W → Calls Tryd.prog 11 #[f.cagg ⟨w.heap.size + 2, 0, none⟩] W fun e w' => e = .returned f.agg ∧ Hid (G2 w t1 (.slice none 0 0) (.int .i64 0) (.bool true) (.slice A6 l.length q6) l (.slice A6 l.length q6) t1 k (l.reverse.take k) w')) := Lib.hid fun W hW => by
            refine (told_any f.nm _ f.ln f.cl ⟨hfo.out.2.1, hfo.out.2.2.1⟩ hfo.out.2.2.2 W).mono ?_
            rintro e w' ⟨rfl, hb⟩
            exact ⟨rfl, Lib.hid (hW.up hb)⟩
          have HRN := Lib.hid (rev_next hlt hf)
          have HLT := Lib.hid hlt
          have HK10 : Hid (k ≤ 1000) := Lib.hid (by have := HN.out; omega)
          have d6 : wr.cell? ⟨w.heap.size + 1, 0, none⟩ = some (.slice A6 l.length q6) := hT3.out.bs.cell 0
          have c0 : wr.cell? ⟨w.heap.size, 0, none⟩ = some t1 := hT3.out.bt.cell 0
          have b0 : w.heap.size < wr.heap.size := hT3.out.bt.lt
          clear hf hT3 h63 h13 hk hT2 h62 hs0 c3 f3
          go_upto_region 17 with fail
          rw [show Op.load 22 (.tmp 80) = ldAs 22 (.tmp 80) from rfl]
          go_region_held3 (fun W => W.cell? ⟨w.heap.size + 1, 0, none⟩ = some (.slice A6 l.length q6)) (first | exact d6 | exact cell_al d6 _ | exact cell_st (by omega) d6 _)
            (first
              | (go_at_call 12; (with_reducible refine (HAT.out _ ?_).mono ?_); exact hG.out; rintro e w' ⟨rfl, hG⟩; have d6 := hG.out.st.bs.cell 0; have c0 := hG.out.st.bt.cell 0; have b0 := hG.out.st.bt.lt; simp at d6 c0)
              | (go_at_call 11; (with_reducible refine (HTO.out _ ?_).mono ?_); exact hG.out; rintro e w' ⟨rfl, hG⟩; have d6 := hG.out.st.bs.cell 0; have c0 := hG.out.st.bt.cell 0; have b0 := hG.out.st.bt.lt; simp at d6 c0)
              | (refine step8 (w := w) (t1 := t1) (t2 := .slice none 0 0) (t3 := .int .i64 0) (t4 := .bool true) (s := .slice A6 l.length q6) (l := l) (v6 := .slice A6 l.length q6) (v := t1) (k := k) (xs := l.reverse.take k) (f := f) rfl _ _ rfl (by rfl) _ (by rfl) ?_ ?_ HK10.out ?_; (first | exact hG.out.up (below_al (Below.refl _ _) _) | exact hG.out); (refine rd_fr1 (t := 30) ?_); (refine blk_new' _ _ _ _ ?_); simp; intro v8 w8 hG hrow8 hg8; clear hrow8 hg8; obtain ⟨A1, q1, rfl⟩ := own_form hG.out.o1; have d6 := hG.out.st.bs.cell 0; have c0 := hG.out.st.bt.cell 0; have f0 := hG.out.st.bt.frozen 0; have b0 := hG.out.st.bt.lt; simp at d6 c0))
          all_goals
            have HM := Lib.hid (meas_lt HLT.out)
            have w1k : wrap64 ((k : Int) + 1) = (k : Int) + 1 := by have := HN.out; have := HLT.out; unfold wrap64; omega
            have hS1 := Lib.hid (hG.out.st.put0 (.slice A1 (k + 1) q1))
            have h61 := Lib.hid (own_set hG.out.o6 (p := ⟨w.heap.size, 0, none⟩) hG.out.st.bt (by decide) (.slice A1 (k + 1) q1))
            have h11 := Lib.hid (own_set hG.out.o1 (p := ⟨w.heap.size, 0, none⟩) hG.out.st.bt (by decide) (.slice A1 (k + 1) q1))
            rw [← HRN.out] at h11
            clear d6 c0 f0 b0 hlt
            go_wp2
            go_roundw
            case rel => exact ⟨k + 1, .slice A1 (k + 1) q1, by first | rfl | (rw [w1k]; rfl), HLT.out, hS1, h61, h11⟩
            case measure => first | exact HM.out | (rw [w1k]; exact HM.out)
        · have : k = l.length := by omega
          subst this
          rw [show l.reverse.take l.length = l.reverse by rw [← List.length_reverse, List.take_length]] at h13
          have hs1 := Lib.hid (World.ownsRow_nil wr (w.heap.size + 3) 30 3)
          clear hT2 h62 hs0 c3 f3 hk hlt
          go_wp2
          go_loopw [91] (fun i wr => ∃ (j : Nat) (t2 : Value), i = .int .i64 (j : Int) ∧ j ≤ n ∧ Hid (G3 w t1 t2 (.int .i64 0) (.bool true) (.slice A6 (l.length - j) q6) l (.slice A6 l.length q6) t2 j (l.reverse.take j) wr)) (fun i _ => ((n : Int) - intOf i).toNat)
          case atStart => exact ⟨0, .slice none 0 0, rfl, by omega, Lib.hid ⟨⟨hT3.out, h63.out, hs1.out⟩, h13.out, fun g _ e => by cases e⟩⟩
          case round =>
            obtain ⟨j, t2, rfl, hj, hG0⟩ := hrel
            by_cases hlt : j < n
            · have hlj : j < l.length := Nat.lt_of_lt_of_le hlt HNN.out
              obtain ⟨f, hf⟩ : ∃ f, l[l.length - 1 - j]? = some f := ⟨_, List.getElem?_eq_getElem (by omega)⟩
              have hfo : Hid f.Ok := Lib.hid (HO.out f (List.mem_of_getElem? hf))
              have hG : Hid (G3 w t1 t2 (.int .i64 0) (.bool true) (.slice A6 (l.length - j) q6) l (.slice A6 l.length q6) t2 j (l.reverse.take j) wr.drew) := Lib.hid (hG0.out.up (Below.refl _ _).drew)
              have HPO : Hid (∀ W : World, G3 w t1 t2 (.int .i64 0) (.bool true) (.slice A6 (l.length - j) q6) l (.slice A6 l.length q6) t2 j (l.reverse.take j) W → Calls Tryd.prog 13 #[.pointer (some ⟨w.heap.size + 1, 0, none⟩)] W fun e w' => e = .returned (f.cagg ⟨w.heap.size + 2, 0, none⟩) ∧ Hid (G3 w t1 t2 (.int .i64 0) (.bool true) (.slice A6 (l.length - (j + 1)) q6) l (.slice A6 l.length q6) t2 j (l.reverse.take j) w')) := Lib.hid fun W hW => by
                have hlen : (l.take (l.length - j)).length = l.length - j := by rw [List.length_take]; omega
                have hr := own_rd' hW.g2.o6
                rw [← List.take_append_drop (l.length - j) l, cfs_app] at hr
                have hp := pop_any ⟨w.heap.size + 2, 0, none⟩ _ A6 q6 (l.take (l.length - j)) (by have := HN.out; omega) (by omega) (by have := HQ6.out; omega) (w.heap.size + 1) W (Rd.left hr) (fun k hk => hk.2) (by rw [hlen]; exact hW.g2.st.bs)
                rw [hlen] at hp
                refine hp.mono ?_
                rintro e w' ⟨f', hf', rfl, hb⟩
                have hff : f = f' := by
                  rw [List.getElem?_take_of_lt (by omega), show l.length - j - 1 = l.length - 1 - j by omega] at hf'
                  exact Option.some.inj (hf.symm.trans hf')
                subst hff
                rw [show l.length - j - 1 = l.length - (j + 1) by omega] at hb
                refine ⟨rfl, Lib.hid ((hW.pop _).up ?_)⟩
                have hsz : (W.setCell ⟨w.heap.size + 1, 0, none⟩ (.slice A6 (l.length - (j + 1)) q6)).heap.size = W.heap.size := by simp [World.setCell]
                rw [hsz]
                exact hb
              have HTO : Hid (∀ W : World, G3 w t1 t2 (.int .i64 0) (.bool true) (.slice A6 (l.length - (j + 1)) q6) l (.slice A6 l.length q6) t2 j (l.reverse.take j) W → Calls Tryd.prog 11 #[f.cagg ⟨w.heap.size + 2, 0, none⟩] W fun e w' => e = .returned f.agg ∧ Hid (G3 w t1 t2 (.int .i64 0) (.bool true) (.slice A6 (l.length - (j + 1)) q6) l (.slice A6 l.length q6) t2 j (l.reverse.take j) w')) := Lib.hid fun W hW => by
                refine (told_any f.nm _ f.ln f.cl ⟨hfo.out.2.1, hfo.out.2.2.1⟩ hfo.out.2.2.2 W).mono ?_
                rintro e w' ⟨rfl, hb⟩
                exact ⟨rfl, Lib.hid (hW.up hb)⟩
              have HRN := Lib.hid (rev_next hlj hf)
              have HLT := Lib.hid hlt
              have HK10 : Hid (j ≤ 1000) := Lib.hid (by have := HN.out; omega)
              have d6 : wr.cell? ⟨w.heap.size, 0, none⟩ = some t1 := hG.out.g2.st.bt.cell 0
              have c0 : wr.cell? ⟨w.heap.size, 1, none⟩ = some t2 := hG.out.g2.st.bt.cell 1
              have b0 : w.heap.size < wr.heap.size := hG.out.g2.st.bt.lt
              clear hf hG0 hj hT3 h63 h13 hs1 hlj
              go_upto_region 21 with fail
              rw [show Op.load 22 (.tmp 93) = ldAs 22 (.tmp 93) from rfl]
              go_region_held3 (fun W => W.cell? ⟨w.heap.size, 0, none⟩ = some t1) (first | exact d6 | exact cell_al d6 _ | (refine (World.cell?_setCell_other _ _ _ _ ?_).trans d6; (intro e; injection e with _ e; cases e)))
                (first
                  | (go_at_call 13; (with_reducible refine (HPO.out _ ?_).mono ?_); exact hG.out; rintro e w' ⟨rfl, hG⟩; have d6 := hG.out.g2.st.bt.cell 0; have c0 := hG.out.g2.st.bt.cell 1; have b0 := hG.out.g2.st.bt.lt; simp at d6 c0)
                  | (go_at_call 11; (with_reducible refine (HTO.out _ ?_).mono ?_); exact hG.out; rintro e w' ⟨rfl, hG⟩; have d6 := hG.out.g2.st.bt.cell 0; have c0 := hG.out.g2.st.bt.cell 1; have b0 := hG.out.g2.st.bt.lt; simp at d6 c0)
                  | (refine step8 (w := w) (t1 := t1) (t2 := t2) (t3 := .int .i64 0) (t4 := .bool true) (s := .slice A6 (l.length - (j + 1)) q6) (l := l) (v6 := .slice A6 l.length q6) (v := t2) (k := j) (xs := l.reverse.take j) (f := f) rfl _ _ rfl (by rfl) _ (by rfl) ?_ ?_ HK10.out ?_; (first | exact (hG.out.up (below_al (Below.refl _ _) _)).g2 | exact hG.out.g2); (refine rd_fr1 (t := 30) ?_); (refine blk_new' _ _ _ _ ?_); simp; intro v8 w8 hG8 hrow8 hg8; have hG := Lib.hid (G3.app (hG.out.up (below_al (Below.refl _ _) _)) hG8.out hrow8.out hg8.out); clear hrow8 hg8 hG8; obtain ⟨A1, q1, rfl⟩ := own_form hG.out.g2.o1; have d6 := hG.out.g2.st.bt.cell 0; have c0 := hG.out.g2.st.bt.cell 1; have f0 := hG.out.g2.st.bt.frozen 1; have b0 := hG.out.g2.st.bt.lt; simp at d6 c0))
              all_goals
                have HM := Lib.hid (meas_lt HLT.out)
                have w1k : wrap64 ((j : Int) + 1) = (j : Int) + 1 := by have := HN.out; have := HNN.out; have := HLT.out; unfold wrap64; omega
                have hS1 := Lib.hid (hG.out.g2.st.put1 (.slice A1 (j + 1) q1))
                have h61 := Lib.hid (own_set hG.out.g2.o6 (p := ⟨w.heap.size, 1, none⟩) hG.out.g2.st.bt (by decide) (.slice A1 (j + 1) q1))
                have h11 := Lib.hid (own_set hG.out.g2.o1 (p := ⟨w.heap.size, 1, none⟩) hG.out.g2.st.bt (by decide) (.slice A1 (j + 1) q1))
                have h01 := Lib.hid (own_set hG.out.o0 (p := ⟨w.heap.size, 1, none⟩) hG.out.g2.st.bt (by decide) (.slice A1 (j + 1) q1))
                have hsep := Lib.hid hG.out.sep
                rw [← HRN.out] at h11
                clear d6 c0 f0 b0 hlt
                go_wp2
                go_roundw
                case rel => exact ⟨j + 1, .slice A1 (j + 1) q1, by first | rfl | (rw [w1k]; rfl), HLT.out, Lib.hid ⟨⟨hS1.out, h61.out, h11.out⟩, h01.out, hsep.out⟩⟩
                case measure => first | exact HM.out | (rw [w1k]; exact HM.out)
            · have : j = n := by omega
              subst this
              have g6 : wr.cell? ⟨w.heap.size + 1, 0, none⟩ = some (.slice A6 (l.length - j) q6) := hG0.out.g2.st.bs.cell 0
              obtain ⟨A1, q1, rfl⟩ := own_form hG0.out.o0
              obtain ⟨A2, q2, rfl⟩ := own_form hG0.out.g2.o1
              have c0 := hG0.out.g2.st.bt.cell 0
              have c1 := hG0.out.g2.st.bt.cell 1
              have c2 := hG0.out.g2.st.bt.cell 2
              have c3 := hG0.out.g2.st.bt.cell 3
              have f0 := hG0.out.g2.st.bt.frozen 0
              have f1 := hG0.out.g2.st.bt.frozen 1
              have f2 := hG0.out.g2.st.bt.frozen 2
              have f3 := hG0.out.g2.st.bt.frozen 3
              have b0 := hG0.out.g2.st.bt.lt
              simp at c0 c1 c2 c3
              clear hT3 h63 h13 hs1 hj hlt
              go_wp2
              have hS : ∀ k, (w.heap.size + 3 ≤ k ∧ k < wr.heap.size) → k ≠ w.heap.size := fun k hk => by omega
              refine bodyPost_ret (v := .tuple #[.agg #[.slice A1 l.length q1, .slice A2 j q2, .int .i64 ((l.length - j : Nat) : Int), .bool true], .bool true]) (by simp [results, Tryd.results6, go_sem, c0, c1, c2, c3]) rfl ⟨A1, q1, A2, q2, rfl, ?_, ?_, ?_⟩
              · exact ((own_rd' hG0.out.o0).keep (((((((Still.refl _ _).set hS _).set hS _).set hS _).set hS _).set hS _))).mono (fun k hk => ⟨by omega, by simpa [World.setCell] using hk.2⟩)
              · exact ((own_rd' hG0.out.g2.o1).keep (((((((Still.refl _ _).set hS _).set hS _).set hS _).set hS _).set hS _))).mono (fun k hk => ⟨by omega, by simpa [World.setCell] using hk.2⟩)
              · exact ((((hG0.out.g2.st.below.setCell (Nat.le_refl _) _).setCell (Nat.le_refl _) _).setCell (Nat.le_refl _) _).setCell (Nat.le_refl _) _).setCell (Nat.le_refl _) _
end Go.Proofs.YtgcdcchmdcdflaaDoor
