/- The part of a value at a place: a dict's; any value's. Tries: eight cells each; rows of them. The laws' iterTries. slices.Contains of falses; zzFits2. The reference's Same: two ints alike. The reference's SameList. The reference's Same. -/
import Derived.Test.YtloloifngbmibaaGreatDoorM36
set_option linter.unusedVariables false
set_option linter.unusedSimpArgs false
set_option maxRecDepth 4000
namespace Go.Proofs.YtloloifngbmibaaGreatDoor
open Go.RowKit

theorem wpList_pv1 {B : Nat} {w1 W1 : World} {xs : List Value} {j cc : Nat} {A : Option Addr} {TY : TypeId} {xy : Value} (h : PrR B w1 xs j (.slice A j cc) W1) (hB : B ≤ W1.heap.size) (hj : j ≤ 1000) (T : TypeId)
    {ops : Array Oper} {rest : List Oper} {o : Oper} {a : Act} {Q : Exit → Act → World → Prop} (hgd : o.guard = none) (s z : Operand)
    (ho : o.op = .call { callee := .builtin .append, args := #[s, z], argTypes := #[96, 96] })
    (hs : a.eval s = .slice A j cc) (hz : a.eval z = .slice (some ⟨W1.heap.size, 0, none⟩) 1 1)
    (hK : ∀ A' c' w', PrR B w1 (xs ++ [.iface TY xy]) (j + 1) (.slice A' (j + 1) c') w' → wpList Tryz.prog ops Q rest (a.put o.dst (.slice A' (j + 1) c')) w') : wpList Tryz.prog ops Q (o :: rest) a (W1.alloc (.cells #[.iface TY xy] T)) := by
  have hbl : Below B W1 (W1.alloc (.cells #[.iface TY xy] T)) := (Below.refl _ _).alloc hB _
  refine wpList_append_rd _ hgd s z 96 ho B 64 .nilIface 1 16 Tryz.underlying96 infoV rfl (by decide) (.slice A j cc) j xs hs (own_below h.row (below_al (Below.refl _ _) _)) (fun k => k = W1.heap.size) (some ⟨W1.heap.size, 0, none⟩) 1 1 [.iface TY xy] hz rfl (Rd.of_blk (ys := []) (by simpa using Blk.new W1 T #[.iface TY xy]) rfl) (fun u hu => by rw [List.mem_singleton.1 hu]; rfl) (by unfold maxLen; omega) (by omega) (by simp; omega) ?_
  intro v' w4 hrow hg _
  obtain ⟨A', cc', rfl, _⟩ := own_rd hrow
  exact hK A' cc' w4 ⟨h.low.trans (hbl.grown hg (Nat.le_trans hB hbl.size) (fun k hk => (own_lt h.row hk).1)), hrow⟩
theorem mapv_take {es : List En} {j : Nat} (h : j < es.length) : (es.map En.v).take (j + 1) = (es.map En.v).take j ++ [es[j].v] := by
  rw [List.take_add_one]
  simp [h]
theorem part_dict (q : Nat) (es : List En) (n : Nat) (hn : n ≤ 8) (hnl : es.length = n) (hone : ∀ e ∈ es, (∃ T x, e.k = .iface T x) ∧ ∃ T x, e.v = .iface T x) (at_ : Nat) (w : World) (hB : Blk w q 174 (htC q es true).toArray) :
    Calls Tryz.prog 47 #[.iface 102 (.pointer (some ⟨q, 0, none⟩)), .int .i64 at_] w (PartE (es.map En.v) w) := by
  have t0 : ∀ W : World, (Instr.typeAssert (.iface 102 (.pointer (some ⟨q, 0, none⟩))) 64 99 true).run Tryz.prog W = .ok (.tuple #[.pointer none, .bool false]) W := fun W => by kernel_rfl
  have t1 : ∀ W : World, (Instr.typeAssert (.iface 102 (.pointer (some ⟨q, 0, none⟩))) 64 101 true).run Tryz.prog W = .ok (.tuple #[.slice none 0 0, .bool false]) W := fun W => by kernel_rfl
  have t2 : ∀ W : World, (Instr.typeAssert (.iface 102 (.pointer (some ⟨q, 0, none⟩))) 64 102 true).run Tryz.prog W = .ok (.tuple #[.pointer (some ⟨q, 0, none⟩), .bool true]) W := fun W => by kernel_rfl
  have h0 : ¬ (at_ : Int) < 0 := by omega
  have HC := Lib.hid (dictItems_any q es true n hn hnl w hB hone)
  have HO := Lib.hid hone
  have HN := Lib.hid hnl
  clear hB hone hnl
  go_enter Tryz.func47, Tryz.ntmps47
  go_wp2_with fail
  refine HC.out.mono ?_
  rintro e w1 ⟨ga, gt, rfl, hi⟩
  have HI := Lib.hid hi
  clear hi HC
  go_wp2
  go_loopw [5, 28] (fun sv iv wr => ∃ (j : Nat) (A : Option Addr) (cc : Nat), sv = .slice A j cc ∧ iv = .int .i64 j ∧ j ≤ n ∧ Hid (PrR w1.heap.size w1 ((es.map En.v).take j) j (.slice A j cc) wr)) (fun _ iv _ => n - (intOf iv).toNat)
  case atStart => exact ⟨0, none, 0, rfl, rfl, Nat.zero_le _, Lib.hid ⟨Below.refl _ _, by simpa using World.ownsRow_nil w1 w1.heap.size 64 1⟩⟩
  case round =>
    obtain ⟨j, A, cc, rfl, rfl, hj, HP⟩ := hrel
    by_cases hlt : j < n
    · have HME := Lib.hid (ms_lt hlt)
      have HSI := Lib.hid (Nat.succ_le_of_lt hlt)
      have hi1 : (j : Int) < (n : Int) := Int.ofNat_lt.2 hlt
      have hjl : j < es.length := by rw [HN.out]; exact hlt
      obtain ⟨c1, _, c3, l1, l2⟩ := HI.out.cells HN.out hlt hjl
      obtain ⟨_, TV, xv, ev⟩ := HO.out es[j] (List.getElem_mem hjl)
      have HF := Lib.hid (mapv_take hjl)
      rw [ev] at HF
      rw [ev] at c3
      have d1 := (World.cell?_of_block (a := ⟨gt, j, none⟩) (HP.out.low.block gt l1)).trans c1
      have d3 := (World.cell?_of_block (a := ⟨ga, 2 * j + 1, none⟩) (HP.out.low.block ga l2)).trans c3
      obtain ⟨off, hoff⟩ : ∃ off, off = 2 * j := ⟨_, rfl⟩
      rw [← hoff] at d1 d3
      have HI1 : Hid (j ≤ 1000) := Lib.hid (by omega)
      have HSZ := Lib.hid HP.out.low.size
      clear c1 c3 l1 l2 ev hoff
      go_wp2_with (at_builtin; refine wpList_pv1 HP.out HSZ.out HI1.out 64 rfl _ _ rfl rfl rfl ?_; intro A' c' w5 hv5; have HV5 := Lib.hid hv5; clear hv5)
      rw [← HF.out] at HV5
      exact ⟨⟨j + 1, A', c', rfl, rfl, HSI.out, HV5⟩, HME.out⟩
    · have hin : j = n := by omega
      subst hin
      have HLO : Hid (Below w.heap.size w wr) := Lib.hid (HI.out.low.trans (HP.out.low.mono HI.out.low.size))
      obtain ⟨A1, c1, e1, _, hr1, _⟩ := own_rd HP.out.row
      injection e1 with e1
      subst e1
      rw [List.take_of_length_le (by rw [List.length_map, HN.out]; exact Nat.le_refl _)] at hr1
      clear HP
      by_cases hlt2 : at_ < j
      · have h1 : ¬ (j : Int) ≤ at_ := by omega
        have h2 : (at_ : Int) < j := by omega
        have hal : at_ < es.length := by rw [HN.out]; exact hlt2
        obtain ⟨_, TY, xy, hy⟩ := HO.out es[at_] (List.getElem_mem hal)
        have hy2 : (es.map En.v)[at_]? = some (.iface TY xy) := by rw [List.getElem?_map, List.getElem?_eq_getElem hal, ← hy]; rfl
        obtain ⟨b, o, rfl, _, hc⟩ := hr1 (by rw [List.length_map]; omega)
        have hce := hc at_ _ hy2
        have HY := Lib.hid hy2
        clear hy hy2 hr1 hc
        go_wp2
        go_ret
        exact ⟨HLO.out, .inr ⟨at_, TY, xy, HY.out, rfl⟩⟩
      · have h1 : (j : Int) ≤ at_ := by omega
        clear hr1
        go_wp2
        go_ret
        exact ⟨HLO.out, .inl rfl⟩

/-- A part of what is frozen, or nothing. -/
def PartF (w : World) (e : Ending) (w' : World) : Prop := Below w.heap.size w w' ∧ (e = .returned .nilIface ∨ ∃ (T : TypeId) (x : Value), e = .returned (.iface T x) ∧ ∃ d a b u, FV true d a b u w' (.iface T x) ∧ b ≤ w'.heap.size)
theorem PartE.noF {w w' : World} {e : Ending} (h : PartE [] w e w') : PartF w e w' := ⟨h.1, h.2.elim .inl (fun ⟨i, T, x, h1, _⟩ => by simp at h1)⟩
theorem PartE.fv {d a b st : Nat} {ts : List Tr} {ys zs : List Value} {w w' : World} {e : Ending} (h : PartE zs w e w') (hf : FVsOf (FV true d) a b ts w ys) (hb : b ≤ w.heap.size) (hz : ∀ (i : Nat) (z : Value), zs[i]? = some z → z ∈ ys) : PartF w e w' := by
  refine ⟨h.1, h.2.imp id (fun ⟨i, T, x, h1, h2⟩ => ⟨T, x, h2, ?_⟩)⟩
  obtain ⟨hl, Bd, b0, bm, b2, b3⟩ := hf
  obtain ⟨j, hj, hy⟩ := List.getElem_of_mem (hz i _ h1)
  have hjt : j < ts.length := by omega
  have hbi := Nat.le_trans (bd_le bm (show j + 1 ≤ ts.length by omega) (Nat.le_refl _)) (Nat.le_trans b2 hb)
  have hv := b3 j _ _ (List.getElem?_eq_getElem hj) (List.getElem?_eq_getElem hjt)
  rw [hy] at hv
  exact ⟨d, Bd j, Bd (j + 1), _, hv.keep (still_below h.1 (fun k hk => Nat.lt_of_lt_of_le hk.2 hbi)), Nat.le_trans hbi h.1.size⟩
theorem part_flat {a b : Nat} {t : Tr} {v : Value} {w : World} (h : FVF a b t w v) (hb : b ≤ w.heap.size) (at_ : Nat) : Calls Tryz.prog 47 #[v, .int .i64 at_] w (PartF w) := by
  cases h with
  | none h => exact (part_no _ _ at_ w (fun W => by kernel_rfl) (fun W => by kernel_rfl) (fun W => by kernel_rfl)).mono (fun _ _ h => h.noF)
  | bool h => exact (part_no _ _ at_ w (fun W => by kernel_rfl) (fun W => by kernel_rfl) (fun W => by kernel_rfl)).mono (fun _ _ h => h.noF)
  | int v h hs =>
    obtain ⟨s1, a1, rfl⟩ := (hs.sm.si hb).shape
    exact (part_no _ _ at_ w (fun W => by kernel_rfl) (fun W => by kernel_rfl) (fun W => by kernel_rfl)).mono (fun _ _ h => h.noF)
  | flt h => exact (part_no _ _ at_ w (fun W => by kernel_rfl) (fun W => by kernel_rfl) (fun W => by kernel_rfl)).mono (fun _ _ h => h.noF)
  | str h => exact (part_no _ _ at_ w (fun W => by kernel_rfl) (fun W => by kernel_rfl) (fun W => by kernel_rfl)).mono (fun _ _ h => h.noF)
  | byt h => exact (part_no _ _ at_ w (fun W => by kernel_rfl) (fun W => by kernel_rfl) (fun W => by kernel_rfl)).mono (fun _ _ h => h.noF)
theorem part_any {d a b : Nat} {t : Tr} {v : Value} {w : World} (at_ : Nat) (h : FV true d a b t w v) (hb : b ≤ w.heap.size) (g : GoodH t) : Calls Tryz.prog 47 #[v, .int .i64 at_] w (PartF w) := by
  have hkl := g.kl
  cases d with
  | zero => exact part_flat h hb at_
  | succ d =>
    rcases h with h | ⟨hk, A, c, ys, m, rfl, hc, hm, hr, hf⟩ | ⟨hk, A, c, ys, m, q, rfl, hB, hc, hm, hmg, hq, hr, hf⟩ | ⟨hk, es, q, rfl, hB, haq, hq, hz, hf⟩ | ⟨hk, es, q, rfl, hB, haq, hq, hz, hv, hf⟩
    · exact part_flat h hb at_
    · exact (part_tup A _ c _ ys hf.1 hf.ifc at_ w hr).mono (fun _ _ h => h.fv (st := 0) hf hb (fun i z hz => List.mem_of_getElem? hz))
    · exact (part_list q _ c A _ _ ys hf.1 (by omega) hf.ifc at_ w hB hr (fun k hk => by have := hk.2; omega)).mono (fun _ _ h => h.fv (st := 0) hf (by omega) (fun i z hz => List.mem_of_getElem? hz))
    · have hl := hf.1
      rw [flatE_len] at hl
      refine (part_dict q es es.length (by omega) rfl (flatE_iface hf.ifc) at_ w hB).mono (fun _ _ h => h.fv (st := 0) hf (by omega) (fun i z hz => ?_))
      obtain ⟨e, he, rfl⟩ := List.mem_map.1 (List.mem_of_getElem? hz)
      obtain ⟨j, hj, rfl⟩ := List.getElem_of_mem he
      exact List.mem_of_getElem? (flatE_k hj).2
    · exact (part_no _ _ at_ w (fun W => by kernel_rfl) (fun W => by kernel_rfl) (fun W => by kernel_rfl)).mono (fun _ _ h => h.noF)
end Go.Proofs.YtloloifngbmibaaGreatDoor
set_option linter.unusedVariables false
set_option linter.unusedSimpArgs false
set_option maxRecDepth 4000
namespace Go.Proofs.YtloloifngbmibaaGreatDoor
open Go.RowKit

/-- A Try. -/
structure Vt where
  w : Int
  k : Int
  v : Vc
@[reducible] def Vt.cells (x : Vt) : List Value := [.int .i64 x.w, .int .i64 x.k, .int .i64 x.v.k, .bool x.v.n, x.v.m, .int .u64 x.v.b, .string x.v.s, x.v.q]
def vts (l : List Vt) : List Value := l.flatMap Vt.cells
theorem vts_len (l : List Vt) : (vts l).length = l.length * 8 := flat_len _ 8 (fun _ => rfl) l
theorem vts_app (l m : List Vt) : vts (l ++ m) = vts l ++ vts m := by simp [vts]
theorem rd_vt {w : World} {S : Nat → Prop} {A : Option Addr} {l : List Vt} (h : Rd w S A (vts l)) {i : Nat} (hi : i < l.length) : ∃ x, l[i]? = some x ∧ ∃ b o, A = some ⟨b, o, none⟩ ∧ S b ∧ ∀ j v, x.cells[j]? = some v → w.cell? ⟨b, o + i * 8 + j, none⟩ = some v := by
  obtain ⟨b, o, e, hb, hc⟩ := h (by rw [vts_len]; omega)
  refine ⟨l[i], List.getElem?_eq_getElem hi, b, o, e, hb, fun j v hj => ?_⟩
  have hj8 : j < 8 := (List.getElem?_eq_some_iff.1 hj).1
  have q := flat_get Vt.cells 8 (fun _ => rfl) l i j hi hj8
  have := hc (i * 8 + j) v (q.trans hj)
  rw [← Nat.add_assoc] at this
  exact this

/-- n Tries there in a world. -/
def HTs (P : Tr → Prop) (d n : Nat) (A : Option Addr) (W : World) : Prop := ∃ (S : Nat → Prop) (xs : List Vt), xs.length = n ∧ Rd W S A (vts xs) ∧ (∀ x ∈ xs, ∃ u, IsV d W S u x.v ∧ P u) ∧ ∀ k, S k → k < W.heap.size
theorem HTs.up {P : Tr → Prop} {d n : Nat} {A : Option Addr} {W W' : World} (h : HTs P d n A W) (hb : Below W.heap.size W W') : HTs P d n A W' := by
  obtain ⟨S, xs, h1, h2, h3, h4⟩ := h
  have hs := still_below hb h4
  exact ⟨S, xs, h1, h2.keep hs, fun x hx => by obtain ⟨u, hu, hp⟩ := h3 x hx; exact ⟨u, hu.keep hs, hp⟩, fun k hk => Nat.lt_of_lt_of_le (h4 k hk) hb.size⟩
theorem HTs.at_ {P : Tr → Prop} {d n : Nat} {A : Option Addr} {W : World} (h : HTs P d n A W) {i : Nat} (hi : i < n) : ∃ (x : Vt) (u : Tr), HV d u x.v W ∧ P u ∧ ∃ b o, A = some ⟨b, o, none⟩ ∧ b < W.heap.size ∧ ∀ j v, x.cells[j]? = some v → W.cell? ⟨b, o + i * 8 + j, none⟩ = some v := by
  obtain ⟨S, xs, h1, h2, h3, h4⟩ := h
  obtain ⟨x, hx, b, o, e, hS, hc⟩ := rd_vt h2 (i := i) (by omega)
  obtain ⟨u, hu, hp⟩ := h3 x (List.mem_of_getElem? hx)
  exact ⟨x, u, ⟨S, hu, h4⟩, hp, b, o, e, h4 b hS, hc⟩

theorem info_try : (Tryz.prog.info? 44).map (fun i => (i.zero, i.size, i.bytes)) = some (some (.agg #[.int .i64 0, .int .i64 0, .int .i64 0, .bool false, .slice none 0 0, .int .u64 0, .string ⟨#[]⟩, .slice none 0 0]), 8, 104) := by kernel_rfl
/-- A row of Tries of the call's own. -/
def RowT (P : Tr → Prop) (B d : Nat) (v : Value) (n : Nat) (W : World) : Prop :=
  ∃ (xs : List Vt) (S : Nat → Prop), W.ownsRow B 44 8 v n (vts xs) ∧ xs.length = n ∧ (∀ x ∈ xs, ∃ u, IsV d W S u x.v ∧ P u) ∧ (∀ k, S k → B ≤ k ∧ k < W.heap.size) ∧ ∀ g, v.ownBlock = some g → ¬ S g
section
variable {P : Tr → Prop} {B d n : Nat} {v : Value} {W W' : World}
theorem RowT.nil (P : Tr → Prop) (B d : Nat) (W : World) : RowT P B d (.slice none 0 0) 0 W :=
  ⟨[], fun _ => False, by simpa [vts] using World.ownsRow_nil W B 44 8, rfl, fun x h => by simp at h, fun k h => h.elim, fun g h h' => h'⟩
theorem RowT.up (h : RowT P B d v n W) (hb : Below W.heap.size W W') : RowT P B d v n W' := by
  obtain ⟨xs, S, h1, h2, h3, h4, h5⟩ := h
  exact ⟨xs, S, own_below h1 hb, h2, fun x hx => by obtain ⟨u, hu, hp⟩ := h3 x hx; exact ⟨u, hu.keep (still_below hb (fun k hk => (h4 k hk).2)), hp⟩, fun k hk => ⟨(h4 k hk).1, Nat.lt_of_lt_of_le (h4 k hk).2 hb.size⟩, h5⟩
theorem RowT.form (h : RowT P B d v n W) : ∃ A c, v = .slice A n c ∧ n ≤ c ∧ HTs P d n A W := by
  obtain ⟨xs, S, h1, h2, h3, h4, h5⟩ := h
  obtain ⟨A, c, e, hc, hr, _⟩ := own_rd h1
  exact ⟨A, c, e, hc, fun k => B ≤ k ∧ k < W.heap.size, xs, h2, hr, fun x hx => by obtain ⟨u, hu, hp⟩ := h3 x hx; exact ⟨u, hu.mono h4, hp⟩, fun k hk => hk.2⟩
theorem RowT.ownLt (h : RowT P B d v n W) : ∀ g, v.ownBlock = some g → B ≤ g ∧ g < W.heap.size := by
  obtain ⟨xs, S, h1, _⟩ := h
  exact fun g hg => own_lt h1 hg
end
theorem Vt.one {w : World} {S : Nat → Prop} {t : Tr} {x : Vt} {d : Nat} (h : IsV d w S t x.v) : ∀ v ∈ x.cells, v.oneCell' = true := by
  intro v hv
  simp only [Vt.cells, List.mem_cons, List.not_mem_nil, or_false] at hv
  rcases hv with rfl | rfl | hv
  · rfl
  · rfl
  · exact Vc.one h v (by simp only [Vc.cells, List.mem_cons, List.not_mem_nil, or_false]; exact hv)
/-- append of one Try, at a step of a region that draws: W1 is the world ahead of the slice's making. -/
theorem step_pushT {P : Tr → Prop} {B d n : Nat} {v : Value} {y : Vt} {u : Tr} (W1 : World) (h : RowT P B d v n W1) (hyB : ∃ S, IsV d W1 S u y.v ∧ (∀ k, S k → B ≤ k ∧ k < W1.heap.size) ∧ ∀ g, v.ownBlock = some g → ¬ S g) (hp : P u) (hn : n ≤ 1000) (hB : B ≤ W1.heap.size) (T : TypeId)
    {ops : Array Oper} {o : Oper} {a : Act} {KK : Act → World → Prop} {Q : Exit → Act → World → Prop} {E : Prop} (hgd : o.guard = none) (s z : Operand)
    (ho : o.op = .call { callee := .builtin .append, args := #[s, z], argTypes := #[42, 42] })
    (hs : a.eval s = v) (hz : a.eval z = .slice (some ⟨W1.heap.size, 0, none⟩) 1 1)
    (hK : ∀ v' w', RowT P B d v' (n + 1) w' → Below B W1 w' → (∀ k, k < W1.heap.size → (∀ g, v.ownBlock = some g → g ≠ k) → w'.heap[k]? = W1.heap[k]?) → (∃ A c, v' = .slice A (n + 1) c) → KK (a.put o.dst v') w') : if Region.wanted o (yielded ops a.tmps) = true then o.wp Tryz.prog a (W1.alloc (.cells y.cells.toArray T)) KK Q else E := by
  obtain ⟨S', hS1, hS2, hS3⟩ := hyB
  obtain ⟨xs, S, h1, h2, h3, h4, h5⟩ := h
  have hal := below_al (Below.refl W1.heap.size W1) (.cells y.cells.toArray T)
  refine step_append_rd (P := Tryz.prog) _ hgd s z 42 ho B 44 _ 8 104 Tryz.underlying42 info_try rfl (by decide) v n (vts xs) hs (own_below h1 hal) (fun k => k = W1.heap.size) (some ⟨W1.heap.size, 0, none⟩) 1 1 y.cells hz rfl (Rd.of_blk (ys := []) (by simpa using Blk.new W1 T y.cells.toArray) rfl) (Vt.one hS1) (by unfold maxLen; omega) (by omega) (Nat.le_trans hB hal.size) ?_
  intro v' w' hr hg hat
  have hkeep : ∀ k, k < W1.heap.size → (∀ g, v.ownBlock = some g → g ≠ k) → w'.heap[k]? = W1.heap[k]? := fun k hk hne => (hg.block k (Nat.lt_of_lt_of_le hk hal.size) (fun e => hne k e.symm rfl)).trans (hal.block k hk)
  have hsz : W1.heap.size ≤ w'.heap.size := Nat.le_trans hal.size hg.size
  obtain ⟨A, c, e, _⟩ := own_rd hr
  refine hK v' w' ⟨xs ++ [y], fun k => S k ∨ S' k, ?_, by simp [h2], ?_, ?_, ?_⟩ ?_ hkeep ⟨A, c, e⟩
  · rw [vts_app]
    simpa [vts] using hr
  · intro x hx
    rcases List.mem_append.1 hx with hx | hx
    · obtain ⟨u', hu, hp'⟩ := h3 x hx
      exact ⟨u', (hu.keep (fun k hk => hkeep k (h4 k hk).2 (fun g hg e => h5 g hg (by rw [e]; exact hk)))).mono (fun k hk => Or.inl hk), hp'⟩
    · rw [List.mem_singleton.1 hx]
      exact ⟨u, (hS1.keep (fun k hk => hkeep k (hS2 k hk).2 (fun g hg e => hS3 g hg (by rw [e]; exact hk)))).mono (fun k hk => Or.inr hk), hp⟩
  · intro k hk
    rcases hk with hk | hk
    · exact ⟨(h4 k hk).1, Nat.lt_of_lt_of_le (h4 k hk).2 hsz⟩
    · exact ⟨(hS2 k hk).1, Nat.lt_of_lt_of_le (hS2 k hk).2 hsz⟩
  · intro g hg' hk
    rcases hat with e' | e'
    · rw [e'] at hg'
      rcases hk with hk | hk
      · exact h5 g hg' hk
      · exact hS3 g hg' hk
    · rw [e'] at hg'
      injection hg' with hg'
      have hge : W1.heap.size ≤ g := by rw [← hg']; exact hal.size
      rcases hk with hk | hk
      · have := (h4 g hk).2; omega
      · have := (hS2 g hk).2; omega
  · exact (hal.mono hB).grown hg (Nat.le_trans hB hal.size) (fun k hk => (own_lt h1 hk).1)
end Go.Proofs.YtloloifngbmibaaGreatDoor
set_option linter.unusedVariables false
set_option linter.unusedSimpArgs false
set_option maxRecDepth 4000
namespace Go.Proofs.YtloloifngbmibaaGreatDoor
open Go.RowKit

/-- A Try's cells, but for the first. -/
abbrev TryC (q : Nat) (k : Int) (x : Vc) (W : World) : Prop := W.cell? ⟨q, 1, none⟩ = some (.int .i64 k) ∧ W.cell? ⟨q, 2, none⟩ = some (.int .i64 x.k) ∧ W.cell? ⟨q, 3, none⟩ = some (.bool x.n) ∧ W.cell? ⟨q, 4, none⟩ = some x.m ∧ W.cell? ⟨q, 5, none⟩ = some (.int .u64 x.b) ∧ W.cell? ⟨q, 6, none⟩ = some (.string x.s) ∧ W.cell? ⟨q, 7, none⟩ = some x.q
theorem TryC.keep {q : Nat} {k : Int} {x : Vc} {W W' : World} (h : TryC q k x W) (hk : W'.heap[q]? = W.heap[q]?) : TryC q k x W' :=
  ⟨(World.cell?_of_block (a := ⟨q, _, none⟩) hk).trans h.1, (World.cell?_of_block (a := ⟨q, _, none⟩) hk).trans h.2.1, (World.cell?_of_block (a := ⟨q, _, none⟩) hk).trans h.2.2.1, (World.cell?_of_block (a := ⟨q, _, none⟩) hk).trans h.2.2.2.1, (World.cell?_of_block (a := ⟨q, _, none⟩) hk).trans h.2.2.2.2.1, (World.cell?_of_block (a := ⟨q, _, none⟩) hk).trans h.2.2.2.2.2.1, (World.cell?_of_block (a := ⟨q, _, none⟩) hk).trans h.2.2.2.2.2.2⟩
theorem TryC.up {q : Nat} {k : Int} {x : Vc} {W W' : World} (h : TryC q k x W) (hb : Below W.heap.size W W') : TryC q k x W' := h.keep (hb.block q (World.block_lt_of_cell? W _ h.1))
theorem TryC.al {q : Nat} {k : Int} {x : Vc} {W : World} (h : TryC q k x W) (ob : Obj) : TryC q k x (W.alloc ob) := h.up (below_al (Below.refl _ _) ob)

theorem TryC.of_blk {W : World} {q : Nat} {T : TypeId} {xw xk : Int} {x : Vc} (h : Blk W q T #[.int .i64 xw, .int .i64 xk, .int .i64 x.k, .bool x.n, x.m, .int .u64 x.b, .string x.s, x.q]) : TryC q xk x W :=
  ⟨(h.cell 1).trans rfl, (h.cell 2).trans rfl, (h.cell 3).trans rfl, (h.cell 4).trans rfl, (h.cell 5).trans rfl, (h.cell 6).trans rfl, (h.cell 7).trans rfl⟩
/-- iterTries under way. -/
structure ItT (w : World) (i : Nat) (v : Value) (W : World) : Prop where
  low : Below w.heap.size w W
  row : RowT (Good 1) w.heap.size 2 v i W
/-- What has been made since a world can be put behind a row that was there. -/
theorem newer {w W W1 W2 : World} {v : Value} {i : Nat} {y : Vc} {t : Tr} (h : ItT w i v W) (h1 : W.heap.size ≤ W1.heap.size) (hy : HVB W1.heap.size 2 t y W2) : ∃ S, IsV 2 W2 S t y ∧ (∀ k, S k → w.heap.size ≤ k ∧ k < W2.heap.size) ∧ ∀ g, v.ownBlock = some g → ¬ S g := by
  obtain ⟨S, hS1, hS2⟩ := hy
  have hl := h.low.size
  have hk : ∀ k, S k → W1.heap.size ≤ k := fun k hk => (hS2 k hk).1.elim (fun h => absurd h.2 (Nat.not_lt_zero _)) id
  exact ⟨S, hS1, fun k hk' => ⟨by have := hk k hk'; omega, (hS2 k hk').2⟩, fun g hg hk' => by have := hk g hk'; have := (h.row.ownLt g hg).2; omega⟩
theorem ItT.push {w W W2 W3 : World} {v v' : Value} {i : Nat} (h : ItT w i v W) (hb : Below W.heap.size W W2) (hr : RowT (Good 1) w.heap.size 2 v' (i + 1) W3) (hb3 : Below w.heap.size W2 W3) : ItT w (i + 1) v' W3 := ⟨(h.low.trans (hb.mono h.low.size)).trans hb3, hr⟩
set_option maxHeartbeats 1000000 in
theorem iterTries_any (n c : Nat) {A : Option Addr} {w : World} (hn : n ≤ 2147483647) (hc : n ≤ c) (h : HTs (InT 1) 1 n A w) :
    Calls Tryz.prog 17 #[.slice A n c] w fun e w' => ∃ A' c', e = .returned (.slice A' (min n 8) c') ∧ HTs (Good 1) 2 (min n 8) A' w' ∧ min n 8 ≤ c' ∧ Below w.heap.size w w' := by
  have HT := Lib.hid h
  obtain ⟨m, hm⟩ : ∃ m, m = min n 8 := ⟨_, rfl⟩
  have s1 : min (n : Int) 8 = (m : Int) := by omega
  have s2 : (m : Int) ≤ (c : Int) := by omega
  have s3 : m ≤ c := by omega
  have hm8 : m ≤ 8 := by omega
  have HMN : Hid (m ≤ n) := Lib.hid (by omega)
  rw [← hm]
  clear h hm
  go_enter Tryz.func17, Tryz.ntmps17
  go_wp2
  go_loopw [2, 12] (fun sv iv wr => ∃ (i : Nat) (A1 : Option Addr) (c1 : Nat), sv = .slice A1 i c1 ∧ iv = .int .i64 i ∧ i ≤ m ∧ Hid (i ≤ c1 ∧ ItT w i (.slice A1 i c1) wr)) (fun _ iv _ => m - (intOf iv).toNat)
  case atStart => exact ⟨0, none, 0, rfl, rfl, Nat.zero_le _, Lib.hid ⟨Nat.le_refl _, Below.refl _ _, RowT.nil _ _ _ _⟩⟩
  case round =>
    obtain ⟨i, A1, c1, rfl, rfl, hi, HR⟩ := hrel
    by_cases hlt : i < m
    · have HME := Lib.hid (ms_lt hlt)
      have HSI := Lib.hid (Nat.succ_le_of_lt hlt)
      have hi1 : (i : Int) < (m : Int) := Int.ofNat_lt.2 hlt
      obtain ⟨⟨xw, xk, xv⟩, u, hx, hp, b, o, rfl, hbl, hcs⟩ := (HT.out.up HR.out.2.low).at_ (i := i) (by have := HMN.out; omega)
      obtain ⟨kk, kn, Ak, lk, ck, kb, ks, Aq, lq, cq, hxe⟩ := hx.shape
      simp only at hxe hx
      subst hxe
      have y0 := hcs 0 _ rfl
      rw [Nat.add_zero] at y0
      have y1 := hcs 1 _ rfl
      have y2 := hcs 2 _ rfl
      have y3 := hcs 3 _ rfl
      have y4 := hcs 4 _ rfl
      have y5 := hcs 5 _ rfl
      have y6 := hcs 6 _ rfl
      have y7 := hcs 7 _ rfl
      have HI8 : Hid (i ≤ 1000) := Lib.hid (by omega)
      have HX := Lib.hid hx
      have HP := Lib.hid hp
      clear hcs hx hp
      go_upto_region 4 with fail
      generalize hw1 : wr.alloc (.cells #[.int .i64 xw, .int .i64 xk, .int .i64 kk, .bool kn, .slice Ak lk ck, .int .u64 kb, .string ks, .slice Aq lq cq] 44) = w1
      have hbk : Blk w1 wr.heap.size 44 #[.int .i64 xw, .int .i64 xk, .int .i64 kk, .bool kn, .slice Ak lk ck, .int .u64 kb, .string ks, .slice Aq lq cq] := by rw [← hw1]; exact Blk.new wr _ _
      have HBW : Hid (Below wr.heap.size wr w1) := Lib.hid (by rw [← hw1]; exact below_al (Below.refl _ _) _)
      have HLQ : Hid (wr.heap.size < w1.heap.size) := Lib.hid hbk.lt
      have HCL : Hid (Calls Tryz.prog 16 #[.agg #[.int .i64 kk, .bool kn, .slice Ak lk ck, .int .u64 kb, .string ks, .slice Aq lq cq], .int .i64 1] w1.drew (CleanOut 1 w1.drew)) := Lib.hid (by
        have h := clean_any 1 (x := ⟨kk, kn, .slice Ak lk ck, kb, ks, .slice Aq lq cq⟩) (t := u) (w := w1.drew) (by decide) (HX.out.up HBW.out.drew) HP.out
        rw [show ((1 : Nat) : Int) = 1 from rfl] at h
        exact h)
      have HTC : Hid (TryC wr.heap.size xk ⟨kk, kn, .slice Ak lk ck, kb, ks, .slice Aq lq cq⟩ w1.drew) := Lib.hid (TryC.of_blk (xw := xw) (x := ⟨kk, kn, .slice Ak lk ck, kb, ks, .slice Aq lq cq⟩) hbk.drew)
      have z0 := hbk.cell 0
      simp at z0
      clear y0 y1 y2 y3 y4 y5 y6 y7 hw1 hbk hbl HX HP
      by_cases hw0 : xw.tmod 12 ≤ 0
      all_goals
        go_upto_region 7 with fail
        clear z0 hw0
        go_region_held3 (fun W => TryC wr.heap.size xk ⟨kk, kn, .slice Ak lk ck, kb, ks, .slice Aq lq cq⟩ W)
          (first | (with_reducible assumption) | (with_reducible exact HTC.out) | (with_reducible exact (‹TryC _ _ _ _›).al _) | (with_reducible exact (‹TryC _ _ _ _›).up ‹Below _ _ _›) | (with_reducible exact HTC.out.up ‹Below _ _ _›))
          (first
            | (go_at_call 16; (with_reducible refine HCL.out.mono ?_); rintro e w2 ⟨t', y, rfl, hgd, hy, hb2⟩; obtain ⟨yk, yn, yA, yl, yc, yb, ys, qA, ql, qc, rfl⟩ := hy.shape; have HY := Lib.hid hy; have HGD := Lib.hid hgd; have HB2 := Lib.hid (below_up HBW.out.drew hb2); have HRW := Lib.hid (HR.out.2.row.up HB2.out); have htc2 := HTC.out.up hb2; have HTC2 := Lib.hid htc2; have HSZ := Lib.hid (Nat.le_trans HR.out.2.low.size HB2.out.size); have HQ2 := Lib.hid (Nat.lt_of_lt_of_le HLQ.out hb2.size); clear hy hgd)
            | (refine step_pushT (y := ⟨_, _, ⟨yk, yn, .slice yA yl yc, yb, ys, .slice qA ql qc⟩⟩) (u := t') w2 HRW.out (newer (W1 := w1.drew) HR.out.2 (Nat.le_of_lt HLQ.out) HY.out) HGD.out HI8.out HSZ.out 44 rfl _ _ rfl (by rfl) (by rfl) ?_; rintro v' w3 hr hb3 hk3 ⟨A', c', rfl⟩; have HR3 := Lib.hid hr; have HB3 := Lib.hid hb3; have htc3 := HTC2.out.keep (hk3 _ HQ2.out (fun g hg e => absurd ((HR.out.2.row.ownLt g hg).2) (by rw [e]; exact Nat.lt_irrefl _))); clear hr hb3 hk3))
        have hcc : i + 1 ≤ c' := by
          obtain ⟨A3, c3, e3, hc3, _⟩ := HR3.out.form
          injection e3 with _ _ e3
          omega
        have HR4 : Hid (i + 1 ≤ c' ∧ ItT w (i + 1) (.slice A' (i + 1) c') w3) := Lib.hid ⟨hcc, HR.out.2.push HB2.out HR3.out HB3.out⟩
        clear hcc htc3 htc2 hb2 HR3 HB3 HY HGD HRW HTC2 HTC HCL
        go_wp2
        exact ⟨⟨i + 1, A', c', rfl, rfl, HSI.out, HR4⟩, HME.out⟩
    · have hin : i = m := by omega
      subst hin
      have HF : Hid (HTs (Good 1) 2 i A1 wr) := Lib.hid (by
        obtain ⟨A3, c3, e3, _, h3⟩ := HR.out.2.row.form
        injection e3 with e3
        rw [e3]
        exact h3)
      go_wp2
      go_ret
      exact ⟨A1, c1, rfl, HF.out, HR.out.1, HR.out.2.low⟩
end Go.Proofs.YtloloifngbmibaaGreatDoor
set_option linter.unusedVariables false
set_option linter.unusedSimpArgs false
set_option maxRecDepth 4000
namespace Go.Proofs.YtloloifngbmibaaGreatDoor
open Go.RowKit

theorem idx_no (S : Nat → Prop) (A : Option Addr) (n c : Nat) (hn : n ≤ 1000) (w : World) (h : Rd w S A (List.replicate n (.bool false))) : Calls Tryz.prog 49 #[.slice A n c, .bool true] w fun e w' => e = .returned (.int .i64 (-1)) ∧ w' = w := by
  have HR := Lib.hid h
  clear h
  go_enter Tryz.func49, Tryz.ntmps49
  go_wp2
  go_loopw [8] (fun iv wr => ∃ (i : Nat), iv = .int .i64 i ∧ i ≤ n ∧ wr = w) (fun iv _ => n - (intOf iv).toNat)
  case atStart => exact ⟨0, rfl, Nat.zero_le _, rfl⟩
  case round =>
    obtain ⟨i, rfl, hi, rfl⟩ := hrel
    by_cases hlt : i < n
    · have HME := Lib.hid (ms_lt hlt)
      have HSI := Lib.hid (Nat.succ_le_of_lt hlt)
      have hi1 : (i : Int) < (n : Int) := Int.ofNat_lt.2 hlt
      obtain ⟨b, o, rfl, _, hce⟩ := HR.out.at_ (k := i) (by rw [List.length_replicate]; exact hlt)
      rw [List.getElem_replicate] at hce
      go_wp2
      exact ⟨⟨i + 1, rfl, HSI.out, trivial⟩, HME.out⟩
    · have hin : i = n := by omega
      subst hin
      go_wp2
      go_ret
      exact ⟨rfl, rfl⟩
theorem contains_no (S : Nat → Prop) (A : Option Addr) (n c : Nat) (hn : n ≤ 1000) (w : World) (h : Rd w S A (List.replicate n (.bool false))) : Calls Tryz.prog 19 #[.slice A n c, .bool true] w fun e w' => e = .returned (.bool false) ∧ w' = w := by
  have HC := Lib.hid (idx_no S A n c hn w h)
  clear h
  go_enter Tryz.func19, Tryz.ntmps19
  go_wp2_with fail
  refine HC.out.mono ?_
  rintro e w1 ⟨rfl, rfl⟩
  go_wp2
  go_ret
  exact ⟨rfl, rfl⟩
theorem fits2_any (v : Value) (cs : Array Value) (w : World) (hv : v = .agg cs) (hc : cs.size = 8) : Calls Tryz.prog 15 #[v] w fun e w' => e = .returned (.bool true) ∧ Below w.heap.size w w' := by
  subst hv
  go_enter Tryz.func15, Tryz.ntmps15
  go_wp2
  go_ret
  exact ⟨rfl, below_al (Below.refl _ _) _⟩
end Go.Proofs.YtloloifngbmibaaGreatDoor
set_option linter.unusedVariables false
set_option linter.unusedSimpArgs false
set_option maxRecDepth 4000
namespace Go.Proofs.YtloloifngbmibaaGreatDoor
open Go.RowKit

theorem same_num2 (S S' : Nat → Prop) (neg : Bool) (v v' : Value) (l : List Int) (bt0 bt : Int) (qa0 qa : Option Addr) (qc0 qc : Nat) (hn : l.length ≤ 140737488355328) (w : World) (h : SlV w S .u8 v l) (h' : SlV w S' .u8 v' l) (hS : ∀ k, S k → k < w.heap.size) (hS' : ∀ k, S' k → k < w.heap.size) :
    Calls Tryz.prog 14 #[.agg #[.int .i64 2, .bool neg, v, .int .u64 bt0, .string { data := #[] }, .slice qa0 0 qc0], .agg #[.int .i64 2, .bool neg, v', .int .u64 bt, .string { data := #[] }, .slice qa 0 qc]] w fun e w' => e = .returned (.bool true) ∧ Below w.heap.size w w' := by
  have HX : Hid (∀ W : World, Below w.heap.size w W → Calls Tryz.prog 11 #[.agg #[.int .i64 2, .bool neg, v, .int .u64 bt0, .string { data := #[] }, .slice qa0 0 qc0]] W fun e w' => ∃ v', e = .returned v' ∧ HSp v' (sgn2 neg (strip l)) (strip l) w' ∧ Below W.heap.size W w') :=
    fun W hW => (num_any S 2 neg v l bt0 _ _ rfl hn W (h.keep (still_below hW hS)) (fun k hk => Nat.lt_of_lt_of_le (hS k hk) hW.size)).mono fun e w' ⟨v', he, hs, hb⟩ => ⟨v', he, ⟨_, hs, fun k hk => hk.2⟩, hb⟩
  have HY : Hid (∀ W : World, Below w.heap.size w W → Calls Tryz.prog 11 #[.agg #[.int .i64 2, .bool neg, v', .int .u64 bt, .string { data := #[] }, .slice qa 0 qc]] W fun e w' => ∃ v', e = .returned v' ∧ HSp v' (sgn2 neg (strip l)) (strip l) w' ∧ Below W.heap.size W w') :=
    fun W hW => (num_any S' 2 neg v' l bt _ _ rfl hn W (h'.keep (still_below hW hS')) (fun k hk => Nat.lt_of_lt_of_le (hS' k hk) hW.size)).mono fun e w' ⟨v', he, hs, hb⟩ => ⟨v', he, ⟨_, hs, fun k hk => hk.2⟩, hb⟩
  obtain ⟨A, c, rfl, _, _⟩ := h
  obtain ⟨A', c', rfl, _, _⟩ := h'
  have hc0 : cmpI (sgn2 neg (strip l)) (strip l) (sgn2 neg (strip l)) (strip l) = 0 := by
    simp [cmpI, ordL_self]
  have e0 := beq_yes hc0
  have hsl : (strip l).length ≤ 9223372036854775807 := by
    have : (strip l).length ≤ l.length := by simp [strip]
    omega
  have HSL := Lib.hid hsl
  have e1 : (neg == neg) = true := by cases neg <;> rfl
  have h0 : Hid (Kin2 w _ _ _ _ _ _ _ _ _ _ _ _ _) := Kin2.at_ (w := w) (t := 26) (x0 := .int .i64 2) (x1 := .bool neg) (x2 := .slice A l.length c) (x3 := .int .u64 bt0) (x4 := .string { data := #[] }) (x5 := .slice qa0 0 qc0) (y0 := .int .i64 2) (y1 := .bool neg) (y2 := .slice A' l.length c') (y3 := .int .u64 bt) (y4 := .string { data := #[] }) (y5 := .slice qa 0 qc)
  have hstep := Lib.hid (fun W W' hb h => Kin2.up (w := w) (W := W) (W' := W') (x0 := .int .i64 2) (x1 := .bool neg) (x2 := .slice A l.length c) (x3 := .int .u64 bt0) (x4 := .string { data := #[] }) (x5 := .slice qa0 0 qc0) (y0 := .int .i64 2) (y1 := .bool neg) (y2 := .slice A' l.length c') (y3 := .int .u64 bt) (y4 := .string { data := #[] }) (y5 := .slice qa 0 qc) hb h)
  clear hc0 hsl hS hS' hn
  go_enter Tryz.func14, Tryz.ntmps14
  go_wp2
  go_region_held3 (fun W => Below w.heap.size w W ∧ W.cell? ⟨w.heap.size, 0, none⟩ = some (.int .i64 2) ∧ W.cell? ⟨w.heap.size, 1, none⟩ = some (.bool neg) ∧ W.cell? ⟨w.heap.size, 2, none⟩ = some (.slice A l.length c) ∧ W.cell? ⟨w.heap.size, 3, none⟩ = some (.int .u64 bt0) ∧ W.cell? ⟨w.heap.size, 4, none⟩ = some (.string { data := #[] }) ∧ W.cell? ⟨w.heap.size, 5, none⟩ = some (.slice qa0 0 qc0) ∧
      W.cell? ⟨w.heap.size + 1, 0, none⟩ = some (.int .i64 2) ∧ W.cell? ⟨w.heap.size + 1, 1, none⟩ = some (.bool neg) ∧ W.cell? ⟨w.heap.size + 1, 2, none⟩ = some (.slice A' l.length c') ∧ W.cell? ⟨w.heap.size + 1, 3, none⟩ = some (.int .u64 bt) ∧ W.cell? ⟨w.heap.size + 1, 4, none⟩ = some (.string { data := #[] }) ∧ W.cell? ⟨w.heap.size + 1, 5, none⟩ = some (.slice qa 0 qc))
    (first | exact h0.out | exact hstep.out _ _ ‹Below _ _ _› h0.out | exact hstep.out _ _ ‹Below _ _ _› (by assumption))
    (first
      | (go_at_call 11; (with_reducible refine (HX.out _ ?_).mono ?_); (first | exact h0.out.1 | exact (‹Below w.heap.size w _ ∧ _›).1); rintro e w' ⟨v1, rfl, hv, hb⟩)
      | (go_at_call 11; (with_reducible refine (HY.out _ ?_).mono ?_); (first | exact h0.out.1 | exact (‹Below w.heap.size w _ ∧ _›).1); rintro e w' ⟨v1, rfl, hv, hb⟩)
      | (go_at_call 12; refine (cmp_held (n1 := sgn2 neg (strip l)) (n2 := sgn2 neg (strip l)) (a := strip l) (b := strip l) HSL.out HSL.out (HSp.up ‹Below _ _ _› ‹HSp _ _ _ _›) ‹HSp _ _ _ _›).mono ?_; rintro e w' ⟨rfl, hb⟩))
  obtain ⟨hB, _⟩ := ‹Below w.heap.size w _ ∧ _›
  clear h0 hstep HX HY
  go_wp2
  go_ret
  exact ⟨rfl, hB⟩

end Go.Proofs.YtloloifngbmibaaGreatDoor
set_option linter.unusedVariables false
set_option linter.unusedSimpArgs false
set_option maxRecDepth 4000
namespace Go.Proofs.YtloloifngbmibaaGreatDoor
open Go.RowKit

/-- It says yes. -/
def YesE (w : World) (e : Ending) (w' : World) : Prop := e = .returned (.bool true) ∧ Below w.heap.size w w'
abbrev Six2 (b1 o1 : Nat) (x : Vc) (b2 o2 : Nat) (y : Vc) (W : World) : Prop := Six W b1 o1 x ∧ Six W b2 o2 y
theorem Six2.up {b1 o1 b2 o2 : Nat} {x y : Vc} {W W' : World} (h : Six2 b1 o1 x b2 o2 y W) (hb : Below W.heap.size W W') : Six2 b1 o1 x b2 o2 y W' := ⟨h.1.up hb, h.2.up hb⟩
set_option maxHeartbeats 1000000 in
theorem sameList_any (n c c' : Nat) (A B : Option Addr) (hn : n ≤ 1000) (w : World)
    (H : ∀ i, i < n → ∀ W : World, Below w.heap.size w W → ∃ x y : Vc, (∃ b o, A = some ⟨b, o, none⟩ ∧ Six W b (o + i * 6) x) ∧ (∃ b o, B = some ⟨b, o, none⟩ ∧ Six W b (o + i * 6) y) ∧ Calls Tryz.prog 14 #[x.agg, y.agg] W (YesE W)) :
    Calls Tryz.prog 41 #[.slice A n c, .slice B n c'] w (YesE w) := by
  have HH := Lib.hid H
  clear H
  go_enter Tryz.func41, Tryz.ntmps41
  go_wp2
  go_loopw [5] (fun iv wr => ∃ (i : Nat), iv = .int .i64 i ∧ i ≤ n ∧ Hid (Below w.heap.size w wr)) (fun iv _ => n - (intOf iv).toNat)
  case atStart => exact ⟨0, rfl, Nat.zero_le _, Lib.hid (Below.refl _ _)⟩
  case round =>
    obtain ⟨i, rfl, hi, HB⟩ := hrel
    by_cases hlt : i < n
    · have HME := Lib.hid (ms_lt hlt)
      have HSI := Lib.hid (Nat.succ_le_of_lt hlt)
      have hi1 : (i : Int) < (n : Int) := Int.ofNat_lt.2 hlt
      obtain ⟨x, y, ⟨b1, o1, rfl, hx⟩, ⟨b2, o2, rfl, hy⟩, hc⟩ := HH.out i hlt wr.drew HB.out.drew
      have HC := Lib.hid hc
      have HK := Lib.hid (show Six2 b1 (o1 + i * 6) x b2 (o2 + i * 6) y wr.drew from ⟨hx, hy⟩)
      have w1k := Lib.hid (wr_suc i (by omega))
      clear hc hx hy HH
      go_wp2_with fail
      go_region_held3 (fun W => Six2 b1 (o1 + i * 6) x b2 (o2 + i * 6) y W)
        (first | (with_reducible assumption) | (with_reducible exact HK.out) | (with_reducible exact HK.out.up ‹Below _ _ _›))
        (first | (go_at_call 14; (with_reducible refine HC.out.mono ?_); rintro e w2 ⟨rfl, hb2⟩; have HB2 := Lib.hid (below_up HB.out.drew hb2)))
      all_goals
        go_wp2
        go_roundw
        case rel => exact ⟨i + 1, by first | rfl | (rw [w1k.out]; rfl), HSI.out, HB2⟩
        case measure => first | exact HME.out | (rw [w1k.out]; exact HME.out)
    · have hin : i = n := by omega
      subst hin
      go_wp2
      go_ret
      exact ⟨rfl, HB.out⟩
end Go.Proofs.YtloloifngbmibaaGreatDoor
set_option linter.unusedVariables false
set_option linter.unusedSimpArgs false
set_option maxRecDepth 4000
namespace Go.Proofs.YtloloifngbmibaaGreatDoor
open Go.RowKit

theorem same_flt (k : Int) (hk : k = 3 ∨ k = 1) (n n' : Bool) (Am Am' : Option Addr) (nm cm nm' cm' : Nat) (b : Int) (s : ByteArray) (A B : Option Addr) (nq c c' : Nat) (w : World) :
    Calls Tryz.prog 14 #[.agg #[.int .i64 k, .bool n, .slice Am nm cm, .int .u64 b, .string s, .slice A nq c], .agg #[.int .i64 k, .bool n', .slice Am' nm' cm', .int .u64 b, .string s, .slice B nq c']] w (YesE w) := by
  have hb : (b == b) = true := by simp
  have hbl : Below w.heap.size w ((w.alloc (.cells #[.int .i64 k, .bool n, .slice Am nm cm, .int .u64 b, .string s, .slice A nq c] 26)).alloc (.cells #[.int .i64 k, .bool n', .slice Am' nm' cm', .int .u64 b, .string s, .slice B nq c'] 26)) := below_al (below_al (Below.refl _ _) _) _
  have HB := Lib.hid hbl
  clear hbl
  rcases hk with rfl | rfl
  all_goals
    go_enter Tryz.func14, Tryz.ntmps14
    go_wp2
    go_ret
    exact ⟨by simp, HB.out⟩
theorem same_node (k : Int) (h1 : ¬ k = 1) (h2 : ¬ k = 2) (h3 : ¬ k = 3) (n n' : Bool) (Am Am' : Option Addr) (nm cm nm' cm' : Nat) (b b' : Int) (s : ByteArray) (A B : Option Addr) (nq c c' : Nat) (w : World)
    (HS : ∀ W : World, Below w.heap.size w W → Calls Tryz.prog 41 #[.slice A nq c, .slice B nq c'] W (YesE W)) :
    Calls Tryz.prog 14 #[.agg #[.int .i64 k, .bool n, .slice Am nm cm, .int .u64 b, .string s, .slice A nq c], .agg #[.int .i64 k, .bool n', .slice Am' nm' cm', .int .u64 b', .string s, .slice B nq c']] w (YesE w) := by
  have e1 := beq_no h1
  have e2 := beq_no h2
  have e3 := beq_no h3
  have hbl : Below w.heap.size w ((w.alloc (.cells #[.int .i64 k, .bool n, .slice Am nm cm, .int .u64 b, .string s, .slice A nq c] 26)).alloc (.cells #[.int .i64 k, .bool n', .slice Am' nm' cm', .int .u64 b', .string s, .slice B nq c'] 26)) := below_al (below_al (Below.refl _ _) _) _
  have HC := Lib.hid (HS _ hbl)
  have HB := Lib.hid hbl
  clear hbl HS h1 h2 h3
  go_enter Tryz.func14, Tryz.ntmps14
  go_wp2_with fail
  refine HC.out.mono ?_
  rintro e w1 ⟨rfl, hb1⟩
  have HB1 := Lib.hid (below_up HB.out hb1)
  clear hb1 HC HB
  go_wp2
  go_ret
  exact ⟨rfl, HB1.out⟩
end Go.Proofs.YtloloifngbmibaaGreatDoor
