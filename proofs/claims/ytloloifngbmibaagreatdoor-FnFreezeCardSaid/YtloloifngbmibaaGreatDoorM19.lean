/- The reference's Key. impl.whole. -/
import Derived.Test.YtloloifngbmibaaGreatDoorM18
import Derived.Deep.RegionHeld3
import Derived.Test.YtloloifngbmibaaGreatDoorM14
import Derived.Test.YtloloifngbmibaaGreatDoorM17
set_option linter.unusedVariables false
set_option linter.unusedSimpArgs false
set_option maxRecDepth 4000
namespace Go.Proofs.YtloloifngbmibaaGreatDoor
open Go.RowKit

theorem ext_all (s : ByteArray) (h : s.size ≤ 60) : s.extract 0 (min (s.size : Int) 60).toNat = s := by
  rw [show (min (s.size : Int) 60).toNat = s.size by omega]
  exact ByteArray.extract_zero_size

theorem set6 {W : World} {g : Nat} {T : TypeId} {u0 u1 u2 u3 u4 u5 : Value} (h : Blk W g T #[u0, u1, u2, u3, u4, u5]) (a0 a1 a2 a3 a4 a5 : Value) :
    Blk ((((((W.setCell ⟨g, 0, none⟩ a0).setCell ⟨g, 1, none⟩ a1).setCell ⟨g, 2, none⟩ a2).setCell ⟨g, 3, none⟩ a3).setCell ⟨g, 4, none⟩ a4).setCell ⟨g, 5, none⟩ a5) g T #[a0, a1, a2, a3, a4, a5] := by
  have := (((((h.set 0 a0).set 1 a1).set 2 a2).set 3 a3).set 4 a4).set 5 a5
  simpa using this
theorem low6 {w W : World} {B : Nat} (h : Below B w W) (g : Nat) (hg : B ≤ g) (a0 a1 a2 a3 a4 a5 : Value) :
    Below B w ((((((W.setCell ⟨g, 0, none⟩ a0).setCell ⟨g, 1, none⟩ a1).setCell ⟨g, 2, none⟩ a2).setCell ⟨g, 3, none⟩ a3).setCell ⟨g, 4, none⟩ a4).setCell ⟨g, 5, none⟩ a5) :=
  (((((h.setCell (p := ⟨g, 0, none⟩) hg _).setCell (p := ⟨g, 1, none⟩) hg _).setCell (p := ⟨g, 2, none⟩) hg _).setCell (p := ⟨g, 3, none⟩) hg _).setCell (p := ⟨g, 4, none⟩) hg _).setCell (p := ⟨g, 5, none⟩) hg _

theorem key_flat (k : Int) (n : Bool) (Am Aq : Option Addr) (nm cm nq cq : Nat) (b : Int) (s : ByteArray) (hk : k < 6) (hs : s.size ≤ 60) (w : World) :
    Calls Tryz.prog 64 #[.agg #[.int .i64 k, .bool n, .slice Am nm cm, .int .u64 b, .string s, .slice Aq nq cq]] w fun e w' => e = .returned (.agg #[.int .i64 k, .bool n, .slice Am nm cm, .int .u64 b, .string s, .slice Aq nq cq]) ∧ Below w.heap.size w w' := by
  have e := ext_all s hs
  go_enter Tryz.func64, Tryz.ntmps64
  go_wp2
  refine bodyPost_ret (v := .agg #[.int .i64 k, .bool n, .slice Am nm cm, .int .u64 b, .string s, .slice Aq nq cq]) (by simp [results, Tryz.results64, go_sem]) rfl ⟨rfl, ?_⟩
  exact ((Below.refl _ _).alloc (Nat.le_refl _) _).alloc (by simp) _

/-- A box, a result's block, a value that is made, its row of kids. -/
structure MkS (L M : Nat) (w : World) (x : Vc) (K : Int) (d : Nat) (v : Value) (ts : List Tr) (W : World) : Prop where
  lo : Below w.heap.size w W
  bx : Blk W w.heap.size 26 (VcB x)
  rs : Blk W (w.heap.size + 1) 26 #[.int .i64 0, .bool false, .slice none 0 0, .int .u64 0, .string ⟨#[]⟩, .slice none 0 0]
  ob : Blk W (w.heap.size + 2) 26 #[.int .i64 K, .bool false, .slice none 0 0, .int .u64 0, .string ⟨#[]⟩, v]
  hM : M ≤ w.heap.size
  row : RowV L M (w.heap.size + 3) d v ts W
section
variable {L M : Nat} {w : World} {x : Vc} {K : Int} {d : Nat} {v : Value} {ts : List Tr} {W W' : World}
theorem MkS.up (h : MkS L M w x K d v ts W) (hb : Below W.heap.size W W') : MkS L M w x K d v ts W' :=
  ⟨below_up h.lo hb, h.bx.below hb h.bx.lt, h.rs.below hb h.rs.lt, h.ob.below hb h.ob.lt, h.hM, h.row.up hb⟩
theorem MkS.drew (h : MkS L M w x K d v ts W) : MkS L M w x K d v ts W.drew := ⟨h.lo.drew, h.bx, h.rs, h.ob, h.hM, h.row.drew⟩
/-- Behind an append and its store. -/
theorem MkS.push {v' : Value} {us : List Tr} (h : MkS L M w x K d v ts W) (hb : Below (w.heap.size + 3) W W') (hr : RowV L M (w.heap.size + 3) d v' us W') : MkS L M w x K d v' us (W'.setCell ⟨w.heap.size + 2, 5, none⟩ v') := by
  have l3 := h.ob.lt
  have o := (h.ob.below hb (by omega)).set 5 v'
  exact ⟨((h.lo.trans (hb.mono (by omega))).setCell (p := ⟨w.heap.size + 2, 5, none⟩) (by show w.heap.size ≤ w.heap.size + 2; omega) _), (h.bx.below hb (by omega)).far (by show w.heap.size ≠ w.heap.size + 2; omega) _, (h.rs.below hb (by omega)).far (by show w.heap.size + 1 ≠ w.heap.size + 2; omega) _, by simpa using o, h.hM, hr.set (by show M ≤ w.heap.size + 2; have := h.hM; omega) (by show w.heap.size + 2 < w.heap.size + 3; omega) _⟩
theorem MkS.start (L M : Nat) (w : World) (x : Vc) (K : Int) (d : Nat) (hM : M ≤ w.heap.size) : MkS L M w x K d (.slice none 0 0) [] (((w.alloc (.cells (VcB x) 26)).alloc (.cells #[.int .i64 0, .bool false, .slice none 0 0, .int .u64 0, .string ⟨#[]⟩, .slice none 0 0] 26)).alloc (.cells #[.int .i64 K, .bool false, .slice none 0 0, .int .u64 0, .string ⟨#[]⟩, .slice none 0 0] 26)) := by
  have h1 := Blk.new (w.alloc (.cells (VcB x) 26)) 26 #[.int .i64 0, .bool false, .slice none 0 0, .int .u64 0, .string ⟨#[]⟩, .slice none 0 0]
  have h2 := Blk.new ((w.alloc (.cells (VcB x) 26)).alloc (.cells #[.int .i64 0, .bool false, .slice none 0 0, .int .u64 0, .string ⟨#[]⟩, .slice none 0 0] 26)) 26 #[.int .i64 K, .bool false, .slice none 0 0, .int .u64 0, .string ⟨#[]⟩, .slice none 0 0]
  refine ⟨(((Below.refl _ _).alloc (Nat.le_refl _) _).alloc (by simp) _).alloc (by simp; omega) _, ((Blk.new w 26 (VcB x)).alloc _).alloc _, ?_, ?_, hM, RowV.nil _ _ _ _ _⟩
  · have := h1.alloc (.cells #[.int .i64 K, .bool false, .slice none 0 0, .int .u64 0, .string ⟨#[]⟩, .slice none 0 0] 26)
    simpa using this
  · simpa using h2
end

/-- A box's kids and one of them. -/
abbrev KidC (w : World) (q : Value) (b o : Nat) (u : Vc) (W : World) : Prop := W.cell? ⟨w.heap.size, 5, none⟩ = some q ∧ Six W b o u
theorem KidC.up {w : World} {q : Value} {b o : Nat} {u : Vc} {W W' : World} (h : KidC w q b o u W) (hb : Below W.heap.size W W') : KidC w q b o u W' := ⟨cell_up hb h.1, h.2.up hb⟩
theorem KidC.al {w : World} {q : Value} {b o : Nat} {u : Vc} {W : World} (h : KidC w q b o u W) (ob : Obj) : KidC w q b o u (W.alloc ob) := h.up (below_al (Below.refl _ _) ob)
theorem KidC.lo {w : World} {q : Value} {b o : Nat} {u : Vc} {W W' : World} (h : KidC w q b o u W) (hb : Below (w.heap.size + 3) W W') (hl : b < w.heap.size) : KidC w q b o u W' := by
  have k : ∀ (g j : Nat) (z : Value), g ≤ w.heap.size → W.cell? ⟨g, j, none⟩ = some z → W'.cell? ⟨g, j, none⟩ = some z := fun g j z hg hz => (hb.cell (p := ⟨g, j, none⟩) (by show g < w.heap.size + 3; omega)).trans hz
  have hl' := Nat.le_of_lt hl
  exact ⟨k _ _ _ (Nat.le_refl _) h.1, k _ _ _ hl' h.2.1, k _ _ _ hl' h.2.2.1, k _ _ _ hl' h.2.2.2.1, k _ _ _ hl' h.2.2.2.2.1, k _ _ _ hl' h.2.2.2.2.2.1, k _ _ _ hl' h.2.2.2.2.2.2⟩
theorem KidC.st {w : World} {q : Value} {b o : Nat} {u : Vc} {W : World} (h : KidC w q b o u W) (hl : b < w.heap.size) (j : Nat) (z : Value) : KidC w q b o u (W.setCell ⟨w.heap.size + 2, j, none⟩ z) := by
  have k : ∀ (g i : Nat) (y : Value), g ≤ w.heap.size → W.cell? ⟨g, i, none⟩ = some y → (W.setCell ⟨w.heap.size + 2, j, none⟩ z).cell? ⟨g, i, none⟩ = some y := fun g i y hg hz => cell_st (by omega) hz z
  have hl' := Nat.le_of_lt hl
  exact ⟨k _ _ _ (Nat.le_refl _) h.1, k _ _ _ hl' h.2.1, k _ _ _ hl' h.2.2.1, k _ _ _ hl' h.2.2.2.1, k _ _ _ hl' h.2.2.2.2.1, k _ _ _ hl' h.2.2.2.2.2.1, k _ _ _ hl' h.2.2.2.2.2.2⟩
theorem vcs_one (y : Vc) : (vcs [y]).toArray = VcB y := rfl
theorem HVQ.shape {L M B d : Nat} {t : Tr} {x : Vc} {W : World} (h : HVQ L M B d t x W) : ∃ (k : Int) (n : Bool) (A : Option Addr) (l c : Nat) (b : Int) (s : ByteArray) (A' : Option Addr) (l' c' : Nat), x = ⟨k, n, .slice A l c, b, s, .slice A' l' c'⟩ := by
  obtain ⟨S, h1, _⟩ := h
  obtain ⟨A, c, hm, _⟩ := h1.head.m
  obtain ⟨A', n, c', hq, _⟩ := h1.kidsV
  obtain ⟨k, n, m, b, s, q⟩ := x
  simp only at hm hq
  subst hm hq
  exact ⟨_, _, _, _, _, _, _, _, _, _, rfl⟩
theorem RowV.ownLt {L M B d : Nat} {v : Value} {ts : List Tr} {W : World} (h : RowV L M B d v ts W) : ∀ g, v.ownBlock = some g → g < W.heap.size := by
  obtain ⟨xs, S, h1, _⟩ := h
  exact fun g hg => (own_lt h1 hg).2
theorem RowV.ownGe {L M B d : Nat} {v : Value} {ts : List Tr} {W : World} (h : RowV L M B d v ts W) : ∀ g, v.ownBlock = some g → B ≤ g := by
  obtain ⟨xs, S, h1, _⟩ := h
  exact fun g hg => (own_lt h1 hg).1

/-- One Val put behind, at a step of a region that draws. -/
theorem step_push1 {L M : Nat} {w : World} {x : Vc} {K : Int} {d B1 : Nat} {v : Value} {ts : List Tr} (W1 : World) (hM : MkS L M w x K d v ts W1) (t : Tr) (y : Vc) (hy : HVQ L M B1 d t y W1) (hB1 : ∀ g, v.ownBlock = some g → g < B1) (h3 : w.heap.size + 3 ≤ B1) (hlen : ts.length + 1 ≤ 1000) (T : TypeId)
    {ops : Array Oper} {o : Oper} {a : Act} {KK : Act → World → Prop} {Q : Exit → Act → World → Prop} {E : Prop} (hgd : o.guard = none) (s z : Operand)
    (ho : o.op = .call { callee := .builtin .append, args := #[s, z], argTypes := #[24, 24] })
    (hs : a.eval s = v) (hz : a.eval z = .slice (some ⟨W1.heap.size, 0, none⟩) 1 1)
    (hK : ∀ v' w', RowV L M (w.heap.size + 3) d v' (ts ++ [t]) w' → Below (w.heap.size + 3) W1 w' → (∃ A c, v' = .slice A (ts.length + 1) c) → KK (a.put o.dst v') w') : if Region.wanted o (yielded ops a.tmps) = true then o.wp Tryz.prog a (W1.alloc (.cells (VcB y) T)) KK Q else E := by
  obtain ⟨S, h1, h2⟩ := hy
  have l3 : w.heap.size + 3 ≤ W1.heap.size := hM.ob.lt
  have hal := below_al (Below.refl W1.heap.size W1) (.cells (VcB y) T)
  refine step_push (L := L) (M := M) (B := w.heap.size + 3) (d := d) (v := v) (ts := ts) (us := [t]) (ys := [y]) (S' := S) (W1.alloc (.cells (VcB y) T)) hgd s z ho hs (hM.row.up hal) rfl ?_ ?_ ?_ W1.heap.size 1 rfl hz T (Blk.new _ _ _) hlen (Nat.le_trans l3 hal.size) ?_
  · intro i y' u' hy' hu'
    cases i with
    | zero =>
      simp at hy' hu'
      subst hy' hu'
      exact h1.keep (still_below hal (fun k hk => (h2 k hk).2))
    | succ i => simp at hy'
  · exact fun k hk => ⟨(h2 k hk).1.imp id (fun h => Nat.le_trans h3 h), Nat.lt_of_lt_of_le (h2 k hk).2 hal.size⟩
  · intro g hg hk
    have h5 := hB1 g hg
    have h6 := (h2 g hk).1
    have h7 := hM.row.ownGe g hg
    have h8 := hM.hM
    rcases h6 with h6 | h6 <;> omega
  · intro v' w' hr hb hv
    exact hK v' w' hr ((hal.mono l3).trans hb) hv
/-- The hypothesis on the kids: the k-th is made into a new one. -/
def KidMk (L M : Nat) (f : Nat) (args : Vc → Array Value) (d : Nat) (R : Nat → Tr → Prop) (A : Option Addr) (n : Nat) (w : World) : Prop :=
  ∀ i, i < n → ∀ W, Below w.heap.size w W → ∃ u : Vc, KidAt W A i u ∧ Calls Tryz.prog f (args u) W fun e w' => ∃ t y, e = .returned (Vc.agg y) ∧ R i t ∧ HVQ L M W.heap.size d t y w' ∧ Below W.heap.size W w'

theorem key_core (L M d : Nat) (R : Nat → Tr → Prop) (k : Int) (ng : Bool) (Am : Option Addr) (nm cm : Nat) (b : Int) (s : ByteArray) (A : Option Addr) (n c : Nat) (hn : n ≤ 16) (hk : ¬ k < 6) (w : World) (hMw : M ≤ w.heap.size)
    (HK : KidMk L M 64 (fun u => #[u.agg]) d R A n w) :
    Calls Tryz.prog 64 #[.agg #[.int .i64 k, .bool ng, .slice Am nm cm, .int .u64 b, .string s, .slice A n c]] w fun e w' => ∃ ts y, e = .returned (Vc.agg y) ∧ ts.length = n ∧ (∀ i u, ts[i]? = some u → R i u) ∧ HVQ L M w.heap.size (d + 1) ⟨7, false, [], 0, ⟨#[]⟩, ts⟩ y w' ∧ Below w.heap.size w w' := by
  have HH := Lib.hid HK
  have h0 := Lib.hid (MkS.start L M w ⟨k, ng, .slice Am nm cm, b, s, .slice A n c⟩ 7 d hMw)
  have HMW := Lib.hid hMw
  clear HK hMw
  go_enter Tryz.func64, Tryz.ntmps64
  go_wp2
  go_loopw [4] (fun iv wr => ∃ (i : Nat) (v : Value) (ts : List Tr), iv = .int .i64 i ∧ i ≤ n ∧ Hid (ts.length = i ∧ ∀ j u, ts[j]? = some u → R j u) ∧ Hid (MkS L M w ⟨k, ng, .slice Am nm cm, b, s, .slice A n c⟩ 7 d v ts wr)) (fun iv _ => n - (intOf iv).toNat)
  case atStart => exact ⟨0, _, [], rfl, Nat.zero_le _, Lib.hid ⟨rfl, fun j u h => by simp at h⟩, h0⟩
  case round =>
    obtain ⟨i, v, ts, rfl, hi, hT, hM⟩ := hrel
    have b5 := hM.out.bx.cell 5
    have lb := hM.out.bx.lt
    simp at b5
    by_cases hlt : i < n
    · obtain ⟨u, ⟨b1, o1, rfl, hu⟩, hc⟩ := HH.out i hlt wr.drew hM.out.lo.drew
      have HC := Lib.hid hc
      have HME := Lib.hid (ms_lt hlt)
      have HSI := Lib.hid (Nat.succ_le_of_lt hlt)
      have w1k := Lib.hid (wr_suc i (Nat.le_trans hi (Nat.le_trans hn (by decide))))
      have HU := Lib.hid (show Six wr.drew b1 (o1 + i * 6) u from hu)
      have HMd := Lib.hid hM.out.drew
      have l3 := hM.out.ob.lt
      obtain ⟨Av, cv, hv, _⟩ := hM.out.row.form
      subst hv
      have o5 : wr.drew.cell? ⟨w.heap.size + 2, 5, none⟩ = some (.slice Av ts.length cv) := hM.out.ob.cell 5
      clear hc hu
      have HO := Lib.hid hM.out.row.ownLt
      have HBL : Hid (b1 < w.heap.size) := Lib.hid (by
        obtain ⟨u', ⟨b1', o1', e, hu', _⟩, _⟩ := HH.out i hlt w (Below.refl _ _)
        injection e with e
        injection e with e1 e2
        subst e1
        exact World.block_lt_of_cell? w _ hu')
      have HLN : Hid (ts.length + 1 ≤ 1000) := Lib.hid (by have := hT.out.1; omega)
      clear HH h0 hM hi hlt lb
      go_wp2_with fail
      have HK0 := Lib.hid (show KidC w (.slice (some ⟨b1, o1, none⟩) n c) b1 (o1 + i * 6) u wr.drew from ⟨b5, HU.out⟩)
      rw [show Op.load 24 (.tmp 25) = ldAs 24 (.tmp 25) from rfl]
      go_region_held3 (fun W => KidC w (.slice (some ⟨b1, o1, none⟩) n c) b1 (o1 + i * 6) u W)
        (first | assumption | exact HK0.out | exact (‹KidC _ _ _ _ _ _›).up ‹Below _ _ _› | exact HK0.out.up ‹Below _ _ _› | exact (‹KidC _ _ _ _ _ _›).al _ | exact (‹KidC _ _ _ _ _ _›).lo ‹Below (w.heap.size + 3) _ _› HBL.out | exact KidC.lo (KidC.up HK0.out ‹Below _ _ w1›) ‹Below (w.heap.size + 3) _ _› HBL.out | exact (‹KidC _ _ _ _ _ _›).st HBL.out _ _)
        (first
          | (go_at_call 64; (with_reducible refine HC.out.mono ?_); rintro e w1 ⟨t, y, rfl, hRt, hy, hb1⟩; obtain ⟨yk, yn, yA, yl, yc, yb, ys, qA, ql, qc, rfl⟩ := hy.shape; have HM1 := Lib.hid (HMd.out.up hb1); have o5' := HM1.out.ob.cell 5; have l3' := HM1.out.ob.lt; have HY := Lib.hid hy; have HR := Lib.hid hRt; simp at o5')
          | (refine step_push1 w1 HM1.out t _ HY.out (fun g hg => HO.out g hg) HMd.out.ob.lt HLN.out 26 rfl _ _ rfl (by rfl) (by rfl) ?_; rintro v' w2 hr hb3 ⟨A', c', rfl⟩; have HR2 := Lib.hid hr; have HB3 := Lib.hid hb3; have hob := HM1.out.ob.below hb3 (Nat.lt_succ_self _); have l4 := hob.lt; have p5 := hob.cell 5; have q5 := hob.frozen 5; simp at p5))
      all_goals
        have HM2 := Lib.hid (HM1.out.push HB3.out HR2.out)
        have HT2 : Hid ((ts ++ [t]).length = i + 1 ∧ ∀ j u, (ts ++ [t])[j]? = some u → R j u) := Lib.hid ⟨by simp [hT.out.1], fun j u hj => by
          by_cases hlt : j < ts.length
          · rw [List.getElem?_append_left hlt] at hj
            exact hT.out.2 j u hj
          · have hje : j = ts.length := by
              have := (List.getElem?_eq_some_iff.1 hj).1
              simp at this
              omega
            subst hje
            simp at hj
            subst hj
            rw [hT.out.1]
            exact HR.out⟩
        clear p5 q5 l4 hob o5' l3' hb3 hr HM1 HY HR HR2 HB3 o5 b5
        go_wp2
        go_roundw
        case rel => exact ⟨i + 1, _, _, by first | rfl | (rw [w1k.out]; rfl), HSI.out, HT2, HM2⟩
        case measure => first | exact HME.out | (rw [w1k.out]; exact HME.out)
    · have hie : i = n := Nat.le_antisymm hi (Nat.not_lt.1 hlt)
      subst hie
      obtain ⟨Av, cv, hv, _⟩ := hM.out.row.form
      subst hv
      have k0 := hM.out.ob.cell 0
      have k1 := hM.out.ob.cell 1
      have k2 := hM.out.ob.cell 2
      have k3 := hM.out.ob.cell 3
      have k4 := hM.out.ob.cell 4
      have k5 := hM.out.ob.cell 5
      have r0 := hM.out.rs.cell 0
      have r1 := hM.out.rs.cell 1
      have r2 := hM.out.rs.cell 2
      have r3 := hM.out.rs.cell 3
      have r4 := hM.out.rs.cell 4
      have r5 := hM.out.rs.cell 5
      have z0 := hM.out.rs.frozen 0
      have z1 := hM.out.rs.frozen 1
      have z2 := hM.out.rs.frozen 2
      have z3 := hM.out.rs.frozen 3
      have z4 := hM.out.rs.frozen 4
      have z5 := hM.out.rs.frozen 5
      have lr := hM.out.rs.lt
      simp at k0 k1 k2 k3 k4 k5 r0 r1 r2 r3 r4 r5
      clear HH h0 hlt hi hn lb
      have hV := (hM.out.row.val 7 trivial)
      have hm1 : M ≤ w.heap.size + 1 := Nat.le_succ_of_le HMW.out
      have hm2 : w.heap.size + 1 < w.heap.size + 3 := by omega
      have HF := Lib.hid (set6 hM.out.rs (.int .i64 7) (.bool false) (.slice none 0 0) (.int .u64 0) (.string ⟨#[]⟩) (.slice Av ts.length cv))
      have HV := Lib.hid (((((((hV.set (p := ⟨w.heap.size + 1, 0, none⟩) hm1 hm2 (.int .i64 7)).set (p := ⟨w.heap.size + 1, 1, none⟩) hm1 hm2 (.bool false)).set (p := ⟨w.heap.size + 1, 2, none⟩) hm1 hm2 (.slice none 0 0)).set (p := ⟨w.heap.size + 1, 3, none⟩) hm1 hm2 (.int .u64 0)).set (p := ⟨w.heap.size + 1, 4, none⟩) hm1 hm2 (.string ⟨#[]⟩)).set (p := ⟨w.heap.size + 1, 5, none⟩) hm1 hm2 (.slice Av ts.length cv)).low (L' := L) (M' := M) (B' := w.heap.size) (fun k hk => hk.imp id (fun h => Nat.le_trans (Nat.le_add_right _ _) h)))
      have HL := Lib.hid (low6 hM.out.lo (w.heap.size + 1) (Nat.le_add_right _ _) (.int .i64 7) (.bool false) (.slice none 0 0) (.int .u64 0) (.string ⟨#[]⟩) (.slice Av ts.length cv))
      clear hM hV hm1 hm2
      go_wp2
      clear r0 r1 r2 r3 r4 r5 k0 k1 k2 k3 k4 k5 b5
      have q0 := HF.out.cell 0
      have q1 := HF.out.cell 1
      have q2 := HF.out.cell 2
      have q3 := HF.out.cell 3
      have q4 := HF.out.cell 4
      have q5 := HF.out.cell 5
      simp at q0 q1 q2 q3 q4 q5
      exact bodyPost_ret (v := .agg #[.int .i64 7, .bool false, .slice none 0 0, .int .u64 0, .string ⟨#[]⟩, .slice Av ts.length cv]) (by simp [results, Tryz.results64, go_sem, q0, q1, q2, q3, q4, q5]) rfl ⟨ts, ⟨7, false, .slice none 0 0, 0, ⟨#[]⟩, .slice Av ts.length cv⟩, rfl, hT.out.1, hT.out.2, HV.out, HL.out⟩

/-- A Val in old blocks. -/
def HVI (L M d : Nat) (t : Tr) (x : Vc) (W : World) : Prop := ∃ S : Nat → Prop, IsV d W S t x ∧ ∀ k, S k → L ≤ k ∧ k < M
theorem HVI.up {L M d : Nat} {t : Tr} {x : Vc} {W W' : World} (h : HVI L M d t x W) (hM : M ≤ W.heap.size) (hb : Below W.heap.size W W') : HVI L M d t x W' := by
  obtain ⟨S, h1, h2⟩ := h
  exact ⟨S, h1.keep (still_below hb (fun k hk => Nat.lt_of_lt_of_le (h2 k hk).2 hM)), h2⟩
theorem HVI.hvq {L M d B : Nat} {t : Tr} {x : Vc} {W : World} (h : HVI L M d t x W) (hM : M ≤ W.heap.size) : HVQ L M B d t x W := by
  obtain ⟨S, h1, h2⟩ := h
  exact ⟨S, h1, fun k hk => ⟨.inl (h2 k hk), Nat.lt_of_lt_of_le (h2 k hk).2 hM⟩⟩
theorem HVI.kid {L M d : Nat} {t : Tr} {x : Vc} {W : World} (h : HVI L M (d + 1) t x W) : ∃ A c, x.q = .slice A t.kids.length c ∧ ∀ i, i < t.kids.length → ∃ y u, t.kids[i]? = some u ∧ HVI L M d u y W ∧ KidAt W A i y := by
  obtain ⟨S, ⟨h1, A, c, xs, e1, e2, e3, hr, hx⟩, h2⟩ := h
  refine ⟨A, c, e1, fun i hi => ?_⟩
  obtain ⟨x, hx', b, o, e, _, c⟩ := rd_vc hr (i := i) (by omega)
  exact ⟨x, t.kids[i], List.getElem?_eq_getElem hi, ⟨S, hx i x _ hx' (List.getElem?_eq_getElem hi), h2⟩, b, o, e, c⟩
theorem KidAt.up {W W' : World} {A : Option Addr} {i : Nat} {x : Vc} (h : KidAt W A i x) (hb : Below W.heap.size W W') : KidAt W' A i x := by
  obtain ⟨b, o, e, h⟩ := h
  exact ⟨b, o, e, Six.up h hb⟩

theorem good_tuple {d : Nat} {ts : List Tr} (hl : ts.length ≤ 16) (h : ∀ u ∈ ts, Good d u) : Good (d + 1) ⟨7, false, [], 0, ⟨#[]⟩, ts⟩ :=
  ⟨⟨⟨show (0 : Int) ≤ 7 by decide, show (7 : Int) ≤ 9 by decide⟩, ByL.nil, Nat.zero_le _, .inl rfl, (fun h => nomatch h), ⟨Int.le_refl 0, show (0 : Int) < 18446744073709551616 by decide⟩, (fun h => absurd (show (7 : Int) = 1 from h) (by decide)), Nat.zero_le _, (fun _ _ => rfl), hl, (fun _ => ⟨rfl, rfl⟩), (fun _ _ => rfl)⟩, (fun h => absurd (show (7 : Int) < 6 from h) (by decide)), h, (fun h => absurd (show (7 : Int) = 8 from h) (by decide)), (fun h => absurd (show (7 : Int) = 9 from h) (by decide))⟩

theorem key_any (L M : Nat) : ∀ (d : Nat) {t : Tr} {x : Vc} {w : World}, M ≤ w.heap.size → HVI L M (d + 1) t x w → Good d t →
    Calls Tryz.prog 64 #[x.agg] w fun e w' => ∃ t' y, e = .returned (Vc.agg y) ∧ HVQ L M w.heap.size (d + 1) t' y w' ∧ Good d t' ∧ KeyT d t' ∧ Below w.heap.size w w' := by
  have flat : ∀ (d : Nat) {t : Tr} {x : Vc} {w : World}, M ≤ w.heap.size → HVI L M (d + 1) t x w → Good d t → t.k < 6 →
      Calls Tryz.prog 64 #[x.agg] w fun e w' => ∃ t' y, e = .returned (Vc.agg y) ∧ HVQ L M w.heap.size (d + 1) t' y w' ∧ Good d t' ∧ KeyT d t' ∧ Below w.heap.size w w' := by
    intro d t x w hM h g hk
    have hq := h.hvq (B := w.heap.size) hM
    have e1 : x.k = t.k ∧ x.s = t.text := by obtain ⟨S, h1, _⟩ := h; exact ⟨h1.head.k, h1.head.s⟩
    obtain ⟨k, n, A, l, c, b, s, A', l', c', rfl⟩ := hq.shape
    simp only at e1
    refine (key_flat k n A A' l c l' c' b s (by rw [e1.1]; exact hk) (by rw [e1.2]; exact g.head.tx) w).mono ?_
    rintro e w' ⟨rfl, hb⟩
    exact ⟨t, _, rfl, hq.up hb, g, by cases d <;> exact .inl hk, hb⟩
  intro d
  induction d with
  | zero =>
    intro t x w hM h g
    exact flat 0 hM h g g.2.1
  | succ d ih =>
    intro t x w hM h g
    by_cases hk : t.k < 6
    · exact flat (d + 1) hM h g hk
    · have hq := h.hvq (B := w.heap.size) hM
      have e1 : x.k = t.k := by obtain ⟨S, h1, _⟩ := h; exact h1.head.k
      obtain ⟨A0, c0, e0, hkid⟩ := h.kid
      obtain ⟨k, n, A, l, c, b, s, A', l', c', rfl⟩ := hq.shape
      simp only at e1 e0
      injection e0 with ea eb ec
      subst ea eb ec
      refine (key_core L M (d + 1) (fun i u => Good d u ∧ KeyT d u) k n A l c b s A' t.kids.length c' g.head.kl (by rw [e1]; exact hk) w hM ?_).mono ?_
      · intro i hi W hW
        obtain ⟨y, u, hu, hy, hya⟩ := hkid i hi
        refine ⟨y, hya.up hW, (ih (Nat.le_trans hM hW.size) (hy.up hM hW) (g.2.2.1 u (List.mem_of_getElem? hu))).mono ?_⟩
        rintro e w' ⟨t', y', rfl, h1, h2, h3, h4⟩
        exact ⟨t', y', rfl, ⟨h2, h3⟩, h1, h4⟩
      · rintro e w' ⟨ts, y, rfl, hlen, hR, hV, hb⟩
        have hmem : ∀ u ∈ ts, Good d u ∧ KeyT d u := fun u hu => by
          obtain ⟨i, hi⟩ := List.getElem?_of_mem hu
          exact hR i u hi
        exact ⟨_, y, rfl, hV, good_tuple (by rw [hlen]; exact g.head.kl) (fun u hu => (hmem u hu).1), .inr ⟨rfl, fun u hu => (hmem u hu).2⟩, hb⟩
end Go.Proofs.YtloloifngbmibaaGreatDoor
set_option linter.unusedVariables false
set_option linter.unusedSimpArgs false
set_option maxRecDepth 4000
namespace Go.Proofs.YtloloifngbmibaaGreatDoor
open Go.RowKit

theorem len30 {ws l : List Int} (hw : WL ws) (hn : Nrm ws) (hl : ByL l) (h40 : l.length ≤ 40) (h : nv ws = bv l) : ws.length ≤ 30 := by
  refine Nat.le_trans (len_le hw hn (n := 5) ?_) (by decide)
  have h1 := (bv_bd hl).2
  have h2 := pw256 h40
  rw [h, show (18446744073709551616 : Int) ^ 5 = 256 ^ 40 by decide]
  omega

theorem SI.shape {B : Nat} {v : Value} {x : Int} {W : World} (h : SI B v x W) : ∃ (s : Int) (a : Option Addr), v = .agg #[.int .i64 s, .pointer a] := by
  rcases h with ⟨rfl, _⟩ | ⟨b, _, _, _, rfl, _⟩
  · exact ⟨_, _, rfl⟩
  · exact ⟨_, _, rfl⟩
theorem wv_dec {ws : List Int} : wv (decide (ws ≠ [])) ws = wv true ws := by
  by_cases h : ws = []
  · subst h
    rfl
  · rw [decide_eq_true h]

theorem whI_any {d : Nat} {t : Tr} {x : Vc} {w : World} (h : HV d t x w) (g : GoodH t) : Calls Tryz.prog 84 #[x.agg] w fun e w' => ∃ v, e = .returned v ∧ SI w.heap.size v (iv t.neg t.mag) w' ∧ Below w.heap.size w w' := by
  obtain ⟨S, h1, h2⟩ := h
  obtain ⟨A', nq, cq, hq, _⟩ := h1.kidsV
  obtain ⟨e1, e2, e3, e4, hm⟩ := h1.head
  obtain ⟨k, n, m, b, s, q⟩ := x
  simp only at e1 e2 e3 e4 hm hq
  subst e1 e2 e3 e4 hq
  have HA := Lib.hid (And.intro g.by_ g.ml)
  have HM := Lib.hid (And.intro hm h2)
  obtain ⟨A, cm, em, hcm, hr⟩ := hm
  subst em
  clear h1 h2 hr g hcm
  have hb0 : Below w.heap.size w (((w.alloc (.cells (VcB ⟨t.k, t.neg, .slice A t.mag.length cm, t.bits, t.text, .slice A' nq cq⟩) 26)).alloc (.cells #[.int .i64 0, .pointer none] 117)).alloc (.cells #[.bool false, .slice none 0 0] 189)) :=
    below_al (below_al (below_al (Below.refl _ _) _) _) _
  have HB0 := Lib.hid hb0
  have HSB := Lib.hid (setBytesI S (w.heap.size + 2) (.slice A t.mag.length cm) t.mag (by have := HA.out.2; omega) HA.out.1 _ (by
    have := Blk.new ((w.alloc (.cells (VcB ⟨t.k, t.neg, .slice A t.mag.length cm, t.bits, t.text, .slice A' nq cq⟩) 26)).alloc (.cells #[.int .i64 0, .pointer none] 117)) 189 #[.bool false, .slice none 0 0]
    simpa using this) (HM.out.1.keep (still_below hb0 HM.out.2)) (fun k hk => Nat.lt_of_lt_of_le (HM.out.2 k hk) hb0.size))
  have HBX : Hid (Blk (((w.alloc (.cells (VcB ⟨t.k, t.neg, .slice A t.mag.length cm, t.bits, t.text, .slice A' nq cq⟩) 26)).alloc (.cells #[.int .i64 0, .pointer none] 117)).alloc (.cells #[.bool false, .slice none 0 0] 189)) w.heap.size 26 (VcB ⟨t.k, t.neg, .slice A t.mag.length cm, t.bits, t.text, .slice A' nq cq⟩)) := Lib.hid (((Blk.new w 26 (VcB ⟨t.k, t.neg, .slice A t.mag.length cm, t.bits, t.text, .slice A' nq cq⟩)).alloc _).alloc _)
  have HRS : Hid (Blk (((w.alloc (.cells (VcB ⟨t.k, t.neg, .slice A t.mag.length cm, t.bits, t.text, .slice A' nq cq⟩) 26)).alloc (.cells #[.int .i64 0, .pointer none] 117)).alloc (.cells #[.bool false, .slice none 0 0] 189)) (w.heap.size + 1) 117 #[.int .i64 0, .pointer none]) := Lib.hid (by
    have := (Blk.new (w.alloc (.cells (VcB ⟨t.k, t.neg, .slice A t.mag.length cm, t.bits, t.text, .slice A' nq cq⟩) 26)) 117 #[.int .i64 0, .pointer none]).alloc (.cells #[.bool false, .slice none 0 0] 189)
    simpa using this)
  clear hb0
  go_enter Tryz.func84, Tryz.ntmps84
  go_wp2_with fail
  refine HSB.out.mono ?_
  rintro e w1 ⟨rfl, u, ws, hg, hu, hwl, hnr, hnv, hbut⟩
  have hbx : Blk w1 w.heap.size 26 _ := HBX.out.keep (hbut.block _ HBX.out.lt (by omega))
  have hrs : Blk w1 (w.heap.size + 1) 117 _ := HRS.out.keep (hbut.block _ HRS.out.lt (by omega))
  have hlow : Below w.heap.size w w1 := HB0.out.trans (hbut.below (B := w.heap.size) (by simp; omega) (fun k hk => by omega))
  have hu' : SlV w1 (fun k => w.heap.size + 3 ≤ k ∧ k < w1.heap.size) .u64 u ws := hu.mono (fun k hk => ⟨by have := hk.1; simp at this; omega, hk.2⟩)
  have HBU := Lib.hid hu'
  have HG := Lib.hid hg
  have HBX2 := Lib.hid hbx
  have HRS2 := Lib.hid hrs
  have HLO := Lib.hid hlow
  have HW := Lib.hid (And.intro hwl (And.intro hnr (And.intro hnv (len30 hwl hnr HA.out.1 HA.out.2 hnv))))
  have j1 := hbx.cell 1
  have r0 := hrs.cell 0
  have r1 := hrs.cell 1
  have z0 := hrs.frozen 0
  have z1 := hrs.frozen 1
  simp at j1 r0 r1
  obtain ⟨ng, hng⟩ : ∃ ng, ng = t.neg := ⟨_, rfl⟩
  rw [← hng] at j1
  have HNG := Lib.hid hng
  clear hbx hrs hlow hu' hg hu hwl hnr hnv hbut HSB HB0 HBX HRS HM hng
  cases ng
  · have HMB := Lib.hid (makeBigInt_any _ (w.heap.size + 2) false u ws HW.out.2.2.2 HW.out.1 HW.out.2.1 w1 HG.out HBU.out (fun k hk => hk.2))
    go_wp2_with fail
    refine HMB.out.mono ?_
    rintro e w2 ⟨v, rfl, hsi, hb2⟩
    obtain ⟨sv, av, rfl⟩ := hsi.shape
    have HSI := Lib.hid hsi
    have HL2 := Lib.hid (below_up HLO.out hb2)
    have hrow := HRS2.out.below hb2 HRS2.out.lt
    have hge := HRS2.out.lt
    have r0 := hrow.cell 0
    have r1 := hrow.cell 1
    have z0 := hrow.frozen 0
    have z1 := hrow.frozen 1
    have hlt := hrow.lt
    simp at r0 r1
    have HGE := Lib.hid hge
    clear hrow hsi hb2 HMB HRS2 HBX2 HLO hge
    go_wp2
    refine bodyPost_ret (v := .agg #[.int .i64 sv, .pointer av]) (by simp [results, Tryz.results84, go_sem, r0, r1, hlt]) rfl ⟨_, rfl, ?_, ?_⟩
    · rw [wv_nv (neg := false) HW.out.2.2.1, HNG.out] at HSI
      exact ((HSI.out.set (p := ⟨w.heap.size + 1, 0, none⟩) HGE.out _).set (p := ⟨w.heap.size + 1, 1, none⟩) HGE.out _).low (Nat.le_trans (Nat.le_succ _) (Nat.le_of_lt HGE.out))
    · exact (HL2.out.setCell (p := ⟨w.heap.size + 1, 0, none⟩) (Nat.le_succ _) _).setCell (p := ⟨w.heap.size + 1, 1, none⟩) (Nat.le_succ _) _
  · have HNS := Lib.hid (negSelf_any _ (w.heap.size + 2) u ws w1 HG.out HBU.out)
    go_wp2_with fail
    refine HNS.out.mono ?_
    rintro e w1' ⟨rfl, hw1'⟩
    have hg2 : Blk w1' (w.heap.size + 2) 189 #[.bool (decide (ws ≠ [])), u] := by
      rw [hw1']
      simpa using HG.out.set 0 (.bool (decide (ws ≠ [])))
    have hu2 : SlV w1' (fun k => w.heap.size + 3 ≤ k ∧ k < w1'.heap.size) .u64 u ws := by
      rw [hw1']
      exact (HBU.out.keep ((Still.refl _ w1).set (p := ⟨w.heap.size + 2, 0, none⟩) (fun k hk => by have := hk.1; intro e; have e : k = w.heap.size + 2 := e; omega) _)).mono (fun k hk => ⟨hk.1, by simpa using hk.2⟩)
    have hlo2 : Below w.heap.size w w1' := by
      rw [hw1']
      exact HLO.out.setCell (p := ⟨w.heap.size + 2, 0, none⟩) (Nat.le_add_right _ _) _
    have hrs2 : Blk w1' (w.heap.size + 1) 117 #[.int .i64 0, .pointer none] := by
      rw [hw1']
      exact HRS2.out.far (p := ⟨w.heap.size + 2, 0, none⟩) (by simp) _
    have HMB := Lib.hid (makeBigInt_any _ (w.heap.size + 2) (decide (ws ≠ [])) u ws HW.out.2.2.2 HW.out.1 HW.out.2.1 w1' hg2 hu2 (fun k hk => hk.2))
    clear HLO HRS2 HBX2 HG HBU HNS hw1' hg2 hu2 j1 r0 r1 z0 z1
    have HLO := Lib.hid hlo2
    have HRS2 := Lib.hid hrs2
    have HBX2 := Lib.hid hlo2
    clear hlo2 hrs2
    go_wp2_with fail
    refine HMB.out.mono ?_
    rintro e w2 ⟨v, rfl, hsi, hb2⟩
    obtain ⟨sv, av, rfl⟩ := hsi.shape
    have HSI := Lib.hid hsi
    have HL2 := Lib.hid (below_up HLO.out hb2)
    have hrow := HRS2.out.below hb2 HRS2.out.lt
    have hge := HRS2.out.lt
    have r0 := hrow.cell 0
    have r1 := hrow.cell 1
    have z0 := hrow.frozen 0
    have z1 := hrow.frozen 1
    have hlt := hrow.lt
    simp at r0 r1
    have HGE := Lib.hid hge
    clear hrow hsi hb2 HMB HRS2 HBX2 HLO hge
    go_wp2
    refine bodyPost_ret (v := .agg #[.int .i64 sv, .pointer av]) (by simp [results, Tryz.results84, go_sem, r0, r1, hlt]) rfl ⟨_, rfl, ?_, ?_⟩
    · rw [wv_dec, wv_nv (neg := true) HW.out.2.2.1, HNG.out] at HSI
      exact ((HSI.out.set (p := ⟨w.heap.size + 1, 0, none⟩) HGE.out _).set (p := ⟨w.heap.size + 1, 1, none⟩) HGE.out _).low (Nat.le_trans (Nat.le_succ _) (Nat.le_of_lt HGE.out))
    · exact (HL2.out.setCell (p := ⟨w.heap.size + 1, 0, none⟩) (Nat.le_succ _) _).setCell (p := ⟨w.heap.size + 1, 1, none⟩) (Nat.le_succ _) _
end Go.Proofs.YtloloifngbmibaaGreatDoor
