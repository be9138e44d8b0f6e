/- Telling: what an iterator tells. Telling: a list of values. Telling: a dict's entries. Telling: a dict's keys and values by turns. -/
import Derived.Test.YtloloifngbmibaaGreatDoorM32
import Derived.Deep.RegionLaw
set_option linter.unusedVariables false
set_option linter.unusedSimpArgs false
set_option maxRecDepth 4000
namespace Go.Proofs.YtloloifngbmibaaGreatDoor
open Go.RowKit

/-- gone under way. -/
structure GoneR (B B1 gi c : Nat) (TI : TypeId) (P : Value) (st : Nat → Value) (ys : List Value) (w : World) (i : Nat) (v : Value) (W : World) : Prop where
  low : Below B w W
  it : Blk W gi TI #[P, st i]
  cell : ∃ u, Blk W c 64 #[u]
  row : W.ownsRow B1 64 1 v i (ys.take i)
theorem GoneR.step {B B1 gi c : Nat} {TI : TypeId} {P : Value} {st : Nat → Value} {ys : List Value} {w : World} {i : Nat} {v v' y : Value} {W W2 W4 : World} (h : GoneR B B1 gi c TI P st ys w i v W) (hB : B ≤ w.heap.size) (hgi : B ≤ gi) (hgi1 : gi < B1) (hc : B ≤ c) (hc1 : c < B1) (hB1 : B ≤ B1) (hy : ys[i]? = some y)
    (hi2 : Blk W2 gi TI #[P, st (i + 1)]) (hc2 : Blk W2 c 64 #[y]) (hb2 : But (fun k => k = gi ∨ k = c) W W2) (T : TypeId) (cs : Array Value) (hrow : W4.ownsRow B1 64 1 v' (i + 1) (ys.take i ++ [y])) (hg : (W2.alloc (.cells cs T)).grownBy W4 v.ownBlock) : GoneR B B1 gi c TI P st ys w (i + 1) v' W4 := by
  have hne : ∀ k, k < B1 → k < W2.heap.size → W4.heap[k]? = W2.heap[k]? := fun k hk hk2 => by
    have h1 : (W2.alloc (.cells cs T)).heap[k]? = W2.heap[k]? := (below_al (Below.refl W2.heap.size W2) (.cells cs T)).block k hk2
    rw [← h1]
    refine hg.block k (by simp; omega) (fun e => ?_)
    have := (own_lt h.row e.symm).1
    omega
  refine ⟨?_, hi2.keep (hne gi hgi1 hi2.lt), ⟨y, hc2.keep (hne c hc1 hc2.lt)⟩, ?_⟩
  · have h2 : Below B W (W2.alloc (.cells cs T)) := (hb2.below (Nat.le_trans hB h.low.size) (fun k hk => by rcases hk with rfl | rfl <;> assumption)).alloc (Nat.le_trans hB (Nat.le_trans h.low.size hb2.size)) _
    exact h.low.trans (h2.grown hg (Nat.le_trans hB (Nat.le_trans h.low.size h2.size)) (fun k hk => Nat.le_trans hB1 (own_lt h.row hk).1))
  · rw [List.take_add_one, hy]
    exact hrow
theorem wpList_gone {B B1 gi c : Nat} {TI : TypeId} {P : Value} {st : Nat → Value} {ys : List Value} {w : World} {i : Nat} {A : Option Addr} {cc : Nat} {TY : TypeId} {xy : Value} {W W2 : World} (h : GoneR B B1 gi c TI P st ys w i (.slice A i cc) W) (hB : B ≤ w.heap.size) (hgi : B ≤ gi) (hgi1 : gi < B1) (hc : B ≤ c) (hc1 : c < B1) (hB1 : B ≤ B1) (hBs : B1 ≤ W.heap.size) (hn : i ≤ 1000) (hy : ys[i]? = some (.iface TY xy))
    (hi2 : Blk W2 gi TI #[P, st (i + 1)]) (hc2 : Blk W2 c 64 #[.iface TY xy]) (hb2 : But (fun k => k = gi ∨ k = c) W W2) (T : TypeId)
    {ops : Array Oper} {rest : List Oper} {o : Oper} {a : Act} {Q : Exit → Act → World → Prop} (hgd : o.guard = none) (s z : Operand)
    (ho : o.op = .call { callee := .builtin .append, args := #[s, z], argTypes := #[96, 96] })
    (hs : a.eval s = .slice A i cc) (hz : a.eval z = .slice (some ⟨W2.heap.size, 0, none⟩) 1 1)
    (hK : ∀ A' cc' w', GoneR B B1 gi c TI P st ys w (i + 1) (.slice A' (i + 1) cc') w' → wpList Tryz.prog ops Q rest (a.put o.dst (.slice A' (i + 1) cc')) w') : wpList Tryz.prog ops Q (o :: rest) a (W2.alloc (.cells #[.iface TY xy] T)) := by
  have hbl : Below W2.heap.size W2 (W2.alloc (.cells #[.iface TY xy] T)) := below_al (Below.refl _ _) _
  have hrow2 : W2.ownsRow B1 64 1 (.slice A i cc) i (ys.take i) := own_keep h.row (fun g cs hg hb => by
    have := own_lt h.row hg
    exact hb2.block g this.2 (fun hk => by rcases hk with rfl | rfl <;> omega))
  refine wpList_append_rd _ hgd s z 96 ho B1 64 .nilIface 1 16 Tryz.underlying96 infoV rfl (by decide) (.slice A i cc) i (ys.take i) hs (own_below hrow2 hbl) (fun k => k = W2.heap.size) (some ⟨W2.heap.size, 0, none⟩) 1 1 [.iface TY xy] hz rfl (Rd.of_blk (ys := []) (by simpa using Blk.new W2 T #[.iface TY xy]) rfl) (fun u hu => by rw [List.mem_singleton.1 hu]; rfl) (by unfold maxLen; omega) (by omega) (by have := hb2.size; simp; omega) ?_
  intro v' w4 hrow hg _
  obtain ⟨A', cc', rfl, _⟩ := own_rd hrow
  exact hK A' cc' w4 (h.step hB hgi hgi1 hc hc1 hB1 hy hi2 hc2 hb2 T _ hrow hg)
theorem gone_any (n : Nat) (ys : List Value) (hl : ys.length = n) (hn : n ≤ 1000) (hone : ∀ y ∈ ys, ∃ T x, y = .iface T x) (B gi : Nat) (TI : TypeId) (P : Value) (st : Nat → Value) (T : TypeId) (x : Value) (F FD : FuncId) (w : World) (hB : B ≤ w.heap.size) (hgi : B ≤ gi) (hi : Blk w gi TI #[P, st 0])
    (hm : ∀ W : World, (method 506 T x "Next").run Tryz.prog W = .ok (F, x) W) (hf : ∀ (W : World) (c : Nat), (callFunc F #[x, .pointer (some ⟨c, 0, none⟩)]).run Tryz.prog W = .ok (.enter F #[x, .pointer (some ⟨c, 0, none⟩)]) W)
    (hmD : ∀ W : World, (method 506 T x "Done").run Tryz.prog W = .ok (FD, x) W) (hfD : ∀ W : World, (callFunc FD #[x]).run Tryz.prog W = .ok (.enter FD #[x]) W)
    (HN : ∀ (i c : Nat) (u y : Value) (W : World), Below B w W → Blk W gi TI #[P, st i] → Blk W c 64 #[u] → w.heap.size ≤ c → i ≤ n → (i < n → ys[i]? = some y) → Calls Tryz.prog F #[x, .pointer (some ⟨c, 0, none⟩)] W (NextE gi c n TI P st y i W))
    (HD : ∀ (W : World), Below B w W → Blk W gi TI #[P, st n] → Calls Tryz.prog FD #[x] W (FrzE (fun w' => w' = W))) :
    Calls Tryz.prog 75 #[.iface T x] w fun e w' => ∃ v, e = .returned v ∧ w'.ownsRow (w.heap.size + 1) 64 1 v n ys ∧ Below B w w' := by
  have HHN := Lib.hid HN
  have HHD := Lib.hid HD
  have HI := Lib.hid hi
  have HO := Lib.hid hone
  have HL := Lib.hid hl
  clear HN HD hi hone hl
  go_enter Tryz.func75, Tryz.ntmps75
  go_wp2
  go_loopw [2] (fun sv wr => ∃ (i : Nat) (A : Option Addr) (cc : Nat), sv = .slice A i cc ∧ i ≤ n ∧ Hid (GoneR B (w.heap.size + 1) gi w.heap.size TI P st ys w i (.slice A i cc) wr)) (fun sv _ => match sv with | .slice _ k _ => n - k | _ => 0)
  case atStart => exact ⟨0, none, 0, rfl, Nat.zero_le _, Lib.hid ⟨(Below.refl _ _).alloc hB _, HI.out.below (below_al (Below.refl _ _) _) HI.out.lt, ⟨_, Blk.new _ _ _⟩, World.ownsRow_nil _ _ _ _⟩⟩
  case round =>
    obtain ⟨i, A, cc, rfl, hi, HR⟩ := hrel
    obtain ⟨u, hc⟩ := HR.out.cell
    have HLT : Hid (w.heap.size + 1 ≤ wr.heap.size) := Lib.hid hc.lt
    by_cases hlt : i < n
    · have hlen := HL.out
      obtain ⟨TY, xy, hy⟩ := HO.out ys[i] (List.getElem_mem (by omega))
      have hy2 : ys[i]? = some (.iface TY xy) := by rw [← hy]; exact List.getElem?_eq_getElem (by omega)
      have HC := Lib.hid (HHN.out i w.heap.size u (.iface TY xy) wr HR.out.low HR.out.it hc (Nat.le_refl _) hi (fun _ => hy2))
      have HY := Lib.hid hy2
      have HGI : Hid (gi < w.heap.size + 1) := Lib.hid (Nat.lt_succ_of_lt HI.out.lt)
      have HME : Hid (n - (i + 1) < n - i) := Lib.hid (by omega)
      have HSI := Lib.hid (Nat.succ_le_of_lt hlt)
      have HI1 : Hid (i ≤ 1000) := Lib.hid (by omega)
      clear hc hlen hy hy2
      go_wp2_with fail
      refine HC.out.mono ?_
      rintro e w2 ⟨h1, _⟩
      obtain ⟨rfl, hi2, hc2, hb2⟩ := h1 hlt
      have HI2 := Lib.hid hi2
      have HC2 := Lib.hid hc2
      have HB2 := Lib.hid hb2
      have c0 := hc2.cell 0
      simp at c0
      clear h1 hi2 hc2 hb2 HC
      go_wp2_with (at_builtin; refine wpList_gone HR.out hB hgi HGI.out hB (Nat.lt_succ_self _) (Nat.le_succ_of_le hB) HLT.out HI1.out HY.out HI2.out HC2.out HB2.out 64 rfl _ _ rfl rfl rfl ?_; intro A' cc' w5 hv5; have HV5 := Lib.hid hv5; clear hv5)
      exact ⟨⟨i + 1, A', cc', rfl, HSI.out, HV5⟩, HME.out⟩
    · have hin : i = n := by omega
      subst hin
      have HC := Lib.hid (HHN.out i w.heap.size u u wr HR.out.low HR.out.it hc (Nat.le_refl _) hi (fun h => absurd h hlt))
      clear hc
      go_wp2_with fail
      refine HC.out.mono ?_
      rintro e w2 ⟨_, h1⟩
      obtain ⟨rfl, hb2⟩ := h1 hlt
      have HB2 := Lib.hid hb2
      have HLO : Hid (Below B w w2) := Lib.hid (HR.out.low.trans (hb2.below (Nat.le_trans hB HR.out.low.size) (fun k hk => hk.elim)))
      have HD := Lib.hid (HHD.out w2 HLO.out (HR.out.it.keep (hb2.block gi HR.out.it.lt (fun h => h))))
      clear h1 hb2 HC
      go_wp2_with fail
      refine HD.out.mono ?_
      rintro e w3 ⟨rfl, rfl⟩
      have HRW : Hid (w3.ownsRow (w.heap.size + 1) 64 1 (.slice A i cc) i ys) := Lib.hid (by
        have h1 := HR.out.row
        rw [← HL.out, List.take_length, HL.out] at h1
        exact own_keep h1 (fun g cs hg hb => HB2.out.block g (own_lt h1 hg).2 (fun h => h)))
      clear HD
      go_wp2
      go_ret
      exact ⟨_, rfl, HRW.out, HLO.out⟩
end Go.Proofs.YtloloifngbmibaaGreatDoor
set_option linter.unusedVariables false
set_option linter.unusedSimpArgs false
set_option maxRecDepth 4000
namespace Go.Proofs.YtloloifngbmibaaGreatDoor
open Go.RowKit

/-- tellAll under way. -/
structure TaR (d : Nat) (ts : List Tr) (w : World) (i : Nat) (v : Value) (W : World) : Prop where
  low : Below w.heap.size w W
  row : RowV 0 0 w.heap.size (d + 1) v (ts.take i) W
theorem wpList_ta {d : Nat} {ts : List Tr} {w : World} {i : Nat} {A : Option Addr} {cc : Nat} {u : Tr} {x : Vc} {W W2 : World} (h : TaR d ts w i (.slice A i cc) W) (hu : ts[i]? = some u) (hx : HVB W.heap.size (d + 1) u x W2) (hb : Below W.heap.size W W2) (hn : i ≤ 900) (T : TypeId)
    {ops : Array Oper} {rest : List Oper} {o : Oper} {a : Act} {Q : Exit → Act → World → Prop} (hgd : o.guard = none) (s z : Operand)
    (ho : o.op = .call { callee := .builtin .append, args := #[s, z], argTypes := #[24, 24] })
    (hs : a.eval s = .slice A i cc) (hz : a.eval z = .slice (some ⟨W2.heap.size, 0, none⟩) 1 1)
    (hK : ∀ A' cc' w', TaR d ts w (i + 1) (.slice A' (i + 1) cc') w' → wpList Tryz.prog ops Q rest (a.put o.dst (.slice A' (i + 1) cc')) w') : wpList Tryz.prog ops Q (o :: rest) a (W2.alloc (.cells x.cells.toArray T)) := by
  have hil : i < ts.length := (List.getElem?_eq_some_iff.1 hu).1
  have hbl : Below W2.heap.size W2 (W2.alloc (.cells x.cells.toArray T)) := below_al (Below.refl _ _) _
  have hrow2 := (h.row.up hb).up hbl
  obtain ⟨S, hS1, hS2⟩ := hx
  obtain ⟨xs0, S0, hr0, _⟩ := id h.row
  refine wpList_push (us := [u]) (ys := [x]) (S' := S) (W2.alloc (.cells x.cells.toArray T)) hgd s z ho hs hrow2 rfl (fun j y u' hy hu' => ?_) (fun k hk => ?_) (fun g hg hk => ?_) W2.heap.size 1 rfl hz T ?_ ?_ ?_ ?_
  · have hj : j = 0 := by
      have := (List.getElem?_eq_some_iff.1 hy).1
      simp at this
      exact this
    subst hj
    simp at hy hu'
    subst hy hu'
    exact hS1.keep (still_below hbl (fun k hk => (hS2 k hk).2))
  · have h1 := hS2 k hk
    have h2 := h.low.size
    have h3 := hbl.size
    exact ⟨.inr (by rcases h1.1 with ⟨_, h⟩ | h <;> omega), by omega⟩
  · have h1 := (own_lt hr0 hg).2
    rcases (hS2 g hk).1 with ⟨_, h⟩ | h <;> omega
  · have := Blk.new W2 T x.cells.toArray
    simpa [vcs] using this
  · simp
    omega
  · have h2 := h.low.size
    have h3 := hb.size
    simp
    omega
  · intro v' w' hr hb' hv'
    obtain ⟨A', c', rfl⟩ := hv'
    have e1 : (ts.take i).length + [u].length = i + 1 := by simp; omega
    rw [e1]
    refine hK A' c' w' ⟨?_, ?_⟩
    · have h2 := h.low.size
      have h3 := hb.size
      exact ((h.low.trans (hb.mono h2)).trans (hbl.mono (by omega))).trans hb'
    · rw [List.take_add_one, hu]
      rw [e1] at hr
      exact hr
theorem infoVal2 : (Tryz.prog.info? 26).map (fun i => (i.zero, i.size, i.bytes)) = some (some (.agg #[.int .i64 0, .bool false, .slice none 0 0, .int .u64 0, .string ⟨#[]⟩, .slice none 0 0]), 6, 88) := info_val
theorem tellAll_any (d n : Nat) {ts : List Tr} {A : Option Addr} {c : Nat} {ys : List Value} {S : Nat → Prop} {w : World} (hn : n ≤ 900) (hnt : ts.length = n) (hl : ys.length = n) (hr : Rd w S A ys) (hS : ∀ k, S k → k < w.heap.size) (hone : ∀ y ∈ ys, ∃ T x, y = .iface T x)
    (IH : ∀ (i : Nat) (u : Tr) (y : Value) (W : World), ts[i]? = some u → ys[i]? = some y → Below w.heap.size w W → Calls Tryz.prog 48 #[y] W (TellOut d u W)) :
    Calls Tryz.prog 79 #[.slice A n c] w fun e w' => ∃ A' c', e = .returned (.slice A' n c') ∧ TaR d ts w n (.slice A' n c') w' := by
  obtain ⟨ti, hi1, hi2, hi3, hi4⟩ := info_parts infoVal2
  have HR := Lib.hid hr
  have HS := Lib.hid hS
  have HO := Lib.hid hone
  have HIH := Lib.hid IH
  have HL := Lib.hid hl
  have HNT := Lib.hid hnt
  clear hr hS hone IH hl hnt
  go_enter Tryz.func79, Tryz.ntmps79
  go_wp2_with (at_make; refine wpList_make_own _ rfl _ _ 24 rfl w.heap.size 26 ti _ 6 Tryz.underlying24 hi1 hi2 hi3 _ _ _ n rfl rfl rfl (by rw [hi4]; omega) (by unfold maxLen; omega) (Nat.le_refl _) ?_; intro w1 hown hgr)
  have h0 : Hid (TaR d ts w 0 (.slice (some ⟨w.heap.size, 0, none⟩) 0 n) w1) := Lib.hid ⟨⟨hgr.os, hgr.tape, hgr.output, hgr.size, fun k hk => hgr.block k hk (by simp)⟩, ⟨[], fun _ => False, by simpa [vcs] using hown, rfl, fun i y u hy => by simp at hy, fun k hk => hk.elim, fun g _ h => h⟩⟩
  clear hown hgr
  go_wp2
  go_loopw [3, 11] (fun sv iv wr => ∃ (i : Nat) (A' : Option Addr) (cc : Nat), sv = .slice A' i cc ∧ iv = .int .i64 i ∧ i ≤ n ∧ Hid (TaR d ts w i (.slice A' i cc) wr)) (fun _ iv _ => n - (intOf iv).toNat)
  case atStart => exact ⟨0, _, _, rfl, rfl, Nat.zero_le _, h0⟩
  case round =>
    obtain ⟨i, A', cc, rfl, rfl, hi, HT⟩ := hrel
    clear h0
    by_cases hlt : i < n
    · have HME := Lib.hid (ms_lt hlt)
      have HSI := Lib.hid (Nat.succ_le_of_lt hlt)
      have hlen := HL.out
      have hnt := HNT.out
      obtain ⟨TY, xy, hy⟩ := HO.out ys[i] (List.getElem_mem (by omega))
      have hy2 : ys[i]? = some (.iface TY xy) := by rw [← hy]; exact List.getElem?_eq_getElem (by omega)
      have hu : ts[i]? = some ts[i] := List.getElem?_eq_getElem (by omega)
      obtain ⟨b, o, rfl, hSb, hce0⟩ := HR.out.at_ (k := i) (by omega)
      rw [hy] at hce0
      have hce : wr.cell? ⟨b, o + i, none⟩ = some (.iface TY xy) := (World.cell?_of_block (a := ⟨b, o + i, none⟩) (HT.out.low.block b (HS.out b hSb))).trans hce0
      have HC := Lib.hid (HIH.out i ts[i] (.iface TY xy) wr hu hy2 HT.out.low)
      have HU := Lib.hid hu
      have HI1 : Hid (i ≤ 900) := Lib.hid (by omega)
      have hi1 : (i : Int) < (n : Int) := Int.ofNat_lt.2 hlt
      generalize ts[i] = u at HC HU
      clear hlen hnt hy hy2 hu hce0
      go_wp2_with fail
      refine HC.out.mono ?_
      rintro e w2 ⟨x, rfl, hx, hb2⟩
      obtain ⟨kk, kn, Ak, lk, ck, kb, ks, Aq, lq, cq, rfl⟩ := hx.hv.shape
      have HX := Lib.hid hx
      have HB2 := Lib.hid hb2
      clear hx hb2 HC hce
      go_wp2_with (at_builtin; refine wpList_ta HT.out HU.out HX.out HB2.out HI1.out 26 rfl _ _ rfl rfl rfl ?_; intro A2 c2 w5 hv5; have HV5 := Lib.hid hv5; clear hv5)
      exact ⟨⟨i + 1, A2, c2, rfl, rfl, HSI.out, HV5⟩, HME.out⟩
    · have hin : i = n := by omega
      subst hin
      go_wp2
      go_ret
      exact ⟨A', cc, rfl, HT.out⟩
end Go.Proofs.YtloloifngbmibaaGreatDoor
set_option linter.unusedVariables false
set_option linter.unusedSimpArgs false
set_option maxRecDepth 4000
namespace Go.Proofs.YtloloifngbmibaaGreatDoor
open Go.RowKit

def pairsV (ga n : Nat) : List Value := (List.range n).map (fun i => .slice (some ⟨ga, 2 * i, none⟩) 2 2)
theorem infoTup : (Tryz.prog.info? 101).map (fun i => (i.zero, i.size, i.bytes)) = some (some (.slice none 0 0), 1, 24) := by kernel_rfl
/-- items under way. -/
structure ItR (w : World) (es : List En) (n ga gt : Nat) (j : Nat) (W : World) : Prop where
  low : Below w.heap.size w W
  hga : w.heap.size ≤ ga ∧ ga ≠ gt
  arr : ∃ cur : Array Value, Blk W ga 64 cur ∧ cur.size = 2 * n ∧ ∀ i, i < 2 * j → cur[i]? = (flatE es)[i]?
  row : W.ownsRow w.heap.size 101 1 (.slice (some ⟨gt, 0, none⟩) j n) j ((pairsV ga n).take j)
theorem ItR.start {w w1 w2 : World} {es : List En} {n m : Nat} {zs : List Value} (hm : m = 2 * n) (hown : w1.ownsRow w.heap.size 101 1 (.slice (some ⟨w.heap.size, 0, none⟩) 0 n) 0 []) (hgr : w.grownBy w1 none) (hown2 : w2.ownsRow w1.heap.size 64 1 (.slice (some ⟨w1.heap.size, 0, none⟩) m m) m zs) (hgr2 : w1.grownBy w2 none) : ItR w es n w1.heap.size w.heap.size 0 w2 := by
  have hlt : w.heap.size < w1.heap.size := by
    have := (own_lt hown (g := w.heap.size) rfl).2
    exact this
  refine ⟨⟨hgr2.os.trans hgr.os, hgr2.tape.trans hgr.tape, hgr2.output.trans hgr.output, Nat.le_trans hgr.size hgr2.size, fun k hk => (hgr2.block k (by omega) (by simp)).trans (hgr.block k hk (by simp))⟩, ⟨Nat.le_of_lt hlt, by omega⟩, ?_, ?_⟩
  · rcases hown2.2 with ⟨h, _⟩ | ⟨g, cap, cur, e1, _, h, _, _, hs, _⟩
    · cases h
    · injection e1 with e1 _ e3
      injection e1 with e1
      injection e1 with e1
      subst e1 e3
      exact ⟨cur, h, by rw [hs, hm]; omega, fun i hi => by omega⟩
  · exact own_keep hown (fun g cs hg hb => hgr2.block g hb.lt (by simp))
theorem pairsV_take {ga n j : Nat} (h : j < n) : (pairsV ga n).take (j + 1) = (pairsV ga n).take j ++ [.slice (some ⟨ga, 2 * j, none⟩) 2 2] := by
  rw [List.take_add_one]
  unfold pairsV
  simp [h]
theorem wpList_it {w : World} {es : List En} {n ga gt j : Nat} {W : World} (h : ItR w es n ga gt j W) (hj : j < n) (hn : n ≤ 8) {off : Nat} (hoff : off = 2 * j) {k v : Value} (hk : (flatE es)[2 * j]? = some k) (hv : (flatE es)[2 * j + 1]? = some v) (T : TypeId) {W2 : World} (hW2 : (W.setCell ⟨ga, off, none⟩ k).setCell ⟨ga, off + 1, none⟩ v = W2)
    {ops : Array Oper} {rest : List Oper} {o : Oper} {a : Act} {Q : Exit → Act → World → Prop} (hgd : o.guard = none) (s z : Operand)
    (ho : o.op = .call { callee := .builtin .append, args := #[s, z], argTypes := #[143, 143] })
    (hs : a.eval s = .slice (some ⟨gt, 0, none⟩) j n) (hz : a.eval z = .slice (some ⟨W2.heap.size, 0, none⟩) 1 1)
    (hK : ∀ w', ItR w es n ga gt (j + 1) w' → wpList Tryz.prog ops Q rest (a.put o.dst (.slice (some ⟨gt, 0, none⟩) (j + 1) n)) w') : wpList Tryz.prog ops Q (o :: rest) a (W2.alloc (.cells #[.slice (some ⟨ga, off, none⟩) 2 2] T)) := by
  subst hoff
  obtain ⟨ti, hi1, hi2, hi3, hi4⟩ := info_parts infoTup
  obtain ⟨hlow, hga, ⟨cur, hB, hcs, hcur⟩, hrow⟩ := h
  have hb2 : But (fun k => k = ga) W W2 := by rw [← hW2]; exact ((But.refl (fun k => k = ga) W).set (p := ⟨ga, 2 * j, none⟩) rfl _).set (p := ⟨ga, 2 * j + 1, none⟩) rfl _
  have hB2 : Blk W2 ga 64 ((cur.setIfInBounds (2 * j) k).setIfInBounds (2 * j + 1) v) := by rw [← hW2]; exact (hB.set _ _).set _ _
  have hbl : Below W2.heap.size W2 (W2.alloc (.cells #[.slice (some ⟨ga, 2 * j, none⟩) 2 2] T)) := below_al (Below.refl _ _) _
  have hgl := own_lt hrow (g := gt) rfl
  have hrow2 : (W2.alloc (.cells #[.slice (some ⟨ga, 2 * j, none⟩) 2 2] T)).ownsRow w.heap.size 101 1 (.slice (some ⟨gt, 0, none⟩) j n) j ((pairsV ga n).take j) := own_below (own_keep hrow (fun g cs hg hb => by
    have e : g = gt := (Option.some.inj hg).symm
    subst e
    exact hb2.block g hgl.2 (fun h => hga.2 h.symm))) hbl
  refine wpList_append_fits _ hgd s z 143 ho w.heap.size 101 ti 1 Tryz.underlying143 hi1 hi3 gt j n _ hs hrow2 ⟨W2.heap.size, 0, none⟩ 1 1 [.slice (some ⟨ga, 2 * j, none⟩) 2 2] hz rfl ?_ (fun v hv => by rw [List.mem_singleton.1 hv]; rfl) (by omega) (fun w' hr hg => hK w' ?_)
  · intro j' v' hj'
    have hj0 : j' = 0 := by
      have := (List.getElem?_eq_some_iff.1 hj').1
      simp at this
      exact this
    subst hj0
    simp at hj'
    subst hj'
    rw [show ((⟨W2.heap.size, 0, none⟩ : Addr).add 0) = ⟨W2.heap.size, 0, none⟩ from rfl, (Blk.new W2 T _).cell]
    rfl
  · have hsz : W.heap.size ≤ W2.heap.size := hb2.size
    have hs3 := hbl.size
    have hk4 : ∀ k, k < W2.heap.size → k ≠ gt → w'.heap[k]? = W2.heap[k]? := fun k hk hne => (hg.block k (Nat.lt_of_lt_of_le hk hs3) (fun e => hne (Option.some.inj e))).trans (hbl.block k hk)
    refine ⟨?_, hga, ⟨_, hB2.keep (hk4 ga hB2.lt hga.2), by simp [hcs], ?_⟩, ?_⟩
    · have h2 : Below w.heap.size W W2 := hb2.below hlow.size (fun k hk => by subst hk; exact hga.1)
      have h3 := (hlow.trans h2).trans (hbl.mono (Nat.le_trans hlow.size hsz))
      exact h3.grown hg (Nat.le_trans hlow.size (Nat.le_trans hsz hs3)) (fun k hk => by have := Option.some.inj hk; omega)
    · intro i hi
      by_cases h1 : i = 2 * j + 1
      · subst h1
        rw [hv]
        exact Array.getElem?_setIfInBounds_self_of_lt (by rw [Array.size_setIfInBounds]; omega)
      · by_cases h2 : i = 2 * j
        · subst h2
          rw [hk, Array.getElem?_setIfInBounds_ne (by omega)]
          exact Array.getElem?_setIfInBounds_self_of_lt (by omega)
        · rw [Array.getElem?_setIfInBounds_ne (by omega), Array.getElem?_setIfInBounds_ne (by omega)]
          exact hcur i (by omega)
    · rw [pairsV_take hj]
      exact hr
theorem ptE_lt {g n j q : Nat} (hq : q = 1 + (7 - j) * 5) (hn : n ≤ 8) (hlt : j < n) : (match ptE g n (j + 1) with | .pointer (some a) => a.off + 1 | _ => 0) < q + 1 := by
  unfold ptE
  by_cases h : j + 1 < n
  · rw [if_pos h]
    show 1 + (7 - (j + 1)) * 5 + 1 < q + 1
    omega
  · rw [if_neg h]
    show 0 < q + 1
    omega
theorem items_any (g : Nat) (TH : TypeId) (es : List En) (fz : Bool) (n : Nat) (hn : n ≤ 8) (hnl : es.length = n) (w : World) (hb : Blk w g TH (htC g es fz).toArray) (hone : ∀ e ∈ es, (∃ T x, e.k = .iface T x) ∧ ∃ T x, e.v = .iface T x) :
    Calls Tryz.prog 102 #[.pointer (some ⟨g, 0, none⟩)] w fun e w' => ∃ ga gt, e = .returned (.slice (some ⟨gt, 0, none⟩) n n) ∧ ItR w es n ga gt n w' := by
  have hne : ∀ (W : World) (q : Nat), (binOp .neq 160 (.pointer (some ⟨g, q, none⟩)) (.pointer none)).run Tryz.prog W = .ok (.bool true) W := fun W q => by kernel_rfl
  have hno : ∀ (W : World), (binOp .neq 160 (.pointer none) (.pointer none)).run Tryz.prog W = .ok (.bool false) W := fun W => by kernel_rfl
  obtain ⟨ti, hi1, hi2, hi3, hi4⟩ := info_parts infoTup
  obtain ⟨tv, hv1, hv2, hv3, hv4⟩ := info_parts infoV
  have h42 := ht_len hb
  rw [hnl] at h42
  have HB := Lib.hid hb
  have HN := Lib.hid hnl
  have HO := Lib.hid hone
  have gl := hb.lt
  obtain ⟨m, hm⟩ : ∃ m, m = 2 * n := ⟨_, rfl⟩
  have hmul : IntKind.u32.wrap ((n : Int) * 2) = (m : Int) := by rw [IntKind.wrap_u32]; omega
  have HM := Lib.hid hm
  have hm16 : m ≤ 16 := by omega
  clear hb hone hnl hm
  go_enter Tryz.func102, Tryz.ntmps102
  go_wp2_with (first
    | (at_make; refine wpList_make_own _ rfl _ _ 143 rfl w.heap.size 101 ti _ 1 Tryz.underlying143 hi1 hi2 hi3 _ _ _ n rfl rfl rfl (by rw [hi4]; omega) (by unfold maxLen; omega) (Nat.le_refl _) ?_; intro w1 hown hgr; have HOW := Lib.hid hown; have HGR := Lib.hid hgr; have h42' := (World.cell?_of_block (a := ⟨g, 42, none⟩) (hgr.block g gl (by simp))).trans h42; have HGS := Lib.hid hgr.size; clear hown hgr h42)
    | (at_make; refine wpList_make_full _ rfl _ _ 96 rfl w1.heap.size 64 tv _ 1 Tryz.underlying96 hv1 hv2 hv3 _ _ _ _ m rfl rfl (by first | rfl | exact hmul) (by first | rfl | exact hmul) (by rw [hv4]; omega) (by unfold maxLen; omega) (Nat.le_refl _) ?_; intro w2 hown2 hgr2; have HST := Lib.hid (ItR.start (es := es) HM.out HOW.out HGR.out hown2 hgr2); have h44 := (World.cell?_of_block (a := ⟨g, 44, none⟩) (HST.out.low.block g gl)).trans (htC_head HB.out).1; rw [HN.out] at h44; clear hown2 hgr2 HOW HGR h42'))
  go_loopw [3, 4, 5] (fun iv av pv wr => ∃ (j mm : Nat) (A : Option Addr), iv = .slice (some ⟨w.heap.size, 0, none⟩) j n ∧ av = .slice A mm mm ∧ pv = ptE g n j ∧ j ≤ n ∧ Hid (mm = 2 * (n - j) ∧ (j < n → A = some ⟨w1.heap.size, 2 * j, none⟩)) ∧ Hid (ItR w es n w1.heap.size w.heap.size j wr)) (fun _ _ pv _ => match pv with | .pointer (some a) => a.off + 1 | _ => 0)
  case atStart => exact ⟨0, m, _, rfl, rfl, rfl, Nat.zero_le _, Lib.hid ⟨by rw [HM.out]; rfl, fun _ => rfl⟩, HST⟩
  case round =>
    obtain ⟨j, mm, A, rfl, rfl, rfl, hj, HO1, HI⟩ := hrel
    clear HST h44
    by_cases hlt : j < n
    · obtain ⟨hmm, hA⟩ := HO1.out
      have hA := hA hlt
      subst hA
      have hjl : j < es.length := by rw [HN.out]; exact hlt
      obtain ⟨hk, hv, hnx⟩ := htC_entry HB.out (by rw [HN.out]; exact hn) j hjl
      have hfe := flatE_k hjl
      obtain ⟨⟨TK, xk, ek⟩, TV, xv, ev⟩ := HO.out es[j] (List.getElem_mem hjl)
      rw [ek] at hk hfe
      rw [ev] at hv hfe
      rw [HN.out] at hnx
      have HFE := Lib.hid hfe
      have HNX := Lib.hid hnx
      have hk' := (World.cell?_of_block (a := ⟨g, _, none⟩) (HI.out.low.block g gl)).trans hk
      have hv' := (World.cell?_of_block (a := ⟨g, _, none⟩) (HI.out.low.block g gl)).trans hv
      have hpt : ptE g n j = .pointer (some ⟨g, 1 + (7 - j) * 5, none⟩) := by unfold ptE; rw [if_pos hlt]
      obtain ⟨q, hq⟩ : ∃ q, q = 1 + (7 - j) * 5 := ⟨_, rfl⟩
      have HQ := Lib.hid hq
      obtain ⟨ga, hga⟩ : ∃ ga, ga = w1.heap.size := ⟨_, rfl⟩
      have HGA := Lib.hid hga
      obtain ⟨off, hoff⟩ : ∃ off, off = 2 * j := ⟨_, rfl⟩
      have HOF := Lib.hid hoff
      rw [hpt]
      rw [← hga] at HI ⊢
      rw [← hoff]
      rw [← hq] at hk' hv' HNX ⊢
      obtain ⟨cur, hB, hcs, _⟩ := HI.out.arr
      have hgg : ga ≠ g := by have := HI.out.hga.1; omega
      obtain ⟨z0, hz0⟩ : ∃ z, cur[off]? = some z := ⟨_, Array.getElem?_eq_getElem (by omega)⟩
      obtain ⟨z1, hz1⟩ : ∃ z, cur[off + 1]? = some z := ⟨_, Array.getElem?_eq_getElem (by omega)⟩
      have a0 := (hB.cell off).trans hz0
      have a1 := (hB.cell (off + 1)).trans hz1
      have f0 := hB.frozen off
      have f1 := hB.frozen (off + 1)
      have al := hB.lt
      have m2 : 2 ≤ mm := by omega
      have m2' : (2 : Int) ≤ (mm : Int) := by omega
      have HMM := Lib.hid hmm
      have HBL := Lib.hid hB
      have HZ1 := Lib.hid hz1
      have HJ := Lib.hid hlt
      have HGR : Hid (g < wr.heap.size) := Lib.hid (by have := HI.out.low.size; omega)
      clear hmm hfe hnx hk hv hpt hq hga hoff hB hcs hz0 hz1 ek ev
      go_upto_region 9 with fail
      generalize hW3 : wr.setCell ⟨ga, off, none⟩ (.iface TK xk) = W3
      have hb3 : But (fun k => k = ga) wr W3 := by rw [← hW3]; exact (But.refl (fun k => k = ga) wr).set (p := ⟨ga, off, none⟩) rfl _
      have hB3 : Blk W3 ga 64 (cur.setIfInBounds off (.iface TK xk)) := by rw [← hW3]; exact HBL.out.set _ _
      have hv3 := (hb3.cell HGR.out (fun h => hgg h.symm) (q + 2)).trans hv'
      have a3 := (hB3.cell (off + 1)).trans ((Array.getElem?_setIfInBounds_ne (by omega)).trans HZ1.out)
      have f3 := hB3.frozen (off + 1)
      have al3 := hB3.lt
      have HW3 := Lib.hid hW3
      clear hv' hk' a0 a1 f0 f1 al hW3 hb3 hB3
      go_upto_region 10 with fail
      generalize hW4 : W3.setCell ⟨ga, off + 1, none⟩ (.iface TV xv) = W4
      have HW4 : Hid ((wr.setCell ⟨ga, off, none⟩ (.iface TK xk)).setCell ⟨ga, off + 1, none⟩ (.iface TV xv) = W4) := Lib.hid (by rw [HW3.out]; exact hW4)
      clear hv3 a3 f3 al3 hW4 HW3
      go_wp2_with (at_builtin; refine wpList_it HI.out HJ.out hn HOF.out HFE.out.1 HFE.out.2 101 HW4.out rfl _ _ rfl rfl rfl ?_; intro w5 hv5; have HV5 := Lib.hid hv5; have hnx := (World.cell?_of_block (a := ⟨g, q + 3, none⟩) (hv5.low.block g gl)).trans HNX.out; clear hv5)
      refine ⟨⟨j + 1, mm - 2, _, rfl, rfl, rfl, by omega, Lib.hid ⟨by have := HMM.out; omega, fun h => ?_⟩, HV5⟩, ptE_lt HQ.out hn HJ.out⟩
      rw [if_neg (by have := HMM.out; omega), HOF.out]
      rfl
    · have hin : j = n := by omega
      subst hin
      rw [show ptE g j j = .pointer none by unfold ptE; rw [if_neg hlt]]
      go_wp2
      go_ret
      exact ⟨_, _, rfl, HI.out⟩
end Go.Proofs.YtloloifngbmibaaGreatDoor
set_option linter.unusedVariables false
set_option linter.unusedSimpArgs false
set_option maxRecDepth 4000
namespace Go.Proofs.YtloloifngbmibaaGreatDoor
open Go.RowKit

theorem dictItems_any (g : Nat) (es : List En) (fz : Bool) (n : Nat) (hn : n ≤ 8) (hnl : es.length = n) (w : World) (hb : Blk w g 174 (htC g es fz).toArray) (hone : ∀ e ∈ es, (∃ T x, e.k = .iface T x) ∧ ∃ T x, e.v = .iface T x) :
    Calls Tryz.prog 77 #[.pointer (some ⟨g, 0, none⟩)] w fun e w' => ∃ ga gt, e = .returned (.slice (some ⟨gt, 0, none⟩) n n) ∧ ItR w es n ga gt n w' := by
  have HC := Lib.hid (items_any g _ es fz n hn hnl w hb hone)
  clear hb hone hnl
  go_enter Tryz.func77, Tryz.ntmps77
  go_wp2_with fail
  refine HC.out.mono ?_
  rintro e w1 ⟨ga, gt, rfl, hi⟩
  have HI := Lib.hid hi
  clear hi HC
  go_wp2
  go_ret
  exact ⟨_, _, rfl, HI.out⟩
theorem own_lower {W : World} {base base' n size : Nat} {e : TypeId} {v : Value} {xs : List Value} (h : W.ownsRow base e size v n xs) (hb : base' ≤ base) : W.ownsRow base' e size v n xs := by
  refine ⟨h.1, ?_⟩
  rcases h.2 with h1 | ⟨g, cap, cur, h1, h2, h3⟩
  · exact .inl h1
  · exact .inr ⟨g, cap, cur, h1, Nat.le_trans hb h2, h3⟩
theorem step_pv {B1 i cc : Nat} {A : Option Addr} {xs : List Value} {TY TZ : TypeId} {xy xz : Value} (W1 : World) (h : W1.ownsRow B1 64 1 (.slice A i cc) i xs) (hB1 : B1 ≤ W1.heap.size) (hi : i ≤ 1000) (T : TypeId)
    {ops : Array Oper} {o : Oper} {a : Act} {KK : Act → World → Prop} {Q : Exit → Act → World → Prop} {E : Prop} (hgd : o.guard = none) (s z : Operand)
    (ho : o.op = .call { callee := .builtin .append, args := #[s, z], argTypes := #[96, 96] })
    (hs : a.eval s = .slice A i cc) (hz : a.eval z = .slice (some ⟨W1.heap.size, 0, none⟩) 2 2)
    (hK : ∀ A' c' w', w'.ownsRow B1 64 1 (.slice A' (i + 2) c') (i + 2) (xs ++ [.iface TY xy, .iface TZ xz]) → Below B1 W1 w' → KK (a.put o.dst (.slice A' (i + 2) c')) w') : if Region.wanted o (yielded ops a.tmps) = true then o.wp Tryz.prog a (W1.alloc (.cells #[.iface TY xy, .iface TZ xz] T)).drew KK Q else E := by
  have hbl : Below B1 W1 (W1.alloc (.cells #[.iface TY xy, .iface TZ xz] T)).drew := ((Below.refl _ _).alloc hB1 _).drew
  refine step_append_rd _ hgd s z 96 ho B1 64 .nilIface 1 16 Tryz.underlying96 infoV rfl (by decide) (.slice A i cc) i xs hs (own_below h ((below_al (Below.refl _ _) _).drew)) (fun k => k = W1.heap.size) (some ⟨W1.heap.size, 0, none⟩) 2 2 [.iface TY xy, .iface TZ xz] hz rfl (Rd.of_blk (ys := []) (by simpa using (Blk.new W1 T #[.iface TY xy, .iface TZ xz]).drew) rfl) (fun u hu => by
    simp only [List.mem_cons, List.not_mem_nil, or_false] at hu
    rcases hu with rfl | rfl <;> rfl) (by unfold maxLen; omega) (by omega) (by simp; omega) ?_
  intro v' w4 hrow hg _
  obtain ⟨A', cc', rfl, _⟩ := own_rd hrow
  exact hK A' cc' w4 hrow (hbl.grown hg (Nat.le_trans hB1 hbl.size) (fun k hk => (own_lt h hk).1))
theorem pairsV_at {ga n j : Nat} (h : j < n) : (pairsV ga n)[j]? = some (.slice (some ⟨ga, 2 * j, none⟩) 2 2) := by
  unfold pairsV
  simp [h]
/-- A pair's cells. -/
theorem ItR.cells {w : World} {es : List En} {n ga gt : Nat} {W : World} (h : ItR w es n ga gt n W) (hl : es.length = n) {j : Nat} (hj : j < n) (hes : j < es.length) : W.cell? ⟨gt, j, none⟩ = some (.slice (some ⟨ga, 2 * j, none⟩) 2 2) ∧ W.cell? ⟨ga, 2 * j, none⟩ = some es[j].k ∧ W.cell? ⟨ga, 2 * j + 1, none⟩ = some es[j].v ∧ gt < W.heap.size ∧ ga < W.heap.size := by
  obtain ⟨hlow, hga, ⟨cur, hB, hcs, hcur⟩, hrow⟩ := h
  obtain ⟨A, c, e1, _, hrd, _⟩ := own_rd hrow
  injection e1 with e1
  subst e1
  have hl2 : (pairsV ga n).take n = pairsV ga n := List.take_of_length_le (by simp [pairsV])
  rw [hl2] at hrd
  obtain ⟨b, o, e2, _, hc⟩ := hrd (by simp [pairsV]; omega)
  injection e2 with e2
  injection e2 with e2 e3
  subst e2 e3
  have hk := flatE_k hes
  refine ⟨?_, ?_, ?_, (own_lt hrow (g := gt) rfl).2, hB.lt⟩
  · have := hc j _ (pairsV_at hj)
    simpa using this
  · rw [hB.cell]
    exact (hcur _ (by omega)).trans hk.1
  · rw [hB.cell]
    exact (hcur _ (by omega)).trans hk.2
theorem flatE_take2 {es : List En} {j : Nat} (h : j < es.length) : (flatE es).take (2 * (j + 1)) = (flatE es).take (2 * j) ++ [es[j].k, es[j].v] := by
  have hk := flatE_k h
  rw [show 2 * (j + 1) = 2 * j + 1 + 1 by omega, List.take_add_one, List.take_add_one, hk.1, hk.2]
  simp
/-- paired under way. -/
structure PrR (B : Nat) (w : World) (xs : List Value) (k : Nat) (v : Value) (W : World) : Prop where
  low : Below B w W
  row : W.ownsRow B 64 1 v k xs
theorem PrR.push {B j k : Nat} {w1 wr w5 : World} {es : List En} {v v' a b : Value} (h : PrR B w1 ((flatE es).take k) k v wr) (hk : k = 2 * j) (hf : (flatE es).take (2 * (j + 1)) = (flatE es).take (2 * j) ++ [a, b]) (hr : w5.ownsRow B 64 1 v' (k + 2) ((flatE es).take k ++ [a, b])) (hb : Below B wr w5) : PrR B w1 ((flatE es).take (k + 2)) (k + 2) v' w5 := by
  subst hk
  refine ⟨h.low.trans hb, ?_⟩
  rw [show 2 * j + 2 = 2 * (j + 1) by omega, hf]
  exact hr
theorem paired_any (g : Nat) (es : List En) (fz : Bool) (n : Nat) (hn : n ≤ 8) (hnl : es.length = n) (w : World) (hb : Blk w g 174 (htC g es fz).toArray) (hone : ∀ e ∈ es, (∃ T x, e.k = .iface T x) ∧ ∃ T x, e.v = .iface T x) :
    Calls Tryz.prog 80 #[.pointer (some ⟨g, 0, none⟩)] w fun e w' => ∃ A c, e = .returned (.slice A (2 * n) c) ∧ PrR w.heap.size w (flatE es) (2 * n) (.slice A (2 * n) c) w' := by
  have HC := Lib.hid (dictItems_any g es fz n hn hnl w hb hone)
  have HO := Lib.hid hone
  have HN := Lib.hid hnl
  clear hb hone hnl
  go_enter Tryz.func80, Tryz.ntmps80
  go_wp2_with fail
  refine HC.out.mono ?_
  rintro e w1 ⟨ga, gt, rfl, hi⟩
  have HI := Lib.hid hi
  clear hi HC
  go_wp2
  go_loopw [2, 8] (fun sv iv wr => ∃ (j k : Nat) (A : Option Addr) (cc : Nat), sv = .slice A k cc ∧ iv = .int .i64 j ∧ j ≤ n ∧ Hid (k = 2 * j) ∧ Hid (PrR w1.heap.size w1 ((flatE es).take k) k (.slice A k cc) wr)) (fun _ iv _ => n - (intOf iv).toNat)
  case atStart => exact ⟨0, 0, none, 0, rfl, rfl, Nat.zero_le _, Lib.hid rfl, Lib.hid ⟨Below.refl _ _, by simpa using World.ownsRow_nil w1 w1.heap.size 64 1⟩⟩
  case round =>
    obtain ⟨j, k, A, cc, rfl, rfl, hj, HK, HP⟩ := hrel
    by_cases hlt : j < n
    · have HME := Lib.hid (ms_lt hlt)
      have HSI := Lib.hid (Nat.succ_le_of_lt hlt)
      have hi1 : (j : Int) < (n : Int) := Int.ofNat_lt.2 hlt
      have hjl : j < es.length := by rw [HN.out]; exact hlt
      obtain ⟨c1, c2, c3, l1, l2⟩ := HI.out.cells HN.out hlt hjl
      obtain ⟨⟨TK, xk, ek⟩, TV, xv, ev⟩ := HO.out es[j] (List.getElem_mem hjl)
      have HF := Lib.hid (flatE_take2 hjl)
      rw [ek, ev] at HF
      rw [ek] at c2
      rw [ev] at c3
      have d1 := (World.cell?_of_block (a := ⟨gt, j, none⟩) (HP.out.low.block gt l1)).trans c1
      have d2 := (World.cell?_of_block (a := ⟨ga, 2 * j, none⟩) (HP.out.low.block ga l2)).trans c2
      have d3 := (World.cell?_of_block (a := ⟨ga, 2 * j + 1, none⟩) (HP.out.low.block ga l2)).trans c3
      obtain ⟨off, hoff⟩ : ∃ off, off = 2 * j := ⟨_, rfl⟩
      rw [← hoff] at d1 d2 d3
      have HI1 : Hid (k ≤ 1000) := Lib.hid (by have := HK.out; omega)
      have HSZ := Lib.hid HP.out.low.size
      clear c1 c2 c3 l1 l2 ek ev hoff
      go_upto_region 4 with fail
      go_region_law (refine step_pv wr HP.out.row HSZ.out HI1.out 64 rfl _ _ rfl rfl rfl ?_; intro A' c' w5 hr5 hb5; have HR5 := Lib.hid hr5; have HB5 := Lib.hid hb5; clear hr5 hb5)
      all_goals
        have HP5 := Lib.hid (HP.out.push HK.out HF.out HR5.out HB5.out)
        have HK5 : Hid (k + 2 = 2 * (j + 1)) := Lib.hid (by have := HK.out; omega)
        clear HR5 HB5 d1 d2 d3 HF
        go_wp2
        exact ⟨⟨j + 1, k + 2, A', c', rfl, rfl, HSI.out, HK5, HP5⟩, HME.out⟩
    · have hin : j = n := by omega
      subst hin
      have hk := HK.out
      subst hk
      have HRW := Lib.hid HP.out.row
      have HLO : Hid (Below w.heap.size w wr) := Lib.hid (HI.out.low.trans (HP.out.low.mono HI.out.low.size))
      have HW1 : Hid (w.heap.size ≤ w1.heap.size) := Lib.hid HI.out.low.size
      have HTK : Hid ((flatE es).take (2 * j) = flatE es) := Lib.hid (List.take_of_length_le (by rw [flatE_len, HN.out]; exact Nat.le_refl _))
      go_wp2
      go_ret
      refine ⟨A, cc, rfl, HLO.out, ?_⟩
      rw [HTK.out] at HRW
      exact (show wr.ownsRow w.heap.size 64 1 _ _ _ from own_lower HRW.out HW1.out)
end Go.Proofs.YtloloifngbmibaaGreatDoor
