/- Telling: any value. What is frozen can't be changed: each method answers an error. Trying to change what is frozen: it is never done. Trying to change what is frozen; the part of a value at a place. -/
import Derived.Test.YtloloifngbmibaaGreatDoorM35
import Derived.WalkMore
set_option linter.unusedVariables false
set_option linter.unusedSimpArgs false
set_option maxRecDepth 4000
namespace Go.Proofs.YtloloifngbmibaaGreatDoor
open Go.RowKit

theorem tell_flat {d a b : Nat} {t : Tr} {v : Value} {w : World} (h : FVF a b t w v) (hb : b ≤ w.heap.size) (g : GoodH t) (hkids : t.kids = []) : Calls Tryz.prog 48 #[v] w (TellOut d t w) := by
  cases h with
  | none h => exact tl_none g h hkids w
  | bool h =>
    rcases g.bool h with hb | hb
    · rw [show (t.bits == 1) = false by rw [hb]; rfl]
      exact tl_false hb g h hkids w
    · rw [show (t.bits == 1) = true by rw [hb]; rfl]
      exact tl_true hb g h hkids w
  | int v h hs => exact tl_int hs hb g h hkids
  | flt h => exact tl_flt t.bits.toNat (by have := g.b.1; omega) g h hkids w
  | str h => exact tl_str t.text rfl g h hkids w
  | byt h => exact tl_byt t.text rfl g h hkids w
theorem flatE_iface {es : List En} (h : ∀ y ∈ flatE es, ∃ T x, y = .iface T x) : ∀ e ∈ es, (∃ T x, e.k = .iface T x) ∧ ∃ T x, e.v = .iface T x := by
  intro e he
  obtain ⟨i, hi, rfl⟩ := List.getElem_of_mem he
  have hk := flatE_k hi
  exact ⟨h _ (List.mem_of_getElem? hk.1), h _ (List.mem_of_getElem? hk.2)⟩
theorem FVsOf.ifc {fz : Bool} {d a b : Nat} {ts : List Tr} {W : World} {ys : List Value} (h : FVsOf (FV fz d) a b ts W ys) : ∀ y ∈ ys, ∃ T x, y = .iface T x := by
  obtain ⟨hl, Bd, _, _, _, h3⟩ := h
  intro y hy
  obtain ⟨i, hi, rfl⟩ := List.getElem_of_mem hy
  exact (h3 i _ _ (List.getElem?_eq_getElem hi) (List.getElem?_eq_getElem (by omega))).ifc

theorem tell_any : ∀ (d : Nat) {a b : Nat} {t : Tr} {v : Value} {w : World}, FV true d a b t w v → b ≤ w.heap.size → Good d t → Calls Tryz.prog 48 #[v] w (TellOut d t w) := by
  intro d
  induction d with
  | zero => exact fun h hb g => tell_flat h hb g.head g.2.2
  | succ d ih =>
    intro a b t v w h hb g
    have hg := g.2.2.1
    have IHs : ∀ {a' b' : Nat} {ys : List Value}, b' ≤ b → FVsOf (FV true d) a' b' t.kids w ys → ∀ (i : Nat) (u : Tr) (y : Value) (W : World), t.kids[i]? = some u → ys[i]? = some y → Below w.heap.size w W → Calls Tryz.prog 48 #[y] W (TellOut d u W) := fun hbb hf i u y W hu hy hW => by
      obtain ⟨hl, Bd, b0, bm, b2, b3⟩ := hf
      have hi := (List.getElem?_eq_some_iff.1 hu).1
      have hbi := Nat.le_trans (bd_le bm (show i + 1 ≤ t.kids.length by omega) (Nat.le_refl _)) (Nat.le_trans b2 (Nat.le_trans hbb hb))
      exact ih ((b3 i y u hy hu).keep (still_below hW (fun k hk => Nat.lt_of_lt_of_le hk.2 hbi))) (Nat.le_trans hbi hW.size) (hg u (List.mem_of_getElem? hu))
    rcases h with h | ⟨hk, A, c, ys, m, rfl, hc, hm, hr, hf⟩ | ⟨hk, A, c, ys, m, q, rfl, hB, hc, hm, hmg, hq, hr, hf⟩ | ⟨hk, es, q, rfl, hB, haq, hq, hz, hf⟩ | ⟨hk, es, q, rfl, hB, haq, hq, hz, hv, hf⟩
    · have hk6 : t.k < 6 := by cases h <;> omega
      exact tell_flat h hb g.head (g.leaf hk6 )
    · have hmb : m ≤ b := by
        obtain ⟨_, Bd, b0, bm, b2, _⟩ := hf
        exact Nat.le_trans b0 (Nat.le_trans (bd_le bm (Nat.zero_le _) (Nat.le_refl _)) b2)
      exact tl_tup g.head hk rfl hf.1 hr (fun k hk => Nat.lt_of_lt_of_le hk.2 (Nat.le_trans hmb hb)) hf.ifc (IHs (Nat.le_refl _) hf)
    · exact tl_list g.head hk rfl hf.1 hB hr (fun k hk => by have := hk.2; omega) hf.ifc (IHs (Nat.le_of_lt hq) hf)
    · have hl := hf.1
      rw [flatE_len] at hl
      have hkl := g.head.kl
      exact tl_dict g.head hk rfl hl (by omega) rfl rfl hB (flatE_iface hf.ifc) hf.ifc (IHs (Nat.le_of_lt hq) hf)
    · have hl := hf.1
      rw [List.length_map] at hl
      exact tl_set g.head hk rfl (g.2.2.2.2 hk).2.1 hl rfl hB (fun e he => hf.ifc _ (List.mem_map_of_mem he)) hf.ifc (IHs (Nat.le_of_lt hq) hf)
end Go.Proofs.YtloloifngbmibaaGreatDoor
set_option linter.unusedVariables false
set_option linter.unusedSimpArgs false
set_option maxRecDepth 4000
namespace Go.Proofs.YtloloifngbmibaaGreatDoor
open Go.RowKit

/-- An error, no more. -/
def ErrE (w : World) (e : Ending) (w' : World) : Prop := (∃ T p, e = .returned (.iface T (.pointer p))) ∧ Below w.heap.size w w'
def ErrE3 (w : World) (e : Ending) (w' : World) : Prop := (∃ a b T p, e = .returned (.tuple #[a, b, .iface T (.pointer p)])) ∧ Below w.heap.size w w'
def ErrE2 (w : World) (e : Ending) (w' : World) : Prop := (∃ b T p, e = .returned (.tuple #[b, .iface T (.pointer p)])) ∧ Below w.heap.size w w'
theorem errNew_fz (s : ByteArray) (w : World) : Calls Tryz.prog 88 #[.string s] w (ErrE w) := by
  go_enter Tryz.func88, Tryz.ntmps88
  go_wp2
  go_ret
  exact ⟨⟨_, _, rfl⟩, below_al (Below.refl _ _) _⟩
theorem err_ne (T : TypeId) (p : Option Addr) (W : World) : (binOp .neq 109 (.iface T (.pointer p)) .nilIface).run Tryz.prog W = .ok (.bool true) W := by kernel_rfl
theorem err_eq (T : TypeId) (p : Option Addr) (W : World) : (binOp .eql 109 (.iface T (.pointer p)) .nilIface).run Tryz.prog W = .ok (.bool false) W := by kernel_rfl
theorem chkL (g : Nat) (s : ByteArray) (w : World) (h : w.cell? ⟨g, 1, none⟩ = some (.bool true)) : Calls Tryz.prog 98 #[.pointer (some ⟨g, 0, none⟩), .string s] w (ErrE w) := by
  go_enter Tryz.func98, Tryz.ntmps98
  go_wp2_with fail
  refine (errNew_fz _ _).mono ?_
  rintro e w1 ⟨⟨T, p, rfl⟩, hb⟩
  have HB := Lib.hid hb
  clear hb
  go_wp2
  go_ret
  exact ⟨⟨_, _, rfl⟩, HB.out⟩
theorem chkH (g : Nat) (s : ByteArray) (w : World) (h : w.cell? ⟨g, 46, none⟩ = some (.bool true)) : Calls Tryz.prog 117 #[.pointer (some ⟨g, 0, none⟩), .string s] w (ErrE w) := by
  go_enter Tryz.func117, Tryz.ntmps117
  go_wp2_with fail
  refine (errNew_fz _ _).mono ?_
  rintro e w1 ⟨⟨T, p, rfl⟩, hb⟩
  have HB := Lib.hid hb
  clear hb
  go_wp2
  go_ret
  exact ⟨⟨_, _, rfl⟩, HB.out⟩
theorem appL (g : Nat) (TV : TypeId) (xv : Value) (w : World) (h : w.cell? ⟨g, 1, none⟩ = some (.bool true)) : Calls Tryz.prog 65 #[.pointer (some ⟨g, 0, none⟩), .iface TV xv] w (ErrE w) := by
  have HC := Lib.hid (chkL g ⟨#[97, 112, 112, 101, 110, 100, 32, 116, 111]⟩ w h)
  have hn := err_ne
  clear h
  go_enter Tryz.func65, Tryz.ntmps65
  go_wp2_with fail
  refine HC.out.mono ?_
  rintro e w1 ⟨⟨T, p, rfl⟩, hb⟩
  have HB := Lib.hid hb
  clear hb HC
  go_wp2
  go_ret
  exact ⟨⟨_, _, rfl⟩, HB.out⟩
theorem setL (g : Nat) (TV : TypeId) (xv : Value) (w : World) (h : w.cell? ⟨g, 1, none⟩ = some (.bool true)) : Calls Tryz.prog 67 #[.pointer (some ⟨g, 0, none⟩), .int .i64 0, .iface TV xv] w (ErrE w) := by
  have HC := Lib.hid (chkL g ⟨#[97, 115, 115, 105, 103, 110, 32, 116, 111, 32, 101, 108, 101, 109, 101, 110, 116, 32, 111, 102]⟩ w h)
  have hn := err_ne
  clear h
  go_enter Tryz.func67, Tryz.ntmps67
  go_wp2_with fail
  refine HC.out.mono ?_
  rintro e w1 ⟨⟨T, p, rfl⟩, hb⟩
  have HB := Lib.hid hb
  clear hb HC
  go_wp2
  go_ret
  exact ⟨⟨_, _, rfl⟩, HB.out⟩
theorem clrL (g : Nat) (w : World) (h : w.cell? ⟨g, 1, none⟩ = some (.bool true)) : Calls Tryz.prog 68 #[.pointer (some ⟨g, 0, none⟩)] w (ErrE w) := by
  have HC := Lib.hid (chkL g ⟨#[99, 108, 101, 97, 114]⟩ w h)
  have hn := err_ne
  clear h
  go_enter Tryz.func68, Tryz.ntmps68
  go_wp2_with fail
  refine HC.out.mono ?_
  rintro e w1 ⟨⟨T, p, rfl⟩, hb⟩
  have HB := Lib.hid hb
  clear hb HC
  go_wp2
  go_ret
  exact ⟨⟨_, _, rfl⟩, HB.out⟩
theorem clrH (g : Nat) (w : World) (h : w.cell? ⟨g, 46, none⟩ = some (.bool true)) : Calls Tryz.prog 99 #[.pointer (some ⟨g, 0, none⟩)] w (ErrE w) := by
  have HC := Lib.hid (chkH g ⟨#[99, 108, 101, 97, 114]⟩ w h)
  have hn := err_ne
  clear h
  go_enter Tryz.func99, Tryz.ntmps99
  go_wp2_with fail
  refine HC.out.mono ?_
  rintro e w1 ⟨⟨T, p, rfl⟩, hb⟩
  have HB := Lib.hid hb
  clear hb HC
  go_wp2
  go_ret
  exact ⟨⟨_, _, rfl⟩, HB.out⟩
theorem delH (g : Nat) (TV : TypeId) (xv : Value) (w : World) (h : w.cell? ⟨g, 46, none⟩ = some (.bool true)) : Calls Tryz.prog 101 #[.pointer (some ⟨g, 0, none⟩), .iface TV xv] w (ErrE3 w) := by
  have HC := Lib.hid (chkH g ⟨#[100, 101, 108, 101, 116, 101, 32, 102, 114, 111, 109]⟩ w h)
  have hn := err_ne
  clear h
  go_enter Tryz.func101, Tryz.ntmps101
  go_wp2_with fail
  refine HC.out.mono ?_
  rintro e w1 ⟨⟨T, p, rfl⟩, hb⟩
  have HB := Lib.hid hb
  clear hb HC
  go_wp2
  go_ret3
  exact ⟨⟨_, _, _, _, rfl⟩, HB.out⟩
theorem insH (g : Nat) (TV : TypeId) (xv : Value) (TW : TypeId) (xw : Value) (w : World) (h : w.cell? ⟨g, 46, none⟩ = some (.bool true)) : Calls Tryz.prog 100 #[.pointer (some ⟨g, 0, none⟩), .iface TV xv, .iface TW xw] w (ErrE w) := by
  have HC := Lib.hid (chkH g ⟨#[105, 110, 115, 101, 114, 116, 32, 105, 110, 116, 111]⟩ w h)
  have hn := err_ne
  clear h
  go_enter Tryz.func100, Tryz.ntmps100
  go_wp2
  go_step3
  go_wp2_with fail
  refine HC.out.mono ?_
  rintro e w1 ⟨⟨T, p, rfl⟩, hb⟩
  have HB := Lib.hid hb
  clear hb HC
  go_wp2
  go_ret
  exact ⟨⟨_, _, rfl⟩, HB.out⟩
theorem clrD (g : Nat) (w : World) (h : w.cell? ⟨g, 46, none⟩ = some (.bool true)) : Calls Tryz.prog 69 #[.pointer (some ⟨g, 0, none⟩)] w (ErrE w) := by
  have HC := Lib.hid (clrH g w h)
  have hn := err_ne
  clear h
  go_enter Tryz.func69, Tryz.ntmps69
  go_wp2_with fail
  refine HC.out.mono ?_
  rintro e w1 ⟨⟨T, p, rfl⟩, hb⟩
  have HB := Lib.hid hb
  clear hb HC
  go_wp2
  go_ret
  exact ⟨⟨_, _, rfl⟩, HB.out⟩
theorem delD (g : Nat) (TV : TypeId) (xv : Value) (w : World) (h : w.cell? ⟨g, 46, none⟩ = some (.bool true)) : Calls Tryz.prog 71 #[.pointer (some ⟨g, 0, none⟩), .iface TV xv] w (ErrE3 w) := by
  have HC := Lib.hid (delH g TV xv w h)
  have hn := err_ne
  clear h
  go_enter Tryz.func71, Tryz.ntmps71
  go_wp2_with fail
  refine HC.out.mono ?_
  rintro e w1 ⟨⟨a, b, T, p, rfl⟩, hb⟩
  have HB := Lib.hid hb
  clear hb HC
  go_wp2
  go_ret3
  exact ⟨⟨_, _, _, _, rfl⟩, HB.out⟩
theorem putD (g : Nat) (TV : TypeId) (xv : Value) (w : World) (h : w.cell? ⟨g, 46, none⟩ = some (.bool true)) : Calls Tryz.prog 70 #[.pointer (some ⟨g, 0, none⟩), .iface TV xv, .iface TV xv] w (ErrE w) := by
  have HC := Lib.hid (insH g TV xv TV xv w h)
  have hn := err_ne
  clear h
  go_enter Tryz.func70, Tryz.ntmps70
  go_wp2_with fail
  refine HC.out.mono ?_
  rintro e w1 ⟨⟨T, p, rfl⟩, hb⟩
  have HB := Lib.hid hb
  clear hb HC
  go_wp2
  go_ret
  exact ⟨⟨_, _, rfl⟩, HB.out⟩
theorem clrS (g : Nat) (w : World) (h : w.cell? ⟨g, 46, none⟩ = some (.bool true)) : Calls Tryz.prog 72 #[.pointer (some ⟨g, 0, none⟩)] w (ErrE w) := by
  have HC := Lib.hid (clrH g w h)
  have hn := err_ne
  clear h
  go_enter Tryz.func72, Tryz.ntmps72
  go_wp2_with fail
  refine HC.out.mono ?_
  rintro e w1 ⟨⟨T, p, rfl⟩, hb⟩
  have HB := Lib.hid hb
  clear hb HC
  go_wp2
  go_ret
  exact ⟨⟨_, _, rfl⟩, HB.out⟩
theorem delS (g : Nat) (TV : TypeId) (xv : Value) (w : World) (h : w.cell? ⟨g, 46, none⟩ = some (.bool true)) : Calls Tryz.prog 73 #[.pointer (some ⟨g, 0, none⟩), .iface TV xv] w (ErrE2 w) := by
  have HC := Lib.hid (delH g TV xv w h)
  have hn := err_ne
  clear h
  go_enter Tryz.func73, Tryz.ntmps73
  go_wp2_with fail
  refine HC.out.mono ?_
  rintro e w1 ⟨⟨a, b, T, p, rfl⟩, hb⟩
  have HB := Lib.hid hb
  clear hb HC
  go_wp2
  go_ret2
  exact ⟨⟨_, _, _, rfl⟩, HB.out⟩
theorem addS (g : Nat) (TV : TypeId) (xv : Value) (w : World) (h : w.cell? ⟨g, 46, none⟩ = some (.bool true)) : Calls Tryz.prog 74 #[.pointer (some ⟨g, 0, none⟩), .iface TV xv] w (ErrE w) := by
  have HC := Lib.hid (insH g TV xv 145 (.int .u8 0) w h)
  have hn := err_ne
  clear h
  go_enter Tryz.func74, Tryz.ntmps74
  go_wp2_with fail
  refine HC.out.mono ?_
  rintro e w1 ⟨⟨T, p, rfl⟩, hb⟩
  have HB := Lib.hid hb
  clear hb HC
  go_wp2
  go_ret
  exact ⟨⟨_, _, rfl⟩, HB.out⟩
end Go.Proofs.YtloloifngbmibaaGreatDoor
set_option linter.unusedVariables false
set_option linter.unusedSimpArgs false
set_option maxRecDepth 4000
namespace Go.Proofs.YtloloifngbmibaaGreatDoor
open Go.RowKit

/-- A Try as a struct. -/
@[reducible] def tryV (wn kd : Int) (xV : Vc) : Value := .agg #[.int .i64 wn, .int .i64 kd, .int .i64 xV.k, .bool xV.n, xV.m, .int .u64 xV.b, .string xV.s, xV.q]
/-- Not done. -/
def NotDone (w : World) (e : Ending) (w' : World) : Prop := e = .returned (.bool false) ∧ Below w.heap.size w w'

theorem done_no {dv : Nat} {u : Tr} {xV : Vc} {w : World} (wn kd : Int) (hv : HV (dv + 1) u xV w) (gv : Good dv u) (hd : dv ≤ 9) (hG : GL w) (T : TypeId) (x : Value) (ha1 : (∀ W : World, (Instr.typeAssert (.iface T x) 64 99 true).run Tryz.prog W = .ok (.tuple #[.pointer none, .bool false]) W)) (ha2 : (∀ W : World, (Instr.typeAssert (.iface T x) 64 102 true).run Tryz.prog W = .ok (.tuple #[.pointer none, .bool false]) W)) (ha3 : (∀ W : World, (Instr.typeAssert (.iface T x) 64 105 true).run Tryz.prog W = .ok (.tuple #[.pointer none, .bool false]) W)) :
    Calls Tryz.prog 46 #[tryV wn kd xV, .iface T x] w (NotDone w) := by
  obtain ⟨k, n, A, l, c, b, s, A', l', c', rfl⟩ := hv.shape
  have HVA := Lib.hid (fun (W0 : World) (h1 : Below w.heap.size w W0) => value_any dv hd (hv.up h1) gv gv.make (hG.up h1))
  clear hv gv hG hd
  go_enter Tryz.func46, Tryz.ntmps46
  go_upto_region 1 with fail
  generalize hw0 : w.alloc (.cells #[.int .i64 wn, .int .i64 kd, .int .i64 k, .bool n, .slice A l c, .int .u64 b, .string s, .slice A' l' c'] 44) = w0
  have hrow : Blk w0 w.heap.size 44 #[.int .i64 wn, .int .i64 kd, .int .i64 k, .bool n, .slice A l c, .int .u64 b, .string s, .slice A' l' c'] := by rw [← hw0]; exact Blk.new w _ _
  have HH : Hid (Below w.heap.size w w0) := Lib.hid (by rw [← hw0]; exact below_al (Below.refl _ _) _)
  have HVC := Lib.hid (HVA.out w0 HH.out)
  have c2 := hrow.cell 2
  have c3 := hrow.cell 3
  have c4 := hrow.cell 4
  have c5 := hrow.cell 5
  have c6 := hrow.cell 6
  have c7 := hrow.cell 7
  simp at c2 c3 c4 c5 c6 c7
  have HR := Lib.hid hrow
  clear hw0 HVA hrow
  go_wp2_with fail
  refine HVC.out.mono ?_
  rintro e w1 ⟨v', rfl, hfv, hb1⟩
  obtain ⟨TV, xv, rfl⟩ := hfv.ifc
  have HB1 := Lib.hid (below_up HH.out hb1)
  have hk1 := (HR.out.below hb1 HR.out.lt).cell 1
  simp at hk1
  clear hfv hb1 HVC c2 c3 c4 c5 c6 c7 HR HH
  go_wp2
  go_ret
  exact ⟨rfl, HB1.out⟩

theorem done_list {dv : Nat} {u : Tr} {xV : Vc} {w : World} (wn kd : Int) (hv : HV (dv + 1) u xV w) (gv : Good dv u) (hd : dv ≤ 9) (hG : GL w) (q : Nat) {AL : Option Addr} {nl cl : Nat} {u2 : Value} (hx : Blk w q 158 #[.slice AL nl cl, .bool true, u2]) :
    Calls Tryz.prog 46 #[tryV wn kd xV, .iface 99 (.pointer (some ⟨q, 0, none⟩))] w (NotDone w) := by
  have t0 : ∀ W : World, (Instr.typeAssert (.iface 99 (.pointer (some ⟨q, 0, none⟩))) 64 99 true).run Tryz.prog W = .ok (.tuple #[.pointer (some ⟨q, 0, none⟩), .bool true]) W := fun W => by kernel_rfl
  have hq := err_eq
  have hql := hx.lt
  have HX := Lib.hid hx
  clear hx
  obtain ⟨k, n, A, l, c, b, s, A', l', c', rfl⟩ := hv.shape
  have HVA := Lib.hid (fun (W0 : World) (h1 : Below w.heap.size w W0) => value_any dv hd (hv.up h1) gv gv.make (hG.up h1))
  clear hv gv hG hd
  go_enter Tryz.func46, Tryz.ntmps46
  go_upto_region 1 with fail
  generalize hw0 : w.alloc (.cells #[.int .i64 wn, .int .i64 kd, .int .i64 k, .bool n, .slice A l c, .int .u64 b, .string s, .slice A' l' c'] 44) = w0
  have hrow : Blk w0 w.heap.size 44 #[.int .i64 wn, .int .i64 kd, .int .i64 k, .bool n, .slice A l c, .int .u64 b, .string s, .slice A' l' c'] := by rw [← hw0]; exact Blk.new w _ _
  have HH : Hid (Below w.heap.size w w0) := Lib.hid (by rw [← hw0]; exact below_al (Below.refl _ _) _)
  have HVC := Lib.hid (HVA.out w0 HH.out)
  have c2 := hrow.cell 2
  have c3 := hrow.cell 3
  have c4 := hrow.cell 4
  have c5 := hrow.cell 5
  have c6 := hrow.cell 6
  have c7 := hrow.cell 7
  simp at c2 c3 c4 c5 c6 c7
  have HR := Lib.hid hrow
  clear hw0 HVA hrow
  go_wp2_with fail
  refine HVC.out.mono ?_
  rintro e w1 ⟨v', rfl, hfv, hb1⟩
  obtain ⟨TV, xv, rfl⟩ := hfv.ifc
  have HB1 := Lib.hid (below_up HH.out hb1)
  have hk1 := (HR.out.below hb1 HR.out.lt).cell 1
  simp at hk1
  clear hfv hb1 HVC c2 c3 c4 c5 c6 c7 HR HH
  have HX1 := Lib.hid (HX.out.below HB1.out hql)
  have g1 := HX1.out.cell 1
  simp at g1
  by_cases h0 : kd = 0
  · subst h0
    have HC := Lib.hid (appL q TV xv w1 g1)
    go_wp2_with fail
    refine HC.out.mono ?_
    rintro e w2 ⟨⟨T, p, rfl⟩, hb2⟩
    have HB2 := Lib.hid (below_up HB1.out hb2)
    clear hb2 HC
    go_wp2
    go_ret
    exact ⟨rfl, HB2.out⟩
  have e0 : (kd == 0) = false := beq_no h0
  by_cases h1 : kd = 1
  · subst h1
    have HLN := Lib.hid (listLen q nl cl AL w1 (by have := HX1.out.cell 0; simpa using this))
    have HC := Lib.hid (setL q TV xv w1 g1)
    clear g1
    by_cases hn0 : 0 < nl
    · have hn1 : (0 : Int) < (nl : Int) := by omega
      go_wp2_with fail
      refine HLN.out.mono ?_
      rintro e w2 ⟨rfl, rfl⟩
      clear HLN
      go_wp2_with fail
      refine HC.out.mono ?_
      rintro e w3 ⟨⟨T, p, rfl⟩, hb2⟩
      have HB2 := Lib.hid (below_up HB1.out hb2)
      clear hb2 HC
      go_wp2
      go_ret
      exact ⟨rfl, HB2.out⟩
    · have hn1 : ¬ (0 : Int) < (nl : Int) := by omega
      go_wp2_with fail
      refine HLN.out.mono ?_
      rintro e w2 ⟨rfl, rfl⟩
      clear HLN HC
      go_wp2
      go_ret
      exact ⟨rfl, HB1.out⟩
  have e1 : (kd == 1) = false := beq_no h1
  by_cases h2 : kd = 2
  · subst h2
    have HC := Lib.hid (clrL q w1 g1)
    go_wp2_with fail
    refine HC.out.mono ?_
    rintro e w2 ⟨⟨T, p, rfl⟩, hb2⟩
    have HB2 := Lib.hid (below_up HB1.out hb2)
    clear hb2 HC
    go_wp2
    go_ret
    exact ⟨rfl, HB2.out⟩
  have e2 : (kd == 2) = false := beq_no h2
  go_wp2
  go_ret
  exact ⟨rfl, HB1.out⟩

theorem done_dict {dv : Nat} {u : Tr} {xV : Vc} {w : World} (wn kd : Int) (hv : HV (dv + 1) u xV w) (gv : Good dv u) (hd : dv ≤ 9) (hG : GL w) (q : Nat) {es : List En} (hx : Blk w q 174 (htC q es true).toArray) :
    Calls Tryz.prog 46 #[tryV wn kd xV, .iface 102 (.pointer (some ⟨q, 0, none⟩))] w (NotDone w) := by
  have t0 : ∀ W : World, (Instr.typeAssert (.iface 102 (.pointer (some ⟨q, 0, none⟩))) 64 99 true).run Tryz.prog W = .ok (.tuple #[.pointer none, .bool false]) W := fun W => by kernel_rfl
  have t1 : ∀ W : World, (Instr.typeAssert (.iface 102 (.pointer (some ⟨q, 0, none⟩))) 64 102 true).run Tryz.prog W = .ok (.tuple #[.pointer (some ⟨q, 0, none⟩), .bool true]) W := fun W => by kernel_rfl
  have hq := err_eq
  have hql := hx.lt
  have HX := Lib.hid hx
  clear hx
  obtain ⟨k, n, A, l, c, b, s, A', l', c', rfl⟩ := hv.shape
  have HVA := Lib.hid (fun (W0 : World) (h1 : Below w.heap.size w W0) => value_any dv hd (hv.up h1) gv gv.make (hG.up h1))
  clear hv gv hG hd
  go_enter Tryz.func46, Tryz.ntmps46
  go_upto_region 1 with fail
  generalize hw0 : w.alloc (.cells #[.int .i64 wn, .int .i64 kd, .int .i64 k, .bool n, .slice A l c, .int .u64 b, .string s, .slice A' l' c'] 44) = w0
  have hrow : Blk w0 w.heap.size 44 #[.int .i64 wn, .int .i64 kd, .int .i64 k, .bool n, .slice A l c, .int .u64 b, .string s, .slice A' l' c'] := by rw [← hw0]; exact Blk.new w _ _
  have HH : Hid (Below w.heap.size w w0) := Lib.hid (by rw [← hw0]; exact below_al (Below.refl _ _) _)
  have HVC := Lib.hid (HVA.out w0 HH.out)
  have c2 := hrow.cell 2
  have c3 := hrow.cell 3
  have c4 := hrow.cell 4
  have c5 := hrow.cell 5
  have c6 := hrow.cell 6
  have c7 := hrow.cell 7
  simp at c2 c3 c4 c5 c6 c7
  have HR := Lib.hid hrow
  clear hw0 HVA hrow
  go_wp2_with fail
  refine HVC.out.mono ?_
  rintro e w1 ⟨v', rfl, hfv, hb1⟩
  obtain ⟨TV, xv, rfl⟩ := hfv.ifc
  have HB1 := Lib.hid (below_up HH.out hb1)
  have hk1 := (HR.out.below hb1 HR.out.lt).cell 1
  simp at hk1
  clear hfv hb1 HVC c2 c3 c4 c5 c6 c7 HR HH
  have HX1 := Lib.hid (HX.out.below HB1.out hql)
  have g1 := (htC_head HX1.out).2
  by_cases h2 : kd = 2
  · subst h2
    have HC := Lib.hid (clrD q w1 g1)
    go_wp2_with fail
    refine HC.out.mono ?_
    rintro e w2 ⟨⟨T, p, rfl⟩, hb2⟩
    have HB2 := Lib.hid (below_up HB1.out hb2)
    clear hb2 HC
    go_wp2
    go_ret
    exact ⟨rfl, HB2.out⟩
  have e2 : (kd == 2) = false := beq_no h2
  by_cases h3 : kd = 3
  · subst h3
    have HC := Lib.hid (putD q TV xv w1 g1)
    go_wp2_with fail
    refine HC.out.mono ?_
    rintro e w2 ⟨⟨T, p, rfl⟩, hb2⟩
    have HB2 := Lib.hid (below_up HB1.out hb2)
    clear hb2 HC
    go_wp2
    go_ret
    exact ⟨rfl, HB2.out⟩
  have e3 : (kd == 3) = false := beq_no h3
  by_cases h4 : kd = 4
  · subst h4
    have HC := Lib.hid (delD q TV xv w1 g1)
    go_wp2_with fail
    refine HC.out.mono ?_
    rintro e w2 ⟨⟨x2, x3, T, p, rfl⟩, hb2⟩
    have HB2 := Lib.hid (below_up HB1.out hb2)
    clear hb2 HC
    go_wp2
    go_ret
    exact ⟨rfl, HB2.out⟩
  have e4 : (kd == 4) = false := beq_no h4
  go_wp2
  go_ret
  exact ⟨rfl, HB1.out⟩

theorem done_set {dv : Nat} {u : Tr} {xV : Vc} {w : World} (wn kd : Int) (hv : HV (dv + 1) u xV w) (gv : Good dv u) (hd : dv ≤ 9) (hG : GL w) (q : Nat) {es : List En} (hx : Blk w q 175 (htC q es true).toArray) :
    Calls Tryz.prog 46 #[tryV wn kd xV, .iface 105 (.pointer (some ⟨q, 0, none⟩))] w (NotDone w) := by
  have t0 : ∀ W : World, (Instr.typeAssert (.iface 105 (.pointer (some ⟨q, 0, none⟩))) 64 99 true).run Tryz.prog W = .ok (.tuple #[.pointer none, .bool false]) W := fun W => by kernel_rfl
  have t1 : ∀ W : World, (Instr.typeAssert (.iface 105 (.pointer (some ⟨q, 0, none⟩))) 64 102 true).run Tryz.prog W = .ok (.tuple #[.pointer none, .bool false]) W := fun W => by kernel_rfl
  have t2 : ∀ W : World, (Instr.typeAssert (.iface 105 (.pointer (some ⟨q, 0, none⟩))) 64 105 true).run Tryz.prog W = .ok (.tuple #[.pointer (some ⟨q, 0, none⟩), .bool true]) W := fun W => by kernel_rfl
  have hq := err_eq
  have hql := hx.lt
  have HX := Lib.hid hx
  clear hx
  obtain ⟨k, n, A, l, c, b, s, A', l', c', rfl⟩ := hv.shape
  have HVA := Lib.hid (fun (W0 : World) (h1 : Below w.heap.size w W0) => value_any dv hd (hv.up h1) gv gv.make (hG.up h1))
  clear hv gv hG hd
  go_enter Tryz.func46, Tryz.ntmps46
  go_upto_region 1 with fail
  generalize hw0 : w.alloc (.cells #[.int .i64 wn, .int .i64 kd, .int .i64 k, .bool n, .slice A l c, .int .u64 b, .string s, .slice A' l' c'] 44) = w0
  have hrow : Blk w0 w.heap.size 44 #[.int .i64 wn, .int .i64 kd, .int .i64 k, .bool n, .slice A l c, .int .u64 b, .string s, .slice A' l' c'] := by rw [← hw0]; exact Blk.new w _ _
  have HH : Hid (Below w.heap.size w w0) := Lib.hid (by rw [← hw0]; exact below_al (Below.refl _ _) _)
  have HVC := Lib.hid (HVA.out w0 HH.out)
  have c2 := hrow.cell 2
  have c3 := hrow.cell 3
  have c4 := hrow.cell 4
  have c5 := hrow.cell 5
  have c6 := hrow.cell 6
  have c7 := hrow.cell 7
  simp at c2 c3 c4 c5 c6 c7
  have HR := Lib.hid hrow
  clear hw0 HVA hrow
  go_wp2_with fail
  refine HVC.out.mono ?_
  rintro e w1 ⟨v', rfl, hfv, hb1⟩
  obtain ⟨TV, xv, rfl⟩ := hfv.ifc
  have HB1 := Lib.hid (below_up HH.out hb1)
  have hk1 := (HR.out.below hb1 HR.out.lt).cell 1
  simp at hk1
  clear hfv hb1 HVC c2 c3 c4 c5 c6 c7 HR HH
  have HX1 := Lib.hid (HX.out.below HB1.out hql)
  have g1 := (htC_head HX1.out).2
  by_cases h2 : kd = 2
  · subst h2
    have HC := Lib.hid (clrS q w1 g1)
    go_wp2_with fail
    refine HC.out.mono ?_
    rintro e w2 ⟨⟨T, p, rfl⟩, hb2⟩
    have HB2 := Lib.hid (below_up HB1.out hb2)
    clear hb2 HC
    go_wp2
    go_ret
    exact ⟨rfl, HB2.out⟩
  have e2 : (kd == 2) = false := beq_no h2
  by_cases h4 : kd = 4
  · subst h4
    have HC := Lib.hid (delS q TV xv w1 g1)
    go_wp2_with fail
    refine HC.out.mono ?_
    rintro e w2 ⟨⟨x2, T, p, rfl⟩, hb2⟩
    have HB2 := Lib.hid (below_up HB1.out hb2)
    clear hb2 HC
    go_wp2
    go_ret
    exact ⟨rfl, HB2.out⟩
  have e4 : (kd == 4) = false := beq_no h4
  by_cases h5 : kd = 5
  · subst h5
    have HC := Lib.hid (addS q TV xv w1 g1)
    go_wp2_with fail
    refine HC.out.mono ?_
    rintro e w2 ⟨⟨T, p, rfl⟩, hb2⟩
    have HB2 := Lib.hid (below_up HB1.out hb2)
    clear hb2 HC
    go_wp2
    go_ret
    exact ⟨rfl, HB2.out⟩
  have e5 : (kd == 5) = false := beq_no h5
  go_wp2
  go_ret
  exact ⟨rfl, HB1.out⟩

end Go.Proofs.YtloloifngbmibaaGreatDoor
set_option linter.unusedVariables false
set_option linter.unusedSimpArgs false
set_option maxRecDepth 4000
namespace Go.Proofs.YtloloifngbmibaaGreatDoor
open Go.RowKit

theorem done_flat {a b : Nat} {t : Tr} {v : Value} {dv : Nat} {u : Tr} {xV : Vc} {w : World} (wn kd : Int) (h : FVF a b t w v) (hb : b ≤ w.heap.size) (hv : HV (dv + 1) u xV w) (gv : Good dv u) (hd : dv ≤ 9) (hG : GL w) : Calls Tryz.prog 46 #[tryV wn kd xV, v] w (NotDone w) := by
  cases h with
  | none h => exact done_no wn kd hv gv hd hG _ _ (fun W => by kernel_rfl) (fun W => by kernel_rfl) (fun W => by kernel_rfl)
  | bool h => exact done_no wn kd hv gv hd hG _ _ (fun W => by kernel_rfl) (fun W => by kernel_rfl) (fun W => by kernel_rfl)
  | int v h hs =>
    obtain ⟨s1, a1, rfl⟩ := (hs.sm.si hb).shape
    exact done_no wn kd hv gv hd hG _ _ (fun W => by kernel_rfl) (fun W => by kernel_rfl) (fun W => by kernel_rfl)
  | flt h => exact done_no wn kd hv gv hd hG _ _ (fun W => by kernel_rfl) (fun W => by kernel_rfl) (fun W => by kernel_rfl)
  | str h => exact done_no wn kd hv gv hd hG _ _ (fun W => by kernel_rfl) (fun W => by kernel_rfl) (fun W => by kernel_rfl)
  | byt h => exact done_no wn kd hv gv hd hG _ _ (fun W => by kernel_rfl) (fun W => by kernel_rfl) (fun W => by kernel_rfl)
/-- What is frozen is never changed by a try. -/
theorem done_any {d a b : Nat} {t : Tr} {v : Value} {dv : Nat} {u : Tr} {xV : Vc} {w : World} (wn kd : Int) (h : FV true d a b t w v) (hb : b ≤ w.heap.size) (hv : HV (dv + 1) u xV w) (gv : Good dv u) (hd : dv ≤ 9) (hG : GL w) : Calls Tryz.prog 46 #[tryV wn kd xV, v] w (NotDone w) := by
  cases d with
  | zero => exact done_flat wn kd h hb hv gv hd hG
  | succ d =>
    rcases h with h | ⟨hk, A, c, ys, m, rfl, _⟩ | ⟨hk, A, c, ys, m, q, rfl, hB, _⟩ | ⟨hk, es, q, rfl, hB, _⟩ | ⟨hk, es, q, rfl, hB, _⟩
    · exact done_flat wn kd h hb hv gv hd hG
    · exact done_no wn kd hv gv hd hG _ _ (fun W => by kernel_rfl) (fun W => by kernel_rfl) (fun W => by kernel_rfl)
    · exact done_list wn kd hv gv hd hG q hB
    · exact done_dict wn kd hv gv hd hG q hB
    · exact done_set wn kd hv gv hd hG q hB

/-- What partAt hands back of n values. -/
def PartE (ys : List Value) (w : World) (e : Ending) (w' : World) : Prop := Below w.heap.size w w' ∧ (e = .returned .nilIface ∨ ∃ (i : Nat) (T : TypeId) (x : Value), ys[i]? = some (Value.iface T x) ∧ e = .returned (.iface T x))
theorem part_no (T : TypeId) (x : Value) (at_ : Nat) (w : World) (ha1 : (∀ W : World, (Instr.typeAssert (.iface T x) 64 99 true).run Tryz.prog W = .ok (.tuple #[.pointer none, .bool false]) W)) (ha2 : (∀ W : World, (Instr.typeAssert (.iface T x) 64 101 true).run Tryz.prog W = .ok (.tuple #[.slice none 0 0, .bool false]) W)) (ha3 : (∀ W : World, (Instr.typeAssert (.iface T x) 64 102 true).run Tryz.prog W = .ok (.tuple #[.pointer none, .bool false]) W)) :
    Calls Tryz.prog 47 #[.iface T x, .int .i64 at_] w (PartE [] w) := by
  have h0 : ¬ (at_ : Int) < 0 := by omega
  have h1 : (0 : Int) ≤ at_ := by omega
  go_enter Tryz.func47, Tryz.ntmps47
  go_wp2
  go_ret
  exact ⟨Below.refl _ _, .inl rfl⟩
theorem part_tup (A : Option Addr) (n c : Nat) (S : Nat → Prop) (ys : List Value) (hl : ys.length = n) (hone : ∀ y ∈ ys, ∃ T x, y = .iface T x) (at_ : Nat) (w : World) (hr : Rd w S A ys) :
    Calls Tryz.prog 47 #[.iface 101 (.slice A n c), .int .i64 at_] w (PartE ys w) := by
  have t0 : ∀ W : World, (Instr.typeAssert (.iface 101 (.slice A n c)) 64 99 true).run Tryz.prog W = .ok (.tuple #[.pointer none, .bool false]) W := fun W => by kernel_rfl
  have t1 : ∀ W : World, (Instr.typeAssert (.iface 101 (.slice A n c)) 64 101 true).run Tryz.prog W = .ok (.tuple #[.slice A n c, .bool true]) W := fun W => by kernel_rfl
  have h0 : ¬ (at_ : Int) < 0 := by omega
  by_cases hlt : at_ < n
  · have h1 : ¬ (n : Int) ≤ at_ := by omega
    have h2 : (at_ : Int) < n := by omega
    obtain ⟨TY, xy, hy⟩ := hone ys[at_] (List.getElem_mem (by omega))
    have hy2 : ys[at_]? = some (.iface TY xy) := by rw [← hy]; exact List.getElem?_eq_getElem (by omega)
    obtain ⟨b, o, rfl, _, hce⟩ := hr.at_ (k := at_) (by omega)
    rw [hy] at hce
    have HY := Lib.hid hy2
    clear hy hy2 hl hone hr
    go_enter Tryz.func47, Tryz.ntmps47
    go_wp2
    go_ret
    exact ⟨Below.refl _ _, .inr ⟨at_, TY, xy, HY.out, rfl⟩⟩
  · have h1 : (n : Int) ≤ at_ := by omega
    clear hl hone hr
    go_enter Tryz.func47, Tryz.ntmps47
    go_wp2
    go_ret
    exact ⟨Below.refl _ _, .inl rfl⟩
theorem part_list (q n c : Nat) (A : Option Addr) (u2 : Value) (S : Nat → Prop) (ys : List Value) (hl : ys.length = n) (hn : n ≤ 1000) (hone : ∀ y ∈ ys, ∃ T x, y = .iface T x) (at_ : Nat) (w : World) (hB : Blk w q 158 #[.slice A n c, .bool true, u2]) (hr : Rd w S A ys) (hS : ∀ k, S k → k < w.heap.size) :
    Calls Tryz.prog 47 #[.iface 99 (.pointer (some ⟨q, 0, none⟩)), .int .i64 at_] w (PartE ys w) := by
  have t0 : ∀ W : World, (Instr.typeAssert (.iface 99 (.pointer (some ⟨q, 0, none⟩))) 64 99 true).run Tryz.prog W = .ok (.tuple #[.pointer (some ⟨q, 0, none⟩), .bool true]) W := fun W => by kernel_rfl
  have h0 : ¬ (at_ : Int) < 0 := by omega
  have HLI := Lib.hid (listIter q w (by rw [hB.cell]; rfl))
  have HGO := Lib.hid (goneList q n c A u2 S ys hl hn hone w hB hr hS)
  have HO := Lib.hid hone
  have HL := Lib.hid hl
  clear hB hr hS hone hl
  go_enter Tryz.func47, Tryz.ntmps47
  go_wp2_with fail
  refine HLI.out.mono ?_
  rintro e w1 ⟨rfl, rfl⟩
  go_wp2_with fail
  refine HGO.out.mono ?_
  rintro e w1 ⟨A1, c1', rfl, hb1, hr1⟩
  have HB1 := Lib.hid hb1
  clear HLI HGO hb1
  by_cases hlt : at_ < n
  · have h1 : ¬ (n : Int) ≤ at_ := by omega
    have h2 : (at_ : Int) < n := by omega
    have hl := HL.out
    obtain ⟨TY, xy, hy⟩ := HO.out ys[at_] (List.getElem_mem (by omega))
    have hy2 : ys[at_]? = some (.iface TY xy) := by rw [← hy]; exact List.getElem?_eq_getElem (by omega)
    obtain ⟨b, o, rfl, _, hce⟩ := hr1.at_ (k := at_) (by omega)
    rw [hy] at hce
    have HY := Lib.hid hy2
    clear hy hy2 hl hr1
    go_wp2
    go_ret
    exact ⟨HB1.out, .inr ⟨at_, TY, xy, HY.out, rfl⟩⟩
  · have h1 : (n : Int) ≤ at_ := by omega
    clear hr1
    go_wp2
    go_ret
    exact ⟨HB1.out, .inl rfl⟩
end Go.Proofs.YtloloifngbmibaaGreatDoor
