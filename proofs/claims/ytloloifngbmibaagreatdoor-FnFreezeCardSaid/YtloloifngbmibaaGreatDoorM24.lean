/- The language's values as trees; comparing two of one flat type. CompareDepth: numbers, none, unlike types. math.Abs, math.IsInf of both signs, isFinite. CompareDepth: an int and a float. -/
import Derived.Test.YtloloifngbmibaaGreatDoorM21
import Derived.Test.YtloloifngbmibaaGreatDoorM23
import Derived.Stop.Asserts
import Derived.Test.YtloloifngbmibaaGreatDoorM20
import Derived.Test.YtloloifngbmibaaGreatDoorM16
import Derived.Laws.BitsAllLaws
set_option linter.unusedVariables false
set_option linter.unusedSimpArgs false
set_option maxRecDepth 4000
namespace Go.Proofs.YtloloifngbmibaaGreatDoor
open Go.RowKit

/-- An int of the package in blocks below M. -/
def SM (M : Nat) (v : Value) (x : Int) (W : World) : Prop :=
  (v = .agg #[.int .i64 x, .pointer none] ∧ -2147483648 ≤ x ∧ x ≤ 2147483647) ∨
  ∃ (b : Nat) (neg : Bool) (ws : List Int) (u : Value), v = .agg #[.int .i64 0, .pointer (some ⟨b, 0, none⟩)] ∧ Blk W b 189 #[.bool neg, u] ∧ SlV W (fun k => k < M) .u64 u ws ∧ b < M ∧ WL ws ∧ Nrm ws ∧ 0 < ws.length ∧ ws.length ≤ 30 ∧ wv neg ws = x
theorem SM.keep {M : Nat} {v : Value} {x : Int} {W W' : World} (h : SM M v x W) (hb : Below M W W') : SM M v x W' := by
  rcases h with h | ⟨b, neg, ws, u, h1, h2, h3, h4, h5⟩
  · exact .inl h
  · exact .inr ⟨b, neg, ws, u, h1, h2.below hb h4, h3.keep (still_below hb (fun k hk => hk)), h4, h5⟩
theorem SM.mono {M M' : Nat} {v : Value} {x : Int} {W : World} (h : SM M v x W) (hM : M ≤ M') : SM M' v x W := by
  rcases h with h | ⟨b, neg, ws, u, h1, h2, h3, h4, h5⟩
  · exact .inl h
  · exact .inr ⟨b, neg, ws, u, h1, h2, h3.mono (fun k hk => Nat.lt_of_lt_of_le hk hM), Nat.lt_of_lt_of_le h4 hM, h5⟩
theorem SM.si {M : Nat} {v : Value} {x : Int} {W : World} (h : SM M v x W) (hM : M ≤ W.heap.size) : SI 0 v x W := by
  rcases h with h | ⟨b, neg, ws, u, h1, h2, h3, h4, h5⟩
  · exact .inl h
  · exact .inr ⟨b, neg, ws, u, h1, h2, h3.mono (fun k hk => ⟨Nat.zero_le _, Nat.lt_of_lt_of_le hk hM⟩), Nat.zero_le _, h5⟩
theorem SI.sm {B : Nat} {v : Value} {x : Int} {W : World} (h : SI B v x W) : SM W.heap.size v x W := by
  rcases h with h | ⟨b, neg, ws, u, h1, h2, h3, h4, h5⟩
  · exact .inl h
  · exact .inr ⟨b, neg, ws, u, h1, h2, h3.mono (fun k hk => hk.2), h2.lt, h5⟩

/-- A value of the language in an interface, as a tree, in blocks below M; of lists, dicts and sets the type alone. -/
inductive SVF (M : Nat) (t : Tr) (W : World) : Value → Prop
  | none (h : t.k = 0) : SVF M t W (.iface 145 (.int .u8 0))
  | bool (h : t.k = 1) : SVF M t W (.iface 146 (.bool (t.bits == 1)))
  | int (v : Value) (h : t.k = 2) (hs : SM M v (iv t.neg t.mag) W) : SVF M t W (.iface 117 v)
  | flt (h : t.k = 3) : SVF M t W (.iface 147 (.float .f64 t.bits.toNat))
  | str (h : t.k = 4) : SVF M t W (.iface 149 (.string t.text))
  | byt (h : t.k = 5) : SVF M t W (.iface 150 (.string t.text))
def SVal (M : Nat) : Nat → Tr → World → Value → Prop
  | 0, t, W, v => SVF M t W v
  | d + 1, t, W, v => SVF M t W v ∨ (t.k = 7 ∧ ∃ A c ys, v = .iface 101 (.slice A t.kids.length c) ∧ t.kids.length ≤ c ∧ ys.length = t.kids.length ∧ Rd W (fun k => k < M) A ys ∧ ∀ (i : Nat) (y : Value) (u : Tr), ys[i]? = some y → t.kids[i]? = some u → SVal M d u W y) ∨
      (t.k = 6 ∧ ∃ p, v = .iface 99 (.pointer p)) ∨ (t.k = 8 ∧ ∃ p, v = .iface 102 (.pointer p)) ∨ (t.k = 9 ∧ ∃ p, v = .iface 105 (.pointer p))
theorem SVF.keep {M : Nat} {t : Tr} {W W' : World} {v : Value} (h : SVF M t W v) (hb : Below M W W') : SVF M t W' v := by
  cases h with
  | none h => exact .none h
  | bool h => exact .bool h
  | int v h hs => exact .int v h (hs.keep hb)
  | flt h => exact .flt h
  | str h => exact .str h
  | byt h => exact .byt h
theorem SVF.mono {M M' : Nat} {t : Tr} {W : World} {v : Value} (h : SVF M t W v) (hM : M ≤ M') : SVF M' t W v := by
  cases h with
  | none h => exact .none h
  | bool h => exact .bool h
  | int v h hs => exact .int v h (hs.mono hM)
  | flt h => exact .flt h
  | str h => exact .str h
  | byt h => exact .byt h
theorem SVal.keep {M : Nat} {W W' : World} (hb : Below M W W') : ∀ {d : Nat} {t : Tr} {v : Value}, SVal M d t W v → SVal M d t W' v
  | 0, _, _, h => SVF.keep h hb
  | d + 1, _, _, h => by
    rcases h with h | ⟨hk, A, c, ys, e, hc, hl, hr, hx⟩ | h | h
    · exact .inl (h.keep hb)
    · exact .inr (.inl ⟨hk, A, c, ys, e, hc, hl, hr.keep (still_below hb (fun k hk => hk)), fun i y u hy hu => (hx i y u hy hu).keep hb⟩)
    · exact .inr (.inr (.inl h))
    · exact .inr (.inr (.inr h))
theorem SVal.mono {M M' : Nat} {W : World} (hM : M ≤ M') : ∀ {d : Nat} {t : Tr} {v : Value}, SVal M d t W v → SVal M' d t W v
  | 0, _, _, h => SVF.mono h hM
  | d + 1, _, _, h => by
    rcases h with h | ⟨hk, A, c, ys, e, hc, hl, hr, hx⟩ | h | h
    · exact .inl (h.mono hM)
    · exact .inr (.inl ⟨hk, A, c, ys, e, hc, hl, hr.mono (fun k hk => Nat.lt_of_lt_of_le hk hM), fun i y u hy hu => (hx i y u hy hu).mono hM⟩)
    · exact .inr (.inr (.inl h))
    · exact .inr (.inr (.inr h))

/-- Comparing two of one type by its CompareSameType. -/
theorem cd_cst {P : Prop} {T F : Nat} {v v' : Value} {nm nm' : ByteArray} {n : Int} {w : World} (hn : 1 ≤ n) (h : TyOk T v nm) (h' : TyOk T v' nm') (he : (nm.toList == nm'.toList) = true)
    (ha : ∀ W : World, (Instr.typeAssert (.iface T v) 64 275 true).run Tryz.prog W = .ok (.tuple #[.iface T v, .bool true]) W)
    (hm : ∀ W : World, (method 506 T v "CompareSameType").run Tryz.prog W = .ok (F, v) W) (hf : ∀ W : World, (callFunc F #[v, .int .i8 37, .iface T v', .int .i64 n]).run Tryz.prog W = .ok (.enter F #[v, .int .i8 37, .iface T v', .int .i64 n]) W)
    (hc : ∀ W, Below w.heap.size w W → Calls Tryz.prog F #[v, .int .i8 37, .iface T v', .int .i64 n] W (CmpOut P W)) :
    Calls Tryz.prog 144 #[.int .i8 37, .iface T v, .iface T v', .int .i64 n] w (CmpOut P w) := by
  have HS := Lib.hid (fun w => sameTy h h' w)
  have HC := Lib.hid hc
  rw [he] at HS
  have hn1 : ¬ n < 1 := by omega
  clear h h' he hc hn
  go_enter Tryz.func144, Tryz.ntmps144
  go_wp2_with fail
  refine (HS.out _).mono ?_
  rintro e w1 ⟨rfl, hb1⟩
  have HB1 := Lib.hid hb1
  clear hb1
  go_wp2_with fail
  refine (HC.out _ HB1.out).mono ?_
  rintro e w2 ⟨r, rfl, hr, hb2⟩
  have HR := Lib.hid (And.intro hr (below_up HB1.out hb2))
  clear hr hb2
  go_wp2
  go_ret2
  exact CmpOut.mk' HR.out.1 HR.out.2
end Go.Proofs.YtloloifngbmibaaGreatDoor
set_option linter.unusedVariables false
set_option linter.unusedSimpArgs false
set_option maxRecDepth 4000
namespace Go.Proofs.YtloloifngbmibaaGreatDoor
open Go.RowKit Go.Extern.Stop Go.Stop

/-- Comparing two of one type by its Cmp. -/
theorem cd_cmp {P : Prop} {T F : Nat} {v v' : Value} {nm nm' : ByteArray} {n : Int} {w : World} (hn : 1 ≤ n) (h : TyOk T v nm) (h' : TyOk T v' nm') (he : (nm.toList == nm'.toList) = true)
    (ha : ∀ W : World, (Instr.typeAssert (.iface T v) 64 275 true).run Tryz.prog W = .ok (.tuple #[.nilIface, .bool false]) W)
    (hb : ∀ W : World, (Instr.typeAssert (.iface T v) 64 279 true).run Tryz.prog W = .ok (.tuple #[.iface T v, .bool true]) W)
    (hm : ∀ W : World, (method 506 T v "Cmp").run Tryz.prog W = .ok (F, v) W) (hf : ∀ W : World, (callFunc F #[v, .iface T v', .int .i64 n]).run Tryz.prog W = .ok (.enter F #[v, .iface T v', .int .i64 n]) W)
    (hc : ∀ W, Below w.heap.size w W → Calls Tryz.prog F #[v, .iface T v', .int .i64 n] W fun e w' => ∃ C, e = .returned (.tuple #[.int .i64 C, .nilIface]) ∧ (C = 0 → P) ∧ Below W.heap.size W w') :
    Calls Tryz.prog 144 #[.int .i8 37, .iface T v, .iface T v', .int .i64 n] w (CmpOut P w) := by
  have HS := Lib.hid (fun w => sameTy h h' w)
  have HC := Lib.hid hc
  rw [he] at HS
  have hn1 : ¬ n < 1 := by omega
  have H3 := Lib.hid (fun c w => three37 c w)
  clear h h' he hc hn
  go_enter Tryz.func144, Tryz.ntmps144
  go_wp2_with fail
  refine (HS.out _).mono ?_
  rintro e w1 ⟨rfl, hb1⟩
  have HB1 := Lib.hid hb1
  clear hb1
  go_wp2_with fail
  refine (HC.out _ HB1.out).mono ?_
  rintro e w2 ⟨C, rfl, hC, hb2⟩
  have HR := Lib.hid (And.intro hC (below_up HB1.out hb2))
  clear hC hb2
  go_wp2_with fail
  refine (H3.out _ _).mono ?_
  rintro e w3 ⟨r, rfl, hr, rfl⟩
  have HR2 : Hid (r = true → P) := Lib.hid fun h => HR.out.1 (hr h)
  clear hr
  go_wp2
  go_ret2
  exact CmpOut.mk' HR2.out HR.out.2

theorem cd_none {n : Int} {w : World} (hn : 1 ≤ n) (x y : Int) :
    Calls Tryz.prog 144 #[.int .i8 37, .iface 145 (.int .u8 0), .iface 145 (.int .u8 0), .int .i64 n] w (CmpOut True w) := by
  have HS := Lib.hid (fun w => sameTy (tyNone 0) (tyNone 0) w)
  rw [show ((⟨#[78, 111, 110, 101, 84, 121, 112, 101]⟩ : ByteArray).toList == (⟨#[78, 111, 110, 101, 84, 121, 112, 101]⟩ : ByteArray).toList) = true by simp] at HS
  have hn1 : ¬ n < 1 := by omega
  have ha : ∀ W : World, (Instr.typeAssert (.iface 145 (.int .u8 0)) 64 275 true).run Tryz.prog W = .ok (.tuple #[.nilIface, .bool false]) W := fun W => run_typeAssert_lacksB Tryz.underlying275 (by kernel_rfl) (by kernel_rfl) _ _ W
  have hb : ∀ W : World, (Instr.typeAssert (.iface 145 (.int .u8 0)) 64 279 true).run Tryz.prog W = .ok (.tuple #[.nilIface, .bool false]) W := fun W => run_typeAssert_lacksB Tryz.underlying279 (by kernel_rfl) (by kernel_rfl) _ _ W
  have hq : ∀ W : World, (binOp .eql 64 (.iface 145 (.int .u8 0)) (.iface 145 (.int .u8 0))).run Tryz.prog W = .ok (.bool true) W := fun W => by kernel_rfl
  clear hn
  go_enter Tryz.func144, Tryz.ntmps144
  go_wp2_with fail
  refine (HS.out _).mono ?_
  rintro e w1 ⟨rfl, hb1⟩
  have HB1 := Lib.hid hb1
  clear hb1
  go_wp2
  go_ret2
  exact CmpOut.mk' (fun _ => trivial) HB1.out

/-- Values of unlike types, the first neither an int nor a float. -/
theorem cd_un1 {T T' : Nat} {v v' : Value} {nm nm' : ByteArray} {n : Int} {w : World} (hn : 1 ≤ n) (h : TyOk T v nm) (h' : TyOk T' v' nm') (he : (nm.toList == nm'.toList) = false)
    (ha : ∀ W : World, ∃ u, (Instr.typeAssert (.iface T v) 64 117 true).run Tryz.prog W = .ok (.tuple #[u, .bool false]) W)
    (hb : ∀ W : World, ∃ u, (Instr.typeAssert (.iface T v) 64 147 true).run Tryz.prog W = .ok (.tuple #[u, .bool false]) W) :
    Calls Tryz.prog 144 #[.int .i8 37, .iface T v, .iface T' v', .int .i64 n] w (CmpOut False w) := by
  have HS := Lib.hid (fun w => sameTy h h' w)
  rw [he] at HS
  have hn1 : ¬ n < 1 := by omega
  clear h h' he hn
  go_enter Tryz.func144, Tryz.ntmps144
  go_wp2_with fail
  refine (HS.out _).mono ?_
  rintro e w1 ⟨rfl, hb1⟩
  have HB1 := Lib.hid hb1
  clear hb1
  obtain ⟨u1, ha1⟩ := ha w1
  obtain ⟨u2, ha2⟩ := hb w1
  clear ha hb
  go_wp2
  go_ret2
  exact CmpOut.mk' (fun h => nomatch h) HB1.out

/-- An int, and what is neither an int nor a float. -/
theorem cd_unI {T' : Nat} {s : Int} {a : Option Addr} {v' : Value} {nm nm' : ByteArray} {n : Int} {w : World} (hn : 1 ≤ n) (h : TyOk 117 (.agg #[.int .i64 s, .pointer a]) nm) (h' : TyOk T' v' nm') (he : (nm.toList == nm'.toList) = false)
    (hb : ∀ W : World, ∃ u, (Instr.typeAssert (.iface T' v') 64 147 true).run Tryz.prog W = .ok (.tuple #[u, .bool false]) W) :
    Calls Tryz.prog 144 #[.int .i8 37, .iface 117 (.agg #[.int .i64 s, .pointer a]), .iface T' v', .int .i64 n] w (CmpOut False w) := by
  have HS := Lib.hid (fun w => sameTy h h' w)
  rw [he] at HS
  have hn1 : ¬ n < 1 := by omega
  have ha : ∀ W : World, ∀ v, (Instr.typeAssert (.iface 117 v) 64 117 true).run Tryz.prog W = .ok (.tuple #[v, .bool true]) W := fun W _ => by kernel_rfl
  clear h h' he hn
  go_enter Tryz.func144, Tryz.ntmps144
  go_wp2_with fail
  refine (HS.out _).mono ?_
  rintro e w1 ⟨rfl, hb1⟩
  have HB1 := Lib.hid hb1
  clear hb1
  obtain ⟨u2, ha2⟩ := hb (w1.alloc (.cells #[.int .i64 s, .pointer a] 117))
  clear hb
  go_wp2
  go_ret2
  exact CmpOut.mk' (fun h => nomatch h) (below_al HB1.out _)

/-- A float, and what is neither an int nor a float. -/
theorem cd_unF {T' : Nat} {u : Nat} {v' : Value} {nm nm' : ByteArray} {n : Int} {w : World} (hn : 1 ≤ n) (h : TyOk 147 (.float .f64 u) nm) (h' : TyOk T' v' nm') (he : (nm.toList == nm'.toList) = false)
    (hb : ∀ W : World, (Instr.typeAssert (.iface T' v') 64 117 true).run Tryz.prog W = .ok (.tuple #[.agg #[.int .i64 0, .pointer none], .bool false]) W) :
    Calls Tryz.prog 144 #[.int .i8 37, .iface 147 (.float .f64 u), .iface T' v', .int .i64 n] w (CmpOut False w) := by
  have HS := Lib.hid (fun w => sameTy h h' w)
  rw [he] at HS
  have hn1 : ¬ n < 1 := by omega
  have ha : ∀ W : World, ∀ v, (Instr.typeAssert (.iface 147 v) 64 147 true).run Tryz.prog W = .ok (.tuple #[v, .bool true]) W := fun W _ => by kernel_rfl
  have hd : ∀ W : World, ∀ v, (Instr.typeAssert (.iface 147 v) 64 117 true).run Tryz.prog W = .ok (.tuple #[.agg #[.int .i64 0, .pointer none], .bool false]) W := fun W _ => by kernel_rfl
  clear h h' he hn
  go_enter Tryz.func144, Tryz.ntmps144
  go_wp2_with fail
  refine (HS.out _).mono ?_
  rintro e w1 ⟨rfl, hb1⟩
  have HB1 := Lib.hid hb1
  clear hb1
  go_wp2
  go_ret2
  exact CmpOut.mk' (fun h => nomatch h) (below_al HB1.out _)
end Go.Proofs.YtloloifngbmibaaGreatDoor
set_option linter.unusedVariables false
set_option linter.unusedSimpArgs false
set_option maxRecDepth 4000
namespace Go.Proofs.YtloloifngbmibaaGreatDoor
open Go.RowKit

theorem not63 (u : Nat) (hu : u < 18446744073709551616) : bits .andNot .u64 (u : Int) 9223372036854775808 = ((u % 9223372036854775808 : Nat) : Int) := by
  have h := u64_andNot_nat u 9223372036854775808 hu (by decide)
  rw [show ((9223372036854775808 : Nat) : Int) = 9223372036854775808 from rfl] at h
  rw [h, show (18446744073709551615 - 9223372036854775808 : Nat) = 2 ^ 63 - 1 from rfl, Nat.and_two_pow_sub_one_eq_mod]
theorem ffb_call (u : Nat) (w : World) : (callFunc 63 #[.int .u64 (u : Int)]).run Tryz.prog w = .ok (.value (.float .f64 u)) w := by
  rw [run_callFunc_extern Tryz.func63 (by kernel_rfl) (by kernel_rfl) (by kernel_rfl) (e := Extern.MathFloatBits.float64frombits) (by kernel_rfl)]
  rfl
theorem abs_any (u : Nat) (hu : u < 18446744073709551616) (w : World) : Calls Tryz.prog 145 #[.float .f64 u] w fun e w' => e = .returned (.float .f64 (u % 9223372036854775808)) ∧ w' = w := by
  have h1 := not63 u hu
  have h2 := fun w => fbits_call u w
  obtain ⟨y, hy⟩ : ∃ y, y = u % 9223372036854775808 := ⟨_, rfl⟩
  rw [← hy] at h1 ⊢
  have h3 := fun w => ffb_call y w
  clear hu hy
  go_enter Tryz.func145, Tryz.ntmps145
  go_wp2
  go_ret
  exact ⟨rfl, rfl⟩
theorem fcl_abs (u : Nat) (hu : u < 18446744073709551616) : fcl (u % 9223372036854775808) = match fcl u with | .fin x => .fin (x.natAbs : Int) | .inf _ => .inf false | .nan => .nan := by
  have h1 : fex (u % 9223372036854775808) = fex u := by unfold fex; omega
  have h2 : u % 9223372036854775808 % 4503599627370496 = u % 4503599627370496 := by omega
  have h3 : fm (u % 9223372036854775808) = fm u := by unfold fm; rw [h1, h2]
  have h4 : fs (u % 9223372036854775808) = fs u := by unfold fs; rw [h1]
  have h5 : fabs (u % 9223372036854775808) = fabs u := by unfold fabs; rw [h3, h4]
  unfold fcl
  rw [h1, h2]
  by_cases hf : fex u ≠ 2047
  · rw [if_pos hf, if_pos hf]
    simp only
    congr 1
    unfold fv
    rw [h5, if_neg (by omega)]
    split <;> omega
  · rw [if_neg hf, if_neg hf]
    by_cases hz : u % 4503599627370496 = 0
    · rw [if_pos hz, if_pos hz]
      simp only
      congr 1
      simp
      omega
    · rw [if_neg hz, if_neg hz]

/-- Is a class infinite? -/
def Fc.big : Fc → Bool
  | .inf _ => true
  | _ => false
def Fc.isFin : Fc → Bool
  | .fin _ => true
  | _ => false
theorem isFin_fex {u : Nat} (h : (fcl u).isFin = true) : fex u ≠ 2047 := by
  unfold fcl at h
  by_cases hf : fex u ≠ 2047
  · exact hf
  · rw [if_neg hf] at h
    split at h <;> simp [Fc.isFin] at h
theorem isInf_any (u : Nat) (hu : u < 18446744073709551616) (w : World) : Calls Tryz.prog 136 #[.float .f64 u, .int .i64 0] w fun e w' => e = .returned (.bool (fcl u).big) ∧ w' = w := by
  have HA := Lib.hid (fun w => abs_any u hu w)
  have hb : (FloatKind.f64.format.order (u % 9223372036854775808) 9218868437227405311 == some Ordering.gt) = (fcl u).big := by
    rw [gt_max _ (by omega), fcl_abs u hu]
    cases fcl u <;> simp [Fc.big]
  obtain ⟨y, hy⟩ : ∃ y, y = u % 9223372036854775808 := ⟨_, rfl⟩
  rw [← hy] at HA hb
  clear hu hy
  go_enter Tryz.func136, Tryz.ntmps136
  go_wp2_with fail
  refine (HA.out _).mono ?_
  rintro e w1 ⟨rfl, rfl⟩
  go_wp2
  go_ret
  exact ⟨rfl, rfl⟩
theorem le_max (u : Nat) (hu : u < 18446744073709551616) (hs : u < 9223372036854775808) : (FloatKind.f64.format.order u 9218868437227405311 == some Ordering.lt || FloatKind.f64.format.order u 9218868437227405311 == some Ordering.eq) = (fcl u).isFin := by
  rw [ord_any u _ hu (by decide), fcl_max]
  cases h : fcl u with
  | nan => rfl
  | inf s =>
    unfold fcl at h
    split at h
    · cases h
    · split at h
      · injection h with h
        rw [decide_eq_false (by omega)] at h
        subst h
        rfl
      · cases h
  | fin x =>
    have h1 := (fcl_le h).2
    show (some (compare x maxV) == some Ordering.lt || some (compare x maxV) == some Ordering.eq) = true
    by_cases he : x = maxV
    · subst he
      simp
    · rw [Int.compare_eq_lt.2 (by omega)]
      rfl
theorem isFinite_any (u : Nat) (hu : u < 18446744073709551616) (w : World) : Calls Tryz.prog 328 #[.float .f64 u] w fun e w' => e = .returned (.bool (fcl u).isFin) ∧ w' = w := by
  have HA := Lib.hid (fun w => abs_any u hu w)
  have hb := le_max (u % 9223372036854775808) (by omega) (by omega)
  have hc : (fcl (u % 9223372036854775808)).isFin = (fcl u).isFin := by
    rw [fcl_abs u hu]
    cases fcl u <;> rfl
  rw [hc] at hb
  obtain ⟨y, hy⟩ : ∃ y, y = u % 9223372036854775808 := ⟨_, rfl⟩
  rw [← hy] at HA hb
  clear hu hy hc
  go_enter Tryz.func328, Tryz.ntmps328
  go_wp2_with fail
  refine (HA.out _).mono ?_
  rintro e w1 ⟨rfl, rfl⟩
  go_wp2
  go_ret
  exact ⟨rfl, rfl⟩
end Go.Proofs.YtloloifngbmibaaGreatDoor
set_option linter.unusedVariables false
set_option linter.unusedSimpArgs false
set_option maxRecDepth 4000
namespace Go.Proofs.YtloloifngbmibaaGreatDoor
open Go.RowKit Go.Extern.Stop Go.Stop

theorem un_IF : ((⟨#[105, 110, 116]⟩ : ByteArray).toList == (⟨#[102, 108, 111, 97, 116]⟩ : ByteArray).toList) = false := by decide +kernel
theorem un_FI : ((⟨#[102, 108, 111, 97, 116]⟩ : ByteArray).toList == (⟨#[105, 110, 116]⟩ : ByteArray).toList) = false := by decide +kernel
theorem aI (W : World) (v : Value) : (Instr.typeAssert (.iface 117 v) 64 117 true).run Tryz.prog W = .ok (.tuple #[v, .bool true]) W := by kernel_rfl
theorem aF (W : World) (v : Value) : (Instr.typeAssert (.iface 147 v) 64 147 true).run Tryz.prog W = .ok (.tuple #[v, .bool true]) W := by kernel_rfl
theorem aFI (W : World) (v : Value) : (Instr.typeAssert (.iface 147 v) 64 117 true).run Tryz.prog W = .ok (.tuple #[.agg #[.int .i64 0, .pointer none], .bool false]) W := by kernel_rfl

/-- The two fractions, compared. -/
def IFeq (x : Int) (u : Nat) : Prop := ∀ N, N = 1074 → fcl u = .fin (x * 2 ^ N)

theorem cd_IF {B : Nat} {s : Int} {a : Option Addr} {x : Int} {u : Nat} {n : Int} {w : World} (hn : 1 ≤ n) (h : SI B (.agg #[.int .i64 s, .pointer a]) x w) (hu : u < 18446744073709551616) (hG : GL w) :
    Calls Tryz.prog 144 #[.int .i8 37, .iface 117 (.agg #[.int .i64 s, .pointer a]), .iface 147 (.float .f64 u), .int .i64 n] w (CmpOut (IFeq x u) w) := by
  have HS := Lib.hid (fun w => sameTy (tyInt s a) (tyFlt u) w)
  rw [un_IF] at HS
  have hn1 : ¬ n < 1 := by omega
  have h1 := fun W v => aI W v
  have h2 := fun W v => aF W v
  have hnan := nan_ord u hu
  have HI := Lib.hid (fun w => isInf_any u hu w)
  have HR := Lib.hid (fun W (hW : Below w.heap.size w W) => ratS_any (h.up hW))
  have HF := Lib.hid (fun W (hf : fex u ≠ 2047) => ratF_any u hu hf W)
  have HQ := Lib.hid (fun W (hW : Below w.heap.size w W) => hG.up hW)
  have H3 := Lib.hid (fun c w => three37 c w)
  clear h hn hG hu
  cases hc : fcl u with
  | nan =>
    rw [hc, show decide (Fc.nan = Fc.nan) = true by simp] at hnan
    go_enter Tryz.func144, Tryz.ntmps144
    go_wp2_with fail
    refine (HS.out _).mono ?_
    rintro e w1 ⟨rfl, hb1⟩
    have HB1 := Lib.hid (below_al hb1 (.cells #[.int .i64 s, .pointer a] 117))
    clear hb1
    go_wp2_with fail
    refine (H3.out _ _).mono ?_
    rintro e w3 ⟨r, rfl, hr, rfl⟩
    have hr' : r = false := by cases r <;> simp_all
    subst hr'
    go_wp2
    go_ret2
    exact CmpOut.mk' (fun h => nomatch h) HB1.out
  | inf sg =>
    rw [hc] at hnan HI
    rw [show decide (Fc.inf sg = Fc.nan) = false by simp] at hnan
    simp only [Fc.big] at HI
    go_enter Tryz.func144, Tryz.ntmps144
    go_wp2_with fail
    refine (HS.out _).mono ?_
    rintro e w1 ⟨rfl, hb1⟩
    have HB1 := Lib.hid (below_al hb1 (.cells #[.int .i64 s, .pointer a] 117))
    clear hb1
    go_wp2_with fail
    refine (HI.out _).mono ?_
    rintro e w2 ⟨rfl, rfl⟩
    cases ho : (FloatKind.f64.format.order u 0 == some Ordering.gt)
    all_goals
      go_wp2_with fail
      refine (H3.out _ _).mono ?_
      rintro e w3 ⟨r, rfl, hr, rfl⟩
      have hr' : r = false := by cases r <;> simp_all
      subst hr'
      go_wp2
      go_ret2
      exact CmpOut.mk' (fun h => nomatch h) HB1.out
  | fin y =>
    rw [hc] at hnan HI
    rw [show decide (Fc.fin y = Fc.nan) = false by simp] at hnan
    simp only [Fc.big] at HI
    have hf : fex u ≠ 2047 := isFin_fex (by rw [hc]; rfl)
    have HFR := Lib.hid hf
    clear hf
    go_enter Tryz.func144, Tryz.ntmps144
    go_wp2_with fail
    refine (HS.out _).mono ?_
    rintro e w1 ⟨rfl, hb1⟩
    have HB1 := Lib.hid (below_al hb1 (.cells #[.int .i64 s, .pointer a] 117))
    clear hb1
    go_wp2_with fail
    refine (HI.out _).mono ?_
    rintro e w2 ⟨rfl, rfl⟩
    go_wp2_with fail
    refine (HR.out _ HB1.out).mono ?_
    rintro e w3 ⟨b1, rfl, hQ1, hb3⟩
    have HB3 := Lib.hid (below_up HB1.out hb3)
    have HQ1 := Lib.hid hQ1
    clear hQ1 hb3
    go_wp2_with fail
    refine (HF.out _ HFR.out).mono ?_
    rintro e w4 ⟨b2, p, q, rfl, hQ2, hv, hq, hb4⟩
    have HB4 := Lib.hid (below_up HB3.out hb4)
    have HQ3 := Lib.hid (HQ1.out.up hb4)
    have HQ2 := Lib.hid hQ2
    have HV := Lib.hid (And.intro hv hq)
    clear hQ2 hb4 hv hq HQ1
    go_wp2_with fail
    refine (ratCmpQ HQ3.out HQ2.out (HQ.out _ HB4.out)).mono ?_
    rintro e w5 ⟨C, rfl, hC, hb5⟩
    have HB5 := Lib.hid (below_up HB4.out hb5)
    have HC : Hid (C = 0 → IFeq x u) := Lib.hid fun h => by
      obtain ⟨e1, e2⟩ := hC h
      exact fun N hN => frac_eq N hN HFR.out HV.out.1 HV.out.2 e1 (by rw [e2])
    clear hC hb5
    go_wp2_with fail
    refine (H3.out _ _).mono ?_
    rintro e w6 ⟨r, rfl, hr, rfl⟩
    have HR2 : Hid (r = true → IFeq x u) := Lib.hid fun h => HC.out (hr h)
    clear hr
    go_wp2
    go_ret2
    exact CmpOut.mk' HR2.out HB5.out
/-- The box of the asserted int. -/
abbrev BxF (w : World) (g : Nat) (p q : Value) (W : World) : Prop := Below w.heap.size w W ∧ W.cell? ⟨g, 0, none⟩ = some p ∧ W.cell? ⟨g, 1, none⟩ = some q
theorem BxF.up {w : World} {g : Nat} {p q : Value} {W W' : World} (h : BxF w g p q W) (hb : Below W.heap.size W W') : BxF w g p q W' := ⟨below_up h.1 hb, cell_up hb h.2.1, cell_up hb h.2.2⟩
theorem BxF.start {w w1 : World} {p q : Value} (h : Below w.heap.size w (w1.alloc (.cells #[p, q] 117))) : BxF w w1.heap.size p q (w1.alloc (.cells #[p, q] 117)).drew := ⟨h.drew, by simp, by simp⟩

theorem cd_FI {B : Nat} {s : Int} {a : Option Addr} {x : Int} {u : Nat} {n : Int} {w : World} (hn : 1 ≤ n) (h : SI B (.agg #[.int .i64 s, .pointer a]) x w) (hu : u < 18446744073709551616) (hG : GL w) :
    Calls Tryz.prog 144 #[.int .i8 37, .iface 147 (.float .f64 u), .iface 117 (.agg #[.int .i64 s, .pointer a]), .int .i64 n] w (CmpOut (IFeq x u) w) := by
  have HS := Lib.hid (fun w => sameTy (tyFlt u) (tyInt s a) w)
  rw [un_FI] at HS
  have hn1 : ¬ n < 1 := by omega
  have h1 := fun W v => aI W v
  have h2 := fun W v => aF W v
  have h3 := fun W v => aFI W v
  have hnan := nan_ord u hu
  have HI := Lib.hid (fun w => isInf_any u hu w)
  have HR := Lib.hid (fun W (hW : Below w.heap.size w W) => ratS_any (h.up hW))
  have HF := Lib.hid (fun W (hf : fex u ≠ 2047) => ratF_any u hu hf W)
  have HQ := Lib.hid (fun W (hW : Below w.heap.size w W) => hG.up hW)
  have H3 := Lib.hid (fun c w => three37 c w)
  clear h hn hG hu
  cases hc : fcl u with
  | nan =>
    rw [hc, show decide (Fc.nan = Fc.nan) = true by simp] at hnan
    go_enter Tryz.func144, Tryz.ntmps144
    go_wp2_with fail
    refine (HS.out _).mono ?_
    rintro e w1 ⟨rfl, hb1⟩
    have HB1 := Lib.hid (below_al hb1 (.cells #[.int .i64 s, .pointer a] 117))
    clear hb1
    go_wp2_with fail
    refine (H3.out _ _).mono ?_
    rintro e w3 ⟨r, rfl, hr, rfl⟩
    have hr' : r = false := by cases r <;> simp_all
    subst hr'
    go_wp2
    go_ret2
    exact CmpOut.mk' (fun h => nomatch h) HB1.out
  | inf sg =>
    rw [hc] at hnan HI
    rw [show decide (Fc.inf sg = Fc.nan) = false by simp] at hnan
    simp only [Fc.big] at HI
    go_enter Tryz.func144, Tryz.ntmps144
    go_wp2_with fail
    refine (HS.out _).mono ?_
    rintro e w1 ⟨rfl, hb1⟩
    have HB1 := Lib.hid (below_al hb1 (.cells #[.int .i64 s, .pointer a] 117))
    clear hb1
    go_wp2_with fail
    refine (HI.out _).mono ?_
    rintro e w2 ⟨rfl, rfl⟩
    cases ho : (FloatKind.f64.format.order u 0 == some Ordering.gt)
    all_goals
      go_wp2_with fail
      refine (H3.out _ _).mono ?_
      rintro e w3 ⟨r, rfl, hr, rfl⟩
      have hr' : r = false := by cases r <;> simp_all
      subst hr'
      go_wp2
      go_ret2
      exact CmpOut.mk' (fun h => nomatch h) HB1.out
  | fin y =>
    rw [hc] at hnan HI
    rw [show decide (Fc.fin y = Fc.nan) = false by simp] at hnan
    simp only [Fc.big] at HI
    have hf : fex u ≠ 2047 := isFin_fex (by rw [hc]; rfl)
    have HFR := Lib.hid hf
    clear hf
    go_enter Tryz.func144, Tryz.ntmps144
    go_wp2_with fail
    refine (HS.out _).mono ?_
    rintro e w1 ⟨rfl, hb1⟩
    have HB1 := Lib.hid (below_al hb1 (.cells #[.int .i64 s, .pointer a] 117))
    clear hb1
    go_wp2_with fail
    refine (HI.out _).mono ?_
    rintro e w2 ⟨rfl, rfl⟩
    have H0 : Hid (BxF w w1.heap.size (.int .i64 s) (.pointer a) _) := Lib.hid (BxF.start HB1.out)
    go_wp2_with fail
    go_region_held3 (BxF w w1.heap.size (.int .i64 s) (.pointer a))
      (first | assumption | exact H0.out | exact ((‹BxF _ _ _ _ _›).up ‹Below _ _ _›) | exact (H0.out.up ‹Below _ _ _›))
      (first
        | ((with_reducible refine (HF.out _ HFR.out).mono ?_); rintro e w3 ⟨b2, p, q, rfl, hQ2, hv, hq, hb3⟩)
        | ((with_reducible refine (HR.out _ ?_).mono ?_); exact (‹BxF _ _ _ _ _›).1; rintro e w4 ⟨b1, rfl, hQ1, hb4⟩)
        | ((with_reducible refine (ratCmpQ (hQ2.up hb4) hQ1 (HQ.out _ ?_)).mono ?_); exact (‹BxF _ _ _ _ _›).1; rintro e w5 ⟨C, rfl, hC, hb5⟩)
        | ((with_reducible refine (ratCmpQ hQ2 (hQ1.up hb3) (HQ.out _ ?_)).mono ?_); exact (‹BxF _ _ _ _ _›).1; rintro e w5 ⟨C, rfl, hC, hb5⟩))
    have HB5 := Lib.hid (‹BxF _ _ _ _ _›).1
    have HC : Hid (C = 0 → IFeq x u) := Lib.hid fun h => by
      obtain ⟨e1, e2⟩ := hC h
      exact fun N hN => frac_eq N hN HFR.out hv hq e1.symm (by rw [e2])
    clear hC H0
    go_wp2_with fail
    refine (H3.out _ _).mono ?_
    rintro e w6 ⟨r, rfl, hr, rfl⟩
    have HR2 : Hid (r = true → IFeq x u) := Lib.hid fun h => HC.out (hr h)
    clear hr
    go_wp2
    go_ret2
    exact CmpOut.mk' HR2.out HB5.out
end Go.Proofs.YtloloifngbmibaaGreatDoor
