/- Values of the language with all that they hold, each in blocks of its own. Dict.SetKey, Dict.Len, Set.Insert, Set.Len; the thin package's dict and set. The thin package's dict. The thin package's set. The reference's Hashable, to the letter. -/
import Derived.Test.YtloloifngbmibaaGreatDoorM24
import Derived.Test.YtloloifngbmibaaGreatDoorM07
import Derived.Test.YtloloifngbmibaaGreatDoorM28
import Derived.Test.YtloloifngbmibaaGreatDoorM23
set_option linter.unusedVariables false
set_option linter.unusedSimpArgs false
set_option maxRecDepth 4000
namespace Go.Proofs.YtloloifngbmibaaGreatDoor
open Go.RowKit

def Itv (a b k : Nat) : Prop := a ≤ k ∧ k < b
theorem Itv.wide {a b a' b' k : Nat} (h : Itv a b k) (ha : a' ≤ a) (hb : b ≤ b') : Itv a' b' k := ⟨Nat.le_trans ha h.1, Nat.lt_of_lt_of_le h.2 hb⟩
/-- An int of the package in blocks from a on, below b. -/
def SMI (a b : Nat) (v : Value) (x : Int) (W : World) : Prop :=
  (v = .agg #[.int .i64 x, .pointer none] ∧ -2147483648 ≤ x ∧ x ≤ 2147483647) ∨
  ∃ (g : Nat) (neg : Bool) (ws : List Int) (u : Value), v = .agg #[.int .i64 0, .pointer (some ⟨g, 0, none⟩)] ∧ Blk W g 189 #[.bool neg, u] ∧ SlV W (Itv a b) .u64 u ws ∧ Itv a b g ∧ WL ws ∧ Nrm ws ∧ 0 < ws.length ∧ ws.length ≤ 30 ∧ wv neg ws = x
section
variable {a b a' b' : Nat} {v : Value} {x : Int} {W W' : World}
theorem SMI.keep (h : SMI a b v x W) (hb : Still (Itv a b) W W') : SMI a b v x W' := by
  rcases h with h | ⟨g, neg, ws, u, h1, h2, h3, h4, h5⟩
  · exact .inl h
  · exact .inr ⟨g, neg, ws, u, h1, h2.keep (hb g h4), h3.keep hb, h4, h5⟩
theorem SMI.wide (h : SMI a b v x W) (ha : a' ≤ a) (hb : b ≤ b') : SMI a' b' v x W := by
  rcases h with h | ⟨g, neg, ws, u, h1, h2, h3, h4, h5⟩
  · exact .inl h
  · exact .inr ⟨g, neg, ws, u, h1, h2, h3.mono (fun k hk => hk.wide ha hb), h4.wide ha hb, h5⟩
theorem SMI.sm (h : SMI a b v x W) : SM b v x W := by
  rcases h with h | ⟨g, neg, ws, u, h1, h2, h3, h4, h5⟩
  · exact .inl h
  · exact .inr ⟨g, neg, ws, u, h1, h2, h3.mono (fun k hk => hk.2), h4.2, h5⟩
theorem SI.smi {B : Nat} (h : SI B v x W) : SMI B W.heap.size v x W := by
  rcases h with h | ⟨g, neg, ws, u, h1, h2, h3, h4, h5⟩
  · exact .inl h
  · exact .inr ⟨g, neg, ws, u, h1, h2, h3, ⟨h4, h2.lt⟩, h5⟩
end

/-- A flat value in an interface, as a tree. -/
inductive FVF (a b : Nat) (t : Tr) (W : World) : Value → Prop
  | none (h : t.k = 0) : FVF a b t W (.iface 145 (.int .u8 0))
  | bool (h : t.k = 1) : FVF a b t W (.iface 146 (.bool (t.bits == 1)))
  | int (v : Value) (h : t.k = 2) (hs : SMI a b v (iv t.neg t.mag) W) : FVF a b t W (.iface 117 v)
  | flt (h : t.k = 3) : FVF a b t W (.iface 147 (.float .f64 t.bits.toNat))
  | str (h : t.k = 4) : FVF a b t W (.iface 149 (.string t.text))
  | byt (h : t.k = 5) : FVF a b t W (.iface 150 (.string t.text))
/-- Keys and values by turns. -/
def flatE : List En → List Value
  | [] => []
  | e :: es => e.k :: e.v :: flatE es
/-- Values, each in blocks of its own, one behind the other. -/
def FVsOf (R : Nat → Nat → Tr → World → Value → Prop) (a b : Nat) (ts : List Tr) (W : World) (ys : List Value) : Prop :=
  ys.length = ts.length ∧ ∃ Bd : Nat → Nat, a ≤ Bd 0 ∧ (∀ i, i < ts.length → Bd i ≤ Bd (i + 1)) ∧ Bd ts.length ≤ b ∧ ∀ (i : Nat) (y : Value) (u : Tr), ys[i]? = some y → ts[i]? = some u → R (Bd i) (Bd (i + 1)) u W y
/-- What the entries of a table are: hashes that are not 0. -/
def HzE (es : List En) : Prop := ∀ e ∈ es, e.h ≠ 0
def noneV : Value := .iface 145 (.int .u8 0)
/-- A value of the language; fz: is what can be changed frozen? -/
def FV (fz : Bool) : Nat → Nat → Nat → Tr → World → Value → Prop
  | 0, a, b, t, W, v => FVF a b t W v
  | d + 1, a, b, t, W, v => FVF a b t W v ∨
      (t.k = 7 ∧ ∃ A c ys m, v = .iface 101 (.slice A t.kids.length c) ∧ t.kids.length ≤ c ∧ a ≤ m ∧ Rd W (Itv a m) A ys ∧ FVsOf (FV fz d) m b t.kids W ys) ∨
      (t.k = 6 ∧ ∃ A c ys m g, v = .iface 99 (.pointer (some ⟨g, 0, none⟩)) ∧ Blk W g 158 #[.slice A t.kids.length c, .bool fz, .int .u32 0] ∧ t.kids.length ≤ c ∧ a ≤ m ∧ m ≤ g ∧ g < b ∧ Rd W (Itv a m) A ys ∧ FVsOf (FV fz d) m g t.kids W ys) ∨
      (t.k = 8 ∧ ∃ es g, v = .iface 102 (.pointer (some ⟨g, 0, none⟩)) ∧ Blk W g 174 (htC g es fz).toArray ∧ a ≤ g ∧ g < b ∧ HzE es ∧ FVsOf (FV fz d) a g t.kids W (flatE es)) ∨
      (t.k = 9 ∧ ∃ es g, v = .iface 105 (.pointer (some ⟨g, 0, none⟩)) ∧ Blk W g 175 (htC g es fz).toArray ∧ a ≤ g ∧ g < b ∧ HzE es ∧ (∀ e ∈ es, e.v = noneV) ∧ FVsOf (FV fz d) a g t.kids W (es.map En.k))
theorem FVF.keep {a b : Nat} {t : Tr} {W W' : World} {v : Value} (h : FVF a b t W v) (hb : Still (Itv a b) W W') : FVF a b t W' v := by
  cases h with
  | none h => exact .none h
  | bool h => exact .bool h
  | int v h hs => exact .int v h (hs.keep hb)
  | flt h => exact .flt h
  | str h => exact .str h
  | byt h => exact .byt h
theorem FVF.wide {a b a' b' : Nat} {t : Tr} {W : World} {v : Value} (h : FVF a b t W v) (ha : a' ≤ a) (hb : b ≤ b') : FVF a' b' t W v := by
  cases h with
  | none h => exact .none h
  | bool h => exact .bool h
  | int v h hs => exact .int v h (hs.wide ha hb)
  | flt h => exact .flt h
  | str h => exact .str h
  | byt h => exact .byt h
theorem FVF.svf {a b : Nat} {t : Tr} {W : World} {v : Value} (h : FVF a b t W v) : SVF b t W v := by
  cases h with
  | none h => exact .none h
  | bool h => exact .bool h
  | int v h hs => exact .int v h hs.sm
  | flt h => exact .flt h
  | str h => exact .str h
  | byt h => exact .byt h
theorem bd_le {Bd : Nat → Nat} {n : Nat} (h : ∀ i, i < n → Bd i ≤ Bd (i + 1)) : ∀ {i j : Nat}, i ≤ j → j ≤ n → Bd i ≤ Bd j := by
  intro i j hij hj
  induction j with
  | zero => rw [Nat.le_zero.1 hij]; exact Nat.le_refl _
  | succ j ih =>
    rcases Nat.lt_or_ge i (j + 1) with h1 | h1
    · exact Nat.le_trans (ih (by omega) (by omega)) (h j (by omega))
    · rw [show i = j + 1 by omega]; exact Nat.le_refl _
theorem FVsOf.keep {R : Nat → Nat → Tr → World → Value → Prop} {a b : Nat} {ts : List Tr} {W W' : World} {ys : List Value} (h : FVsOf R a b ts W ys) (hb : Still (Itv a b) W W') (hR : ∀ {a' b' : Nat} {u : Tr} {y : Value}, R a' b' u W y → Still (Itv a' b') W W' → R a' b' u W' y) : FVsOf R a b ts W' ys := by
  obtain ⟨hl, Bd, h0, h1, h2, h3⟩ := h
  refine ⟨hl, Bd, h0, h1, h2, fun i y u hy hu => hR (h3 i y u hy hu) (hb.mono (fun k hk => hk.wide ?_ ?_))⟩
  · exact Nat.le_trans h0 (bd_le h1 (Nat.zero_le _) (by have := (List.getElem?_eq_some_iff.1 hu).1; omega))
  · exact Nat.le_trans (bd_le h1 (by have := (List.getElem?_eq_some_iff.1 hu).1; omega) (Nat.le_refl _)) h2
theorem FVsOf.wide {R : Nat → Nat → Tr → World → Value → Prop} {a b a' b' : Nat} {ts : List Tr} {W : World} {ys : List Value} (h : FVsOf R a b ts W ys) (ha : a' ≤ a) (hb : b ≤ b') : FVsOf R a' b' ts W ys := by
  obtain ⟨hl, Bd, h0, h1, h2, h3⟩ := h
  exact ⟨hl, Bd, Nat.le_trans ha h0, h1, Nat.le_trans h2 hb, h3⟩
theorem FV.keep {fz : Bool} {W W' : World} : ∀ {d a b : Nat} {t : Tr} {v : Value}, FV fz d a b t W v → Still (Itv a b) W W' → FV fz d a b t W' v
  | 0, _, _, _, _, h, hb => FVF.keep h hb
  | d + 1, a, b, t, _, h, hb => by
    rcases h with h | ⟨hk, A, c, ys, m, e, hc, hm, hr, hx⟩ | ⟨hk, A, c, ys, m, g, e, hB, hc, hm, hmg, hg, hr, hx⟩ | ⟨hk, es, g, e, hB, hag, hg, hz, hx⟩ | ⟨hk, es, g, e, hB, hag, hg, hz, hv, hx⟩
    · exact .inl (h.keep hb)
    · refine .inr (.inl ⟨hk, A, c, ys, m, e, hc, hm, ?_, hx.keep (hb.mono (fun k hk => hk.wide hm (Nat.le_refl _))) FV.keep⟩)
      by_cases h0 : m ≤ b
      · exact hr.keep (hb.mono (fun k hk => hk.wide (Nat.le_refl _) h0))
      · exact absurd (Nat.le_trans hx.2.choose_spec.1 (Nat.le_trans (bd_le hx.2.choose_spec.2.1 (Nat.zero_le _) (Nat.le_refl _)) hx.2.choose_spec.2.2.1)) h0
    · exact .inr (.inr (.inl ⟨hk, A, c, ys, m, g, e, hB.keep (hb g ⟨Nat.le_trans hm hmg, hg⟩), hc, hm, hmg, hg, hr.keep (hb.mono (fun k hk => hk.wide (Nat.le_refl _) (by omega))), hx.keep (hb.mono (fun k hk => hk.wide hm (by omega))) FV.keep⟩))
    · exact .inr (.inr (.inr (.inl ⟨hk, es, g, e, hB.keep (hb g ⟨hag, hg⟩), hag, hg, hz, hx.keep (hb.mono (fun k hk => hk.wide (Nat.le_refl _) (by omega))) FV.keep⟩)))
    · exact .inr (.inr (.inr (.inr ⟨hk, es, g, e, hB.keep (hb g ⟨hag, hg⟩), hag, hg, hz, hv, hx.keep (hb.mono (fun k hk => hk.wide (Nat.le_refl _) (by omega))) FV.keep⟩)))
theorem FV.wide {fz : Bool} {W : World} : ∀ {d a b a' b' : Nat} {t : Tr} {v : Value}, FV fz d a b t W v → a' ≤ a → b ≤ b' → FV fz d a' b' t W v
  | 0, _, _, _, _, _, _, h, ha, hb => FVF.wide h ha hb
  | d + 1, a, b, a', b', t, _, h, ha, hb => by
    rcases h with h | ⟨hk, A, c, ys, m, e, hc, hm, hr, hx⟩ | ⟨hk, A, c, ys, m, g, e, hB, hc, hm, hmg, hg, hr, hx⟩ | ⟨hk, es, g, e, hB, hag, hg, hz, hx⟩ | ⟨hk, es, g, e, hB, hag, hg, hz, hv, hx⟩
    · exact .inl (h.wide ha hb)
    · exact .inr (.inl ⟨hk, A, c, ys, m, e, hc, Nat.le_trans ha hm, hr.mono (fun k hk => hk.wide ha (Nat.le_refl _)), hx.wide (Nat.le_refl _) hb⟩)
    · exact .inr (.inr (.inl ⟨hk, A, c, ys, m, g, e, hB, hc, Nat.le_trans ha hm, hmg, Nat.lt_of_lt_of_le hg hb, hr.mono (fun k hk => hk.wide ha (Nat.le_refl _)), hx⟩))
    · exact .inr (.inr (.inr (.inl ⟨hk, es, g, e, hB, Nat.le_trans ha hag, Nat.lt_of_lt_of_le hg hb, hz, hx.wide ha (Nat.le_refl _)⟩)))
    · exact .inr (.inr (.inr (.inr ⟨hk, es, g, e, hB, Nat.le_trans ha hag, Nat.lt_of_lt_of_le hg hb, hz, hv, hx.wide ha (Nat.le_refl _)⟩)))
/-- As a key it is what keys are. -/
theorem FV.sval {fz : Bool} {W : World} : ∀ {d a b : Nat} {t : Tr} {v : Value}, FV fz d a b t W v → SVal b d t W v
  | 0, _, _, _, _, h => FVF.svf h
  | d + 1, a, b, t, _, h => by
    rcases h with h | ⟨hk, A, c, ys, m, e, hc, hm, hr, hx⟩ | ⟨hk, A, c, ys, m, g, e, hB, hc, hm, hmg, hg, hr, hx⟩ | ⟨hk, es, g, e, hB, hag, hg, hz, hx⟩ | ⟨hk, es, g, e, hB, hag, hg, hz, hv, hx⟩
    · exact .inl h.svf
    · obtain ⟨hl, Bd, h0, h1, h2, h3⟩ := hx
      have hmb : m ≤ b := Nat.le_trans h0 (Nat.le_trans (bd_le h1 (Nat.zero_le _) (Nat.le_refl _)) h2)
      refine .inr (.inl ⟨hk, A, c, ys, e, hc, hl, hr.mono (fun k hk => Nat.lt_of_lt_of_le hk.2 hmb), fun i y u hy hu => ?_⟩)
      refine SVal.mono ?_ (FV.sval (h3 i y u hy hu))
      exact Nat.le_trans (bd_le h1 (by have := (List.getElem?_eq_some_iff.1 hu).1; omega) (Nat.le_refl _)) h2
    · exact .inr (.inr (.inl ⟨hk, _, e⟩))
    · exact .inr (.inr (.inr (.inl ⟨hk, _, e⟩)))
    · exact .inr (.inr (.inr (.inr ⟨hk, _, e⟩)))
end Go.Proofs.YtloloifngbmibaaGreatDoor
set_option linter.unusedVariables false
set_option linter.unusedSimpArgs false
set_option maxRecDepth 4000
namespace Go.Proofs.YtloloifngbmibaaGreatDoor
open Go.RowKit

def InsO (g : Nat) (T : TypeId) (es : List En) (kv v : Value) (w : World) (e : Ending) (w' : World) : Prop := e = .returned .nilIface ∧ ∃ h, h ≠ 0 ∧ Blk w' g T (htC g (es ++ [⟨h, kv, v⟩]) false).toArray ∧ But (fun k => k = g) w w'
theorem HashM.mono {P P' : World → Prop} {v : Value} (h : HashM P v) (hp : ∀ W, P' W → P W) : HashM P' v := by
  obtain ⟨T, x, F, h1, h2, h3, h4⟩ := h
  exact ⟨T, x, F, h1, h2, h3, fun W hW => h4 W (hp W hW)⟩

theorem setKey_any (g : Nat) (es : List En) (hn : es.length ≤ 7) (TK : TypeId) (xk : Value) (TV : TypeId) (xv : Value) (w : World) (hb : Blk w g 174 (htC g es false).toArray) (hz : ∀ e ∈ es, e.h ≠ 0) (hoe : ∀ e ∈ es, e.k.oneCell' = true)
    (hk : HashM (But (fun k => k = g) w) (.iface TK xk)) (he : ∀ e ∈ es, ∀ W, But (fun k => k = g) w W → Calls Tryz.prog 119 #[.iface TK xk, e.k] W (CmpOut False W)) :
    Calls Tryz.prog 70 #[.pointer (some ⟨g, 0, none⟩), .iface TK xk, .iface TV xv] w (InsO g 174 es (.iface TK xk) (.iface TV xv) w) := by
  have HC := Lib.hid (insert_any g _ es hn _ TV xv w hb hz rfl hoe hk he)
  clear hb hz hoe hk he
  go_enter Tryz.func70, Tryz.ntmps70
  go_wp2_with fail
  refine HC.out.mono ?_
  rintro e w1 ⟨rfl, hh⟩
  have HH := Lib.hid hh
  clear hh
  go_wp2
  go_ret
  exact ⟨rfl, HH.out⟩
theorem setInsert_any (g : Nat) (es : List En) (hn : es.length ≤ 7) (TK : TypeId) (xk : Value) (w : World) (hb : Blk w g 175 (htC g es false).toArray) (hz : ∀ e ∈ es, e.h ≠ 0) (hoe : ∀ e ∈ es, e.k.oneCell' = true)
    (hk : HashM (But (fun k => k = g) w) (.iface TK xk)) (he : ∀ e ∈ es, ∀ W, But (fun k => k = g) w W → Calls Tryz.prog 119 #[.iface TK xk, e.k] W (CmpOut False W)) :
    Calls Tryz.prog 74 #[.pointer (some ⟨g, 0, none⟩), .iface TK xk] w (InsO g 175 es (.iface TK xk) noneV w) := by
  have HC := Lib.hid (insert_any g _ es hn _ 145 (.int .u8 0) w hb hz rfl hoe hk he)
  clear hb hz hoe hk he
  go_enter Tryz.func74, Tryz.ntmps74
  go_wp2_with fail
  refine HC.out.mono ?_
  rintro e w1 ⟨rfl, hh⟩
  have HH := Lib.hid hh
  clear hh
  go_wp2
  go_ret
  exact ⟨rfl, HH.out⟩
theorem ht_len {g : Nat} {T : TypeId} {es : List En} {fz : Bool} {w : World} (hb : Blk w g T (htC g es fz).toArray) : w.cell? ⟨g, 42, none⟩ = some (.int .u32 es.length) := by
  rw [hb.cell]
  unfold htC
  by_cases h0 : es.length = 0
  · rw [if_pos h0, h0]
    rfl
  · rw [if_neg h0]
    simpa using htI_end g es fz 1
theorem dictLen_any (g n : Nat) (hn : n ≤ 8) (w : World) (h : w.cell? ⟨g, 42, none⟩ = some (.int .u32 n)) : Calls Tryz.prog 86 #[.pointer (some ⟨g, 0, none⟩)] w fun e w' => e = .returned (.int .i64 n) ∧ w' = w := by
  have w1 : wrap64 (n : Int) = (n : Int) := by unfold wrap64; omega
  have w2 : IntKind.i64.wrap (n : Int) = (n : Int) := by rw [IntKind.wrap_i64]; omega
  clear hn
  go_enter Tryz.func86, Tryz.ntmps86
  go_wp2
  go_ret
  exact ⟨by first | rfl | (rw [w1]) | (rw [w2]), rfl⟩
theorem setLen_any (g n : Nat) (hn : n ≤ 8) (w : World) (h : w.cell? ⟨g, 42, none⟩ = some (.int .u32 n)) : Calls Tryz.prog 87 #[.pointer (some ⟨g, 0, none⟩)] w fun e w' => e = .returned (.int .i64 n) ∧ w' = w := by
  have w1 : wrap64 (n : Int) = (n : Int) := by unfold wrap64; omega
  have w2 : IntKind.i64.wrap (n : Int) = (n : Int) := by rw [IntKind.wrap_i64]; omega
  clear hn
  go_enter Tryz.func87, Tryz.ntmps87
  go_wp2
  go_ret
  exact ⟨by first | rfl | (rw [w1]) | (rw [w2]), rfl⟩

theorem flatE_len : ∀ (es : List En), (flatE es).length = 2 * es.length
  | [] => rfl
  | e :: es => by simp [flatE, flatE_len es]; omega
theorem flatE_app : ∀ (es fs : List En), flatE (es ++ fs) = flatE es ++ flatE fs
  | [], fs => rfl
  | e :: es, fs => by simp [flatE, flatE_app es fs]
theorem flatE_mem : ∀ {es : List En} {e : En}, e ∈ es → ∃ j, j % 2 = 0 ∧ j < (flatE es).length ∧ (flatE es)[j]? = some e.k
  | [], e, h => by cases h
  | a :: es, e, h => by
    rcases List.mem_cons.1 h with rfl | h
    · exact ⟨0, rfl, by simp [flatE], rfl⟩
    · obtain ⟨j, h1, h2, h3⟩ := flatE_mem h
      exact ⟨j + 2, by omega, by simp [flatE]; omega, by simpa [flatE] using h3⟩
theorem htZ_new (g : Nat) : (htC g [] false).toArray = (htZ false).toArray := rfl
end Go.Proofs.YtloloifngbmibaaGreatDoor
set_option linter.unusedVariables false
set_option linter.unusedSimpArgs false
set_option maxRecDepth 4000
namespace Go.Proofs.YtloloifngbmibaaGreatDoor
open Go.RowKit

/-- What dict and set want of the values: keys that can be asked for their hash, no two of them equal. -/
structure KeysOk (st : Nat) (ys : List Value) (w : World) : Prop where
  hash : ∀ i y, i % st = 0 → ys[i]? = some y → HashM (fun W => Below w.heap.size w W) y
  apart : ∀ i j y z, j < i → i % st = 0 → j % st = 0 → ys[i]? = some y → ys[j]? = some z → ∀ W, Below w.heap.size w W → Calls Tryz.prog 119 #[y, z] W (CmpOut False W)
  ifc : ∀ y ∈ ys, ∃ T x, y = .iface T x
/-- Two cells of a block. -/
abbrev TwoB (b o o' : Nat) (v v' : Value) (W : World) : Prop := W.cell? ⟨b, o, none⟩ = some v ∧ W.cell? ⟨b, o', none⟩ = some v'
theorem TwoB.but {b o o' : Nat} {v v' : Value} {W W' : World} {T : Nat → Prop} (h : TwoB b o o' v v' W) (hb : But T W W') (hl : b < W.heap.size) (ht : ¬ T b) : TwoB b o o' v v' W' :=
  ⟨(World.cell?_of_block (a := ⟨b, o, none⟩) (hb.block b hl ht)).trans h.1, (World.cell?_of_block (a := ⟨b, o', none⟩) (hb.block b hl ht)).trans h.2⟩
/-- The dict under way. -/
structure DictR (w : World) (ys : List Value) (i : Nat) (es : List En) (W : World) : Prop where
  blk : Blk W w.heap.size 174 (htC w.heap.size es false).toArray
  low : Below w.heap.size w W
  hz : HzE es
  fl : flatE es = ys.take i
  ln : i = 2 * es.length
theorem DictR.step {w : World} {ys : List Value} {i : Nat} {es : List En} {W W' : World} (h : DictR w ys i es W) {y z : Value} (hy : ys[i]? = some y) (hz : ys[i + 1]? = some z) (ho : ∃ h, h ≠ 0 ∧ Blk W' w.heap.size 174 (htC w.heap.size (es ++ [⟨h, y, z⟩]) false).toArray ∧ But (fun k => k = w.heap.size) W W') : ∃ es', DictR w ys (i + 2) es' W' := by
  obtain ⟨hh, h1, h2, h3⟩ := ho
  refine ⟨_, h2, h.low.trans (h3.below h.low.size (fun k hk => by subst hk; exact Nat.le_refl _)), ?_, ?_, ?_⟩
  · intro e he
    rcases List.mem_append.1 he with he | he
    · exact h.hz e he
    · rw [List.mem_singleton.1 he]
      exact h1
  · rw [flatE_app, h.fl]
    show _ ++ [y, z] = _
    rw [List.take_add_one, List.take_add_one, hy, hz]
    simp
  · rw [List.length_append, h.ln]
    simp
    omega

theorem dict_any (S : Nat → Prop) (A : Option Addr) (n c : Nat) (ys : List Value) (hl : ys.length = n) (hn : n ≤ 16) (he : n % 2 = 0) (w : World) (hr : Rd w S A ys) (hS : ∀ k, S k → k < w.heap.size) (hk : KeysOk 2 ys w) :
    Calls Tryz.prog 57 #[.slice A n c] w fun e w' => e = .returned (.tuple #[.pointer (some ⟨w.heap.size, 0, none⟩), .bool true]) ∧ ∃ es, DictR w ys n es w' := by
  have HK := Lib.hid hk
  have HR := Lib.hid hr
  have HS := Lib.hid hS
  have HL := Lib.hid hl
  have h0 : Hid (DictR w ys 0 [] (w.alloc (.cells (htZ false).toArray 174))) := Lib.hid ⟨Blk.new _ _ _, below_al (Below.refl _ _) _, (fun e h => by cases h), by simp [flatE], rfl⟩
  have HE := Lib.hid he
  clear hk hr hS hl
  go_enter Tryz.func57, Tryz.ntmps57
  go_wp2
  go_loopw [5] (fun iv wr => ∃ (i : Nat) (es : List En), iv = .int .i64 i ∧ i ≤ n ∧ Hid (DictR w ys i es wr)) (fun iv _ => n - (intOf iv).toNat)
  case atStart => exact ⟨0, [], rfl, Nat.zero_le _, h0⟩
  case round =>
    obtain ⟨i, es, rfl, hi, HD⟩ := hrel
    clear h0
    by_cases hlt : i < n
    · have hi2 : i + 1 < n := by have := HD.out.ln; omega
      have hyl := HL.out
      have t1 : ys[i]? = some ys[i] := List.getElem?_eq_getElem (by omega)
      have t2 : ys[i + 1]? = some ys[i + 1] := List.getElem?_eq_getElem (by omega)
      obtain ⟨b, o, rfl, hSb, q1⟩ := HR.out.at_ (k := i) (by omega)
      obtain ⟨b', o', hbo, _, q2⟩ := HR.out.at_ (k := i + 1) (by omega)
      injection hbo with hbo
      injection hbo with e1 e2 _
      subst e1 e2
      have hbn : b ≠ w.heap.size := Nat.ne_of_lt (HS.out b hSb)
      have hst : wr.heap[b]? = w.heap[b]? := HD.out.low.block b (HS.out b hSb)
      replace q1 := (World.cell?_of_block (a := ⟨b, o + i, none⟩) hst).trans q1
      replace q2 := (World.cell?_of_block (a := ⟨b, o + (i + 1), none⟩) hst).trans q2
      obtain ⟨TK, xk, hyk⟩ := HK.out.ifc ys[i] (List.getElem_mem _)
      obtain ⟨TV, xv, hyv⟩ := HK.out.ifc ys[i + 1] (List.getElem_mem _)
      have hdr : DictR w ys i es wr.drew := ⟨HD.out.blk.drew, HD.out.low.drew, HD.out.hz, HD.out.fl, HD.out.ln⟩
      have hmk : ∀ e ∈ es, ∃ j, j < i ∧ j % 2 = 0 ∧ ys[j]? = some e.k := fun e he => by
        obtain ⟨j, j1, j2, j3⟩ := flatE_mem he
        rw [HD.out.fl, List.length_take] at j2
        rw [HD.out.fl, List.getElem?_take, if_pos (by omega)] at j3
        exact ⟨j, by omega, j1, j3⟩
      have hin2 : i % 2 = 0 := by have := HD.out.ln; omega
      have HC := Lib.hid (setKey_any w.heap.size es (by have := HD.out.ln; omega) TK xk TV xv wr.drew hdr.blk hdr.hz (fun e he => by
          obtain ⟨j, _, _, j3⟩ := hmk e he
          obtain ⟨T, x, hx⟩ := HK.out.ifc e.k (List.mem_of_getElem? j3)
          rw [hx]
          rfl) ((HK.out.hash i _ hin2 (by rw [t1, hyk])).mono (fun W hW => hdr.low.trans (hW.below hdr.low.size (fun k hk => by subst hk; exact Nat.le_refl _)))) (fun e he W hW => by
          obtain ⟨j, j1, j2, j3⟩ := hmk e he
          exact HK.out.apart i j _ _ j1 hin2 j2 (by rw [t1, hyk]) j3 W (hdr.low.trans (hW.below hdr.low.size (fun k hk => by subst hk; exact Nat.le_refl _)))))
      have HST := Lib.hid (fun W' ho => hdr.step (W' := W') (by rw [t1, hyk]) (by rw [t2, hyv]) ho)
      rw [hyk] at q1
      rw [hyv] at q2
      have HME : Hid (n - (i + 2) < n - i) := Lib.hid (by omega)
      have HSI : Hid (i + 2 ≤ n) := Lib.hid (by omega)
      have w1 : wrap64 ((i : Int) + 1) = (i : Int) + 1 := by unfold wrap64; omega
      have w2 : IntKind.i64.wrap ((i : Int) + 1) = (i : Int) + 1 := by rw [IntKind.wrap_i64]; omega
      have w3 : wrap64 ((i : Int) + 2) = (i : Int) + 2 := by unfold wrap64; omega
      have w4 : IntKind.i64.wrap ((i : Int) + 2) = (i : Int) + 2 := by rw [IntKind.wrap_i64]; omega
      have l1 : (i : Int) + 1 < (n : Int) := by omega
      have l0 : (i : Int) < (n : Int) := by omega
      have l2 : (0 : Int) ≤ (i : Int) := by omega
      have l3 : (0 : Int) ≤ (i : Int) + 1 := by omega
      have H0 : Hid (TwoB b (o + i) (o + (i + 1)) (.iface TK xk) (.iface TV xv) wr.drew) := Lib.hid ⟨q1, q2⟩
      have HKE : Hid (∀ W', But (fun k => k = w.heap.size) wr.drew W' → TwoB b (o + i) (o + (i + 1)) (.iface TK xk) (.iface TV xv) W') := Lib.hid fun W' hW' => H0.out.but hW' (Nat.lt_of_lt_of_le (HS.out b hSb) HD.out.low.size) hbn
      clear hst hyk hyv t1 t2 hmk hdr hyl
      go_wp2_with fail
      go_region_held3 (TwoB b (o + i) (o + (i + 1)) (.iface TK xk) (.iface TV xv))
        (first | assumption | exact H0.out | exact (HKE.out _ ‹But _ _ _›))
        (first
          | ((with_reducible refine HC.out.mono ?_); rintro e w3 ⟨rfl, hh, ho1, ho2, hbt⟩))
      have HO := Lib.hid (HST.out _ ⟨hh, ho1, ho2, hbt⟩)
      clear ho1 ho2 hbt HST HC HD H0 HKE
      go_wp2_with fail
      obtain ⟨es', hd'⟩ := HO.out
      exact ⟨⟨i + 2, es', rfl, HSI.out, Lib.hid hd'⟩, HME.out⟩
    · have hin : i = n := by omega
      subst hin
      have hc := ht_len HD.out.blk
      have HC := Lib.hid (dictLen_any w.heap.size es.length (by have := HD.out.ln; omega) wr hc)
      have HN := HD.out.ln
      have w5 : wrap64 (2 * (es.length : Int)) = (i : Int) := by unfold wrap64; omega
      have w6 : IntKind.i64.wrap (2 * (es.length : Int)) = (i : Int) := by rw [IntKind.wrap_i64]; omega
      clear HN hc
      go_wp2_with fail
      refine HC.out.mono ?_
      rintro e w3 ⟨rfl, rfl⟩
      go_wp2
      go_ret2
      exact ⟨rfl, es, HD.out⟩
end Go.Proofs.YtloloifngbmibaaGreatDoor
set_option linter.unusedVariables false
set_option linter.unusedSimpArgs false
set_option maxRecDepth 4000
namespace Go.Proofs.YtloloifngbmibaaGreatDoor
open Go.RowKit

/-- The set under way. -/
structure SetR (w : World) (ys : List Value) (i : Nat) (es : List En) (W : World) : Prop where
  blk : Blk W w.heap.size 175 (htC w.heap.size es false).toArray
  low : Below w.heap.size w W
  hz : HzE es
  hv : ∀ e ∈ es, e.v = noneV
  fl : es.map En.k = ys.take i
  ln : i = es.length
theorem SetR.step {w : World} {ys : List Value} {i : Nat} {es : List En} {W W' : World} (h : SetR w ys i es W) {y : Value} (hy : ys[i]? = some y) (ho : ∃ h, h ≠ 0 ∧ Blk W' w.heap.size 175 (htC w.heap.size (es ++ [⟨h, y, noneV⟩]) false).toArray ∧ But (fun k => k = w.heap.size) W W') : ∃ es', SetR w ys (i + 1) es' W' := by
  obtain ⟨hh, h1, h2, h3⟩ := ho
  refine ⟨_, h2, h.low.trans (h3.below h.low.size (fun k hk => by subst hk; exact Nat.le_refl _)), ?_, ?_, ?_, ?_⟩
  · intro e he
    rcases List.mem_append.1 he with he | he
    · exact h.hz e he
    · rw [List.mem_singleton.1 he]
      exact h1
  · intro e he
    rcases List.mem_append.1 he with he | he
    · exact h.hv e he
    · rw [List.mem_singleton.1 he]
  · rw [List.map_append, h.fl, List.take_add_one, hy]
    rfl
  · rw [List.length_append, h.ln]
    rfl

theorem set_any (S : Nat → Prop) (A : Option Addr) (n c : Nat) (ys : List Value) (hl : ys.length = n) (hn : n ≤ 8) (w : World) (hr : Rd w S A ys) (hS : ∀ k, S k → k < w.heap.size) (hk : KeysOk 1 ys w) :
    Calls Tryz.prog 58 #[.slice A n c] w fun e w' => e = .returned (.tuple #[.pointer (some ⟨w.heap.size, 0, none⟩), .bool true]) ∧ ∃ es, SetR w ys n es w' := by
  have HK := Lib.hid hk
  have HR := Lib.hid hr
  have HS := Lib.hid hS
  have HL := Lib.hid hl
  have h0 : Hid (SetR w ys 0 [] (w.alloc (.cells (htZ false).toArray 175))) := Lib.hid ⟨Blk.new _ _ _, below_al (Below.refl _ _) _, (fun e h => by cases h), (fun e h => by cases h), by simp, rfl⟩
  clear hk hr hS hl
  go_enter Tryz.func58, Tryz.ntmps58
  go_wp2
  go_loopw [10] (fun iv wr => ∃ (i : Nat) (es : List En), iv = .int .i64 i ∧ i ≤ n ∧ Hid (SetR w ys i es wr)) (fun iv _ => n - (intOf iv).toNat)
  case atStart => exact ⟨0, [], rfl, Nat.zero_le _, h0⟩
  case round =>
    obtain ⟨i, es, rfl, hi, HD⟩ := hrel
    clear h0
    by_cases hlt : i < n
    · have hyl := HL.out
      have t1 : ys[i]? = some ys[i] := List.getElem?_eq_getElem (by omega)
      obtain ⟨b, o, rfl, hSb, q1⟩ := HR.out.at_ (k := i) (by omega)
      have hbn : b ≠ w.heap.size := Nat.ne_of_lt (HS.out b hSb)
      have hst : wr.heap[b]? = w.heap[b]? := HD.out.low.block b (HS.out b hSb)
      replace q1 := (World.cell?_of_block (a := ⟨b, o + i, none⟩) hst).trans q1
      obtain ⟨TK, xk, hyk⟩ := HK.out.ifc ys[i] (List.getElem_mem _)
      have hmk : ∀ e ∈ es, ∃ j, j < i ∧ ys[j]? = some e.k := fun e he => by
        obtain ⟨j, hj⟩ := List.getElem?_of_mem (List.mem_map.2 ⟨e, he, rfl⟩ : e.k ∈ es.map En.k)
        rw [HD.out.fl] at hj
        have hjl := (List.getElem?_eq_some_iff.1 hj).1
        rw [List.length_take] at hjl
        rw [List.getElem?_take, if_pos (by omega)] at hj
        exact ⟨j, by omega, hj⟩
      have hdr := HD.out
      have HC := Lib.hid (setInsert_any w.heap.size es (by have := HD.out.ln; omega) TK xk wr hdr.blk hdr.hz (fun e he => by
          obtain ⟨j, _, j3⟩ := hmk e he
          obtain ⟨T, x, hx⟩ := HK.out.ifc e.k (List.mem_of_getElem? j3)
          rw [hx]
          rfl) ((HK.out.hash i _ (Nat.mod_one _) (by rw [t1, hyk])).mono (fun W hW => hdr.low.trans (hW.below hdr.low.size (fun k hk => by subst hk; exact Nat.le_refl _)))) (fun e he W hW => by
          obtain ⟨j, j1, j3⟩ := hmk e he
          exact HK.out.apart i j _ _ j1 (Nat.mod_one _) (Nat.mod_one _) (by rw [t1, hyk]) j3 W (hdr.low.trans (hW.below hdr.low.size (fun k hk => by subst hk; exact Nat.le_refl _)))))
      have HST := Lib.hid (fun W' ho => hdr.step (W' := W') (by rw [t1, hyk]) ho)
      rw [hyk] at q1
      have HME := Lib.hid (ms_lt hlt)
      have HSI := Lib.hid (Nat.succ_le_of_lt hlt)
      have l0 : (i : Int) < (n : Int) := by omega
      have l2 : (0 : Int) ≤ (i : Int) := by omega
      clear hst hyk t1 hmk hdr hyl
      go_wp2_with fail
      refine HC.out.mono ?_
      rintro e w3 ⟨rfl, ho⟩
      have HO := Lib.hid (HST.out _ ho)
      clear ho HST HC HD q1
      go_wp2_with fail
      obtain ⟨es', hd'⟩ := HO.out
      exact ⟨⟨i + 1, es', rfl, HSI.out, Lib.hid hd'⟩, HME.out⟩
    · have hin : i = n := by omega
      subst hin
      have hc := ht_len HD.out.blk
      have HC := Lib.hid (setLen_any w.heap.size es.length (by have := HD.out.ln; omega) wr hc)
      have HN := HD.out.ln
      rw [← HN] at HC hc
      clear HN hc
      go_wp2_with fail
      refine HC.out.mono ?_
      rintro e w3 ⟨rfl, rfl⟩
      go_wp2
      go_ret2
      exact ⟨rfl, es, HD.out⟩
end Go.Proofs.YtloloifngbmibaaGreatDoor
set_option linter.unusedVariables false
set_option linter.unusedSimpArgs false
set_option maxRecDepth 4000
namespace Go.Proofs.YtloloifngbmibaaGreatDoor
open Go.RowKit

def hashB : Nat → Tr → Bool
  | 0, t => decide (t.k < 6) || decide (t.k = 7)
  | d + 1, t => decide (t.k < 6) || (decide (t.k = 7) && t.kids.all (hashB d))
theorem hashB_key : ∀ {d : Nat} {t : Tr}, hashB d t = true → KeyT d t
  | 0, t, h => by simpa [hashB, KeyT] using h
  | d + 1, t, h => by
    simp only [hashB, Bool.or_eq_true, decide_eq_true_eq, Bool.and_eq_true, List.all_eq_true] at h
    rcases h with h | ⟨h1, h2⟩
    · exact .inl h
    · exact .inr ⟨h1, fun u hu => hashB_key (h2 u hu)⟩

theorem key_hashB : ∀ {d : Nat} {t : Tr}, KeyT d t → hashB d t = true
  | 0, t, h => by simpa [hashB, KeyT] using h
  | d + 1, t, h => by
    simp only [hashB, Bool.or_eq_true, decide_eq_true_eq, Bool.and_eq_true, List.all_eq_true]
    rcases h with h | ⟨h1, h2⟩
    · exact .inl h
    · exact .inr ⟨h1, fun u hu => key_hashB (h2 u hu)⟩

theorem hashx_core (B : Bool) (R : Nat → Bool) (A : Option Addr) (n c : Nat) (k : Int) (ng : Bool) (m : Value) (bt : Int) (s : ByteArray) (w : World) (hn : n ≤ 1000) (hB : B = true ↔ (k < 6 ∨ (k = 7 ∧ ∀ i, i < n → R i = true)))
    (HK : k = 7 → ∀ i, i < n → ∀ W, Below w.heap.size w W → ∃ y, KidAt W A i y ∧ Calls Tryz.prog 50 #[y.agg] W fun e w' => e = .returned (.bool (R i)) ∧ Below W.heap.size W w') :
    Calls Tryz.prog 50 #[.agg #[.int .i64 k, .bool ng, m, .int .u64 bt, .string s, .slice A n c]] w fun e w' => e = .returned (.bool B) ∧ Below w.heap.size w w' := by
  have HH := Lib.hid HK
  have HBB := Lib.hid hB
  have h0 := Lib.hid (Blk.new w 26 #[.int .i64 k, .bool ng, m, .int .u64 bt, .string s, .slice A n c])
  have h1 := Lib.hid ((Below.refl w.heap.size w).alloc (Nat.le_refl _) (.cells #[.int .i64 k, .bool ng, m, .int .u64 bt, .string s, .slice A n c] 26))
  clear HK hB
  by_cases h7 : k = 7
  · have HK := Lib.hid (HH.out h7)
    clear HH
    subst h7
    go_enter Tryz.func50, Tryz.ntmps50
    go_wp2
    go_loopw [3] (fun iv wr => ∃ (i : Nat), iv = .int .i64 i ∧ i ≤ n ∧ Hid (∀ j, j < i → R j = true) ∧ Hid (Blk wr w.heap.size 26 #[.int .i64 7, .bool ng, m, .int .u64 bt, .string s, .slice A n c]) ∧ Hid (Below w.heap.size w wr)) (fun iv _ => n - (intOf iv).toNat)
    case atStart => exact ⟨0, rfl, Nat.zero_le _, Lib.hid (fun j hj => by omega), h0, h1⟩
    case round =>
      obtain ⟨i, rfl, hi, hP, hB, hL⟩ := hrel
      have b5 := hB.out.cell 5
      have lb := hB.out.lt
      simp at b5
      by_cases hlt : i < n
      · obtain ⟨y, ⟨b, o, rfl, y0, y1, y2, y3, y4, y5⟩, hc⟩ := HK.out i hlt wr hL.out
        have HC := Lib.hid hc
        have HME := Lib.hid (ms_lt hlt)
        have HSI := Lib.hid hlt
        have w1k := Lib.hid (wr_suc i (Nat.le_trans hi (Nat.le_trans hn (by decide))))
        obtain ⟨ri, hri⟩ : ∃ ri, ri = R i := ⟨_, rfl⟩
        have HRI := Lib.hid hri
        rw [← hri] at HC
        clear hc hri
        go_wp2_with fail
        refine HC.out.mono ?_
        rintro e w1 ⟨rfl, hb⟩
        have hB1 := Lib.hid (hB.out.below hb lb)
        have hL1 := Lib.hid (below_up hL.out hb)
        clear hB hL hb y0 y1 y2 y3 y4 y5 b5
        cases ri with
        | true =>
          go_wp2
          go_roundw
          case rel => exact ⟨i + 1, by first | rfl | (rw [w1k.out]; rfl), HSI.out, Lib.hid (fun j hj => by rcases Nat.lt_succ_iff_lt_or_eq.1 hj with h | h; exact hP.out j h; subst h; exact HRI.out.symm), hB1, hL1⟩
          case measure => first | exact HME.out | (rw [w1k.out]; exact HME.out)
        | false =>
          have hbf : Hid (B = false) := Lib.hid (by
            cases hb : B with
            | false => rfl
            | true =>
              rcases HBB.out.1 hb with h | ⟨_, h⟩
              · omega
              · have h1 := h i HSI.out
                rw [← HRI.out] at h1
                cases h1)
          go_wp2
          go_ret
          exact ⟨by rw [hbf.out]; rfl, hL1.out⟩
      · have hin : i = n := by omega
        subst hin
        have hbt : Hid (B = true) := Lib.hid (HBB.out.2 (.inr ⟨by first | rfl | trivial, hP.out⟩))
        go_wp2
        go_ret
        exact ⟨by rw [hbt.out]; rfl, hL.out⟩
  · have e7 := beq_no h7
    by_cases h6 : k < 6
    · have d6 := dec_yes h6
      have hbt : Hid (B = true) := Lib.hid (HBB.out.2 (.inl h6))
      clear h6 h7 HH HBB
      go_enter Tryz.func50, Tryz.ntmps50
      go_wp2
      go_ret
      exact ⟨by rw [hbt.out]; rfl, h1.out⟩
    · have d6 := dec_no h6
      have hbf : Hid (B = false) := Lib.hid (by
        cases hb : B with
        | false => rfl
        | true => rcases HBB.out.1 hb with h | ⟨h, _⟩ <;> contradiction)
      clear h6 h7 HH HBB
      go_enter Tryz.func50, Tryz.ntmps50
      go_wp2
      go_ret
      exact ⟨by rw [hbf.out]; rfl, h1.out⟩

theorem hashx_any : ∀ (d : Nat) {t : Tr} {x : Vc} {w : World}, HV (d + 1) t x w → Good d t → Calls Tryz.prog 50 #[x.agg] w fun e w' => e = .returned (.bool (hashB d t)) ∧ Below w.heap.size w w' := by
  intro d
  induction d with
  | zero =>
    intro t x w h g
    obtain ⟨A, c, hq, hc, _⟩ := h.kids
    have e1 : x.k = t.k := by obtain ⟨S, h1, _⟩ := h; exact h1.head.k
    obtain ⟨k, n, m, b, s, q⟩ := x
    simp only at e1 hq
    subst e1 hq
    refine hashx_core _ (fun _ => true) A t.kids.length c t.k n m b s w (by have := g.head.kl; omega) ?_ (fun h7 => by have := g.2.1; omega)
    simp [hashB]
  | succ d ih =>
    intro t x w h g
    obtain ⟨A, c, hq, hc, hk⟩ := h.kids
    have e1 : x.k = t.k := by obtain ⟨S, h1, _⟩ := h; exact h1.head.k
    obtain ⟨k, n, m, b, s, q⟩ := x
    simp only at e1 hq
    subst e1 hq
    refine hashx_core _ (fun i => match t.kids[i]? with | some u => hashB d u | none => true) A t.kids.length c t.k n m b s w (by have := g.head.kl; omega) ?_ ?_
    · simp only [hashB, Bool.or_eq_true, decide_eq_true_eq, Bool.and_eq_true, List.all_eq_true]
      constructor
      · rintro (h | ⟨h1, h2⟩)
        · exact .inl h
        · exact .inr ⟨h1, fun i hi => by rw [List.getElem?_eq_getElem hi]; exact h2 _ (List.getElem_mem hi)⟩
      · rintro (h | ⟨h1, h2⟩)
        · exact .inl h
        · refine .inr ⟨h1, fun u hu => ?_⟩
          obtain ⟨i, hi⟩ := List.getElem?_of_mem hu
          have hil := (List.getElem?_eq_some_iff.1 hi).1
          have := h2 i hil
          rw [hi] at this
          exact this
    · intro _ i hi W hW
      obtain ⟨y, u, hu, hy, hya⟩ := (hk.up hW).at_ hi
      refine ⟨y, hya, ?_⟩
      rw [hu]
      exact ih hy (g.2.2.1 u (List.mem_of_getElem? hu))
end Go.Proofs.YtloloifngbmibaaGreatDoor
