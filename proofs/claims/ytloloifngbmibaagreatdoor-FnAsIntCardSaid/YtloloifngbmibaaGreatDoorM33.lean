/- The reference's Clean: what it makes. The language's values as trees; comparing two of one flat type. CompareDepth: numbers, none, unlike types. math.Abs, math.IsInf of both signs, isFinite. -/
import Derived.Test.YtloloifngbmibaaGreatDoorM32
import Derived.Test.YtloloifngbmibaaGreatDoorM29
import Derived.Stop.Asserts
import Derived.Test.YtloloifngbmibaaGreatDoorM24
import Derived.Laws.BitsAllLaws
set_option linter.unusedVariables false
set_option linter.unusedSimpArgs false
set_option maxRecDepth 4000
namespace Go.Proofs.YtloloifngbmibaaGreatDoor
open Go.RowKit

/-- What is known of a value that comes in. -/
structure InH (t : Tr) : Prop where
  by_ : ByL t.mag
  ml : t.mag.length ≤ 9223372036854775807
  b : 0 ≤ t.bits ∧ t.bits < 18446744073709551616
  kl : t.kids.length ≤ 9223372036854775807
  tx : t.text.size ≤ 9223372036854775807
def InT : Nat → Tr → Prop
  | 0, t => InH t
  | d + 1, t => InH t ∧ ∀ u ∈ t.kids, InT d u
theorem InT.head : ∀ {d : Nat} {t : Tr}, InT d t → InH t
  | 0, _, h => h
  | _ + 1, _, h => h.1

theorem good_leaf {t : Tr} (g : GoodH t) (hk : t.k < 6) (hl : t.kids = []) : ∀ d, Good d t
  | 0 => ⟨g, hk, hl⟩
  | d + 1 => ⟨g, fun _ => hl, (fun u hu => by rw [hl] at hu; cases hu), (fun h => by omega), (fun h => by omega)⟩
theorem leaf_up {L M B d : Nat} {t : Tr} {x : Vc} {W : World} (h : HVQ L M B 1 t x W) (hl : t.kids = []) : HVQ L M B (d + 1) t x W := by
  obtain ⟨S, ⟨h1, A, c, xs, e1, e2, e3, hr, hx⟩, h2⟩ := h
  exact ⟨S, ⟨h1, A, c, xs, e1, e2, e3, hr, fun i y u hy hu => by rw [hl] at hu; simp at hu⟩, h2⟩

def CleanOut (d : Nat) (w : World) (e : Ending) (w' : World) : Prop := ∃ t' y, e = .returned (Vc.agg y) ∧ Good d t' ∧ HVB w.heap.size (d + 1) t' y w' ∧ Below w.heap.size w w'

theorem ext_size (s : ByteArray) : (s.extract 0 (min (s.size : Int) 60).toNat).size ≤ 60 := by
  rw [ByteArray.size_extract]
  omega

theorem leaf_out {d : Nat} {w w' : World} (k : Int) (b : Int) (s : ByteArray) (hk : 0 ≤ k ∧ k < 6) (hb : 0 ≤ b ∧ b < 18446744073709551616) (h1 : k = 1 → b = 0 ∨ b = 1) (hs : s.size ≤ 60) (h4 : k ≠ 4 → k ≠ 5 → s = noText) (hl : Below w.heap.size w w') :
    CleanOut d w (.returned (.agg #[.int .i64 k, .bool false, .slice none 0 0, .int .u64 b, .string s, .slice none 0 0])) w' := by
  refine ⟨⟨k, false, [], b, s, []⟩, ⟨k, false, .slice none 0 0, b, s, .slice none 0 0⟩, rfl, ?_, ?_, hl⟩
  · refine good_leaf (t := ⟨k, false, [], b, s, []⟩) ⟨⟨hk.1, (by show k ≤ 9; omega)⟩, ByL.nil, Nat.zero_le _, .inl rfl, (fun h => by have h : false = true := h; cases h), hb, h1, hs, h4, Nat.zero_le _⟩ hk.2 rfl d
  · exact leaf_up (leafV (SlV.nil w' (fun _ => False) .u8) b s false (fun _ h => h.elim)) rfl

theorem clean_any : ∀ (d : Nat) {t : Tr} {x : Vc} {w : World}, d ≤ 100 → HV d t x w → InT d t → Calls Tryz.prog 16 #[x.agg, .int .i64 (d : Int)] w (CleanOut d w) := by
  -- the leaves
  have leaf : ∀ (d : Nat) {t : Tr} {x : Vc} {w : World}, HV d t x w → InH t → (kd t.k < 6 ∨ (d : Int) ≤ 0) → Calls Tryz.prog 16 #[x.agg, .int .i64 (d : Int)] w (CleanOut d w) := by
    intro d t x w h g hkd
    obtain ⟨S, h1, h2⟩ := h
    obtain ⟨A', nq, cq, hq, _⟩ := h1.kidsV
    obtain ⟨e1, e2, e3, e4, A, cm, em, hcm, hr⟩ := h1.head
    obtain ⟨k, n, m, b, s, q⟩ := x
    simp only at e1 e2 e3 e4 em hq
    subst e1 e2 e3 e4 em hq
    have bd := kd_bd t.k
    have hcase : (kd t.k = 0 ∨ (kd t.k = 6 ∧ (d : Int) ≤ 0)) ∨ (kd t.k = 1 ∨ (kd t.k = 7 ∧ (d : Int) ≤ 0)) ∨ (kd t.k = 2 ∨ (kd t.k = 8 ∧ (d : Int) ≤ 0)) ∨ (kd t.k = 3 ∨ (kd t.k = 9 ∧ (d : Int) ≤ 0)) ∨ (kd t.k = 4 ∨ (kd t.k = 10 ∧ (d : Int) ≤ 0)) ∨ (kd t.k = 5 ∨ (kd t.k = 11 ∧ (d : Int) ≤ 0)) := by omega
    rcases hcase with hp | hp | hp | hp | hp | hp
    · refine (cln0 t.k t.neg A A' t.mag.length cm nq cq t.bits t.text d _ rfl hp w).mono ?_
      rintro e w' ⟨rfl, hl⟩
      exact leaf_out 0 0 ⟨#[]⟩ (by decide) (by decide) (by decide) (by decide) (fun _ _ => rfl) hl
    · refine (cln1 t.k t.neg A A' t.mag.length cm nq cq t.bits t.text d _ rfl hp g.b w).mono ?_
      rintro e w' ⟨bb, rfl, hl⟩
      refine leaf_out 1 _ ⟨#[]⟩ (by decide) ?_ ?_ (by decide) (fun _ _ => rfl) hl
      · cases bb <;> decide
      · cases bb <;> simp
    · refine (cln2i t.k t.neg A A' t.mag cm nq cq t.bits t.text d _ rfl hp S w hcm g.ml hr h2 g.by_).mono ?_
      rintro e w' ⟨y, rfl, hV, hl⟩
      refine ⟨_, y, rfl, good_leaf (t := CutI t.neg t.mag) ?_ (show (2 : Int) < 6 by decide) rfl d, leaf_up hV rfl, hl⟩
      refine ⟨⟨show (0 : Int) ≤ 2 by decide, show (2 : Int) ≤ 9 by decide⟩, (g.by_.take 40).strip, Nat.le_trans (strip_len _) (by rw [List.length_take]; omega), strip_lead _, ?_, ⟨Int.le_refl 0, show (0 : Int) < 18446744073709551616 by decide⟩, (fun h => absurd (show (2 : Int) = 1 from h) (by decide)), Nat.zero_le _, (fun _ _ => rfl), Nat.zero_le _⟩
      intro hn hm
      have hn' : sgn2 t.neg (strip (t.mag.take 40)) = true := hn
      have hm' : strip (t.mag.take 40) = [] := hm
      rw [hm'] at hn'
      simp [sgn2] at hn'
    · refine (cln3 t.k t.neg A A' t.mag.length cm nq cq t.bits t.text d _ rfl hp w).mono ?_
      rintro e w' ⟨rfl, hl⟩
      exact leaf_out 3 _ ⟨#[]⟩ (by decide) g.b (fun h => absurd h (by decide)) (by decide) (fun _ _ => rfl) hl
    · refine (cln4 t.k t.neg A A' t.mag.length cm nq cq t.bits t.text d _ rfl hp g.tx w).mono ?_
      rintro e w' ⟨rfl, hl⟩
      exact leaf_out 4 0 _ (by decide) (by decide) (fun h => absurd h (by decide)) (ext_size _) (fun h => absurd rfl h) hl
    · refine (cln5 t.k t.neg A A' t.mag.length cm nq cq t.bits t.text d _ rfl hp g.tx w).mono ?_
      rintro e w' ⟨rfl, hl⟩
      exact leaf_out 5 0 _ (by decide) (by decide) (fun h => absurd h (by decide)) (ext_size _) (fun _ h => absurd rfl h) hl
  intro d
  induction d with
  | zero =>
    intro t x w _ h g
    exact leaf 0 h g (.inr (Int.le_refl 0))
  | succ d ih =>
    intro t x w hd h g
    by_cases hk : kd t.k < 6
    · exact leaf (d + 1) h g.1 (.inl hk)
    · have bd := kd_bd t.k
      have gh := g.1
      obtain ⟨A', cq, hq, _, hks⟩ := h.kids
      obtain ⟨S, h1, h2⟩ := id h
      obtain ⟨e1, e2, e3, e4, A, cm, em, hcm, hr⟩ := h1.head
      obtain ⟨k, n, m, b, s, q⟩ := x
      simp only at e1 e2 e3 e4 em hq
      subst e1 e2 e3 e4 em hq
      have hdp : ¬ ((d + 1 : Nat) : Int) ≤ 0 := by omega
      have hdp2 : ((d + 1 : Nat) : Int) ≤ 100 := by omega
      have hdd : ((d + 1 : Nat) : Int) - 1 = (d : Int) := by omega
      have HK : ∀ N, N ≤ t.kids.length → KidMk 0 0 16 (fun u => #[u.agg, .int .i64 (((d + 1 : Nat) : Int) - 1)]) (d + 1) (fun _ t => Good d t) A' N w := by
        intro N hN i hi W hW
        obtain ⟨y, u, hu, hy, hya⟩ := (hks.up hW).at_ (i := i) (by omega)
        refine ⟨y, hya, ?_⟩
        rw [hdd]
        refine (ih (by omega) hy (g.2 u (List.mem_of_getElem? hu))).mono ?_
        rintro e w' ⟨t', y', rfl, a1, a2, a3⟩
        exact ⟨t', y', rfl, a1, a2, a3⟩
      have mk : ∀ (K : Int) (ts : List Tr), 6 ≤ K ∧ K ≤ 9 → ts.length ≤ 16 → (∀ u ∈ ts, Good d u) → (K = 8 → KeysT d 2 ts) → (K = 9 → KeysT d 1 ts ∧ ts.length ≤ 8) → Good (d + 1) ⟨K, false, [], 0, ⟨#[]⟩, ts⟩ := fun K ts hK hl hg h8 h9 =>
        ⟨⟨⟨show 0 ≤ K by omega, hK.2⟩, ByL.nil, Nat.zero_le _, .inl rfl, (fun h => by have h : false = true := h; cases h), ⟨Int.le_refl 0, show (0 : Int) < 18446744073709551616 by decide⟩, (fun h => by have h : K = 1 := h; omega), Nat.zero_le _, (fun _ _ => rfl), hl⟩, (fun h => by have h : K < 6 := h; omega), hg, h8, h9⟩
      have hall : ∀ {ts : List Tr}, (∀ i u, ts[i]? = some u → Good d u) → ∀ u ∈ ts, Good d u := fun h u hu => by
        obtain ⟨i, hi⟩ := List.getElem?_of_mem hu
        exact h i u hi
      have hcase : kd t.k = 6 ∨ kd t.k = 7 ∨ kd t.k = 8 ∨ kd t.k = 9 := by omega
      rcases hcase with hp | hp | hp | hp
      · refine (cln_core6 (d + 1) (fun _ t => Good d t) 6 t.k t.neg A t.mag.length cm t.bits t.text A' t.kids.length cq gh.kl _ hp rfl hdp hdp2 w (HK _ (Nat.min_le_left _ _))).mono ?_
        rintro e w' ⟨ts, y, rfl, hl, hR, hV, hb⟩
        exact ⟨_, y, rfl, mk 6 ts (by decide) (by omega) (hall hR) (fun h => absurd h (by decide)) (fun h => absurd h (by decide)), hV, hb⟩
      · refine (cln_core7 (d + 1) (fun _ t => Good d t) 7 t.k t.neg A t.mag.length cm t.bits t.text A' t.kids.length cq gh.kl _ hp rfl hdp hdp2 w (HK _ (Nat.min_le_left _ _))).mono ?_
        rintro e w' ⟨ts, y, rfl, hl, hR, hV, hb⟩
        exact ⟨_, y, rfl, mk 7 ts (by decide) (by omega) (hall hR) (fun h => absurd h (by decide)) (fun h => absurd h (by decide)), hV, hb⟩
      · refine (cln8 (d + 2) (Good (d + 1)) t.k t.neg A A' t.mag.length cm t.kids.length cq t.bits t.text _ hp hdp w (fun W hW => ?_)).mono ?_
        · refine (cdict_core d t.k t.neg A t.mag.length cm t.bits t.text A' t.kids.length cq gh.kl _ hdp hdp2 W (fun i hi W' hW' => HK _ (Nat.min_le_left _ _) i hi W' (below_up hW hW'))).mono ?_
          rintro e w' ⟨ts, y, rfl, hl, hg, hkk, hV, hb⟩
          exact ⟨_, y, rfl, mk 8 ts (by decide) hl hg (fun _ i u hi hu => (hkk i u hi hu).2) (fun h => absurd h (by decide)), hV, hb⟩
        · rintro e w' ⟨t', y, rfl, hT, hV, hb⟩
          exact ⟨t', y, rfl, hT, hV, hb⟩
      · refine (cln9 (d + 2) (Good (d + 1)) t.k t.neg A A' t.mag.length cm t.kids.length cq t.bits t.text _ hp hdp w (fun W hW => ?_)).mono ?_
        · refine (cset_core d t.k t.neg A t.mag.length cm t.bits t.text A' t.kids.length cq gh.kl _ hdp hdp2 W (fun i hi W' hW' => HK _ (Nat.min_le_left _ _) i hi W' (below_up hW hW'))).mono ?_
          rintro e w' ⟨ts, y, rfl, hl, hg, hV, hb⟩
          exact ⟨_, y, rfl, mk 9 ts (by decide) (by omega) (fun u hu => (hg u hu).1) (fun h => absurd h (by decide)) (fun _ => ⟨fun i u hi hu => (hg u (List.mem_of_getElem? hu)).2, hl⟩), hV, hb⟩
        · rintro e w' ⟨t', y, rfl, hT, hV, hb⟩
          exact ⟨t', y, rfl, hT, hV, hb⟩
end Go.Proofs.YtloloifngbmibaaGreatDoor
set_option linter.unusedVariables false
set_option linter.unusedSimpArgs false
set_option maxRecDepth 4000
namespace Go.Proofs.YtloloifngbmibaaGreatDoor
open Go.RowKit

/-- An int of the package in blocks below M. -/
def SM (M : Nat) (v : Value) (x : Int) (W : World) : Prop :=
  (v = .agg #[.int .i64 x, .pointer none] ∧ -2147483648 ≤ x ∧ x ≤ 2147483647) ∨
  ∃ (b : Nat) (neg : Bool) (ws : List Int) (u : Value), v = .agg #[.int .i64 0, .pointer (some ⟨b, 0, none⟩)] ∧ Blk W b 189 #[.bool neg, u] ∧ SlV W (fun k => k < M) .u64 u ws ∧ b < M ∧ WL ws ∧ Nrm ws ∧ 0 < ws.length ∧ ws.length ≤ 30 ∧ wv neg ws = x
theorem SM.keep {M : Nat} {v : Value} {x : Int} {W W' : World} (h : SM M v x W) (hb : Below M W W') : SM M v x W' := by
  rcases h with h | ⟨b, neg, ws, u, h1, h2, h3, h4, h5⟩
  · exact .inl h
  · exact .inr ⟨b, neg, ws, u, h1, h2.below hb h4, h3.keep (still_below hb (fun k hk => hk)), h4, h5⟩
theorem SM.mono {M M' : Nat} {v : Value} {x : Int} {W : World} (h : SM M v x W) (hM : M ≤ M') : SM M' v x W := by
  rcases h with h | ⟨b, neg, ws, u, h1, h2, h3, h4, h5⟩
  · exact .inl h
  · exact .inr ⟨b, neg, ws, u, h1, h2, h3.mono (fun k hk => Nat.lt_of_lt_of_le hk hM), Nat.lt_of_lt_of_le h4 hM, h5⟩
theorem SM.si {M : Nat} {v : Value} {x : Int} {W : World} (h : SM M v x W) (hM : M ≤ W.heap.size) : SI 0 v x W := by
  rcases h with h | ⟨b, neg, ws, u, h1, h2, h3, h4, h5⟩
  · exact .inl h
  · exact .inr ⟨b, neg, ws, u, h1, h2, h3.mono (fun k hk => ⟨Nat.zero_le _, Nat.lt_of_lt_of_le hk hM⟩), Nat.zero_le _, h5⟩
theorem SI.sm {B : Nat} {v : Value} {x : Int} {W : World} (h : SI B v x W) : SM W.heap.size v x W := by
  rcases h with h | ⟨b, neg, ws, u, h1, h2, h3, h4, h5⟩
  · exact .inl h
  · exact .inr ⟨b, neg, ws, u, h1, h2, h3.mono (fun k hk => hk.2), h2.lt, h5⟩

/-- A value of the language in an interface, as a tree, in blocks below M; of lists, dicts and sets the type alone. -/
inductive SVF (M : Nat) (t : Tr) (W : World) : Value → Prop
  | none (h : t.k = 0) : SVF M t W (.iface 145 (.int .u8 0))
  | bool (h : t.k = 1) : SVF M t W (.iface 146 (.bool (t.bits == 1)))
  | int (v : Value) (h : t.k = 2) (hs : SM M v (iv t.neg t.mag) W) : SVF M t W (.iface 117 v)
  | flt (h : t.k = 3) : SVF M t W (.iface 147 (.float .f64 t.bits.toNat))
  | str (h : t.k = 4) : SVF M t W (.iface 149 (.string t.text))
  | byt (h : t.k = 5) : SVF M t W (.iface 150 (.string t.text))
def SVal (M : Nat) : Nat → Tr → World → Value → Prop
  | 0, t, W, v => SVF M t W v
  | d + 1, t, W, v => SVF M t W v ∨ (t.k = 7 ∧ ∃ A c ys, v = .iface 101 (.slice A t.kids.length c) ∧ t.kids.length ≤ c ∧ ys.length = t.kids.length ∧ Rd W (fun k => k < M) A ys ∧ ∀ (i : Nat) (y : Value) (u : Tr), ys[i]? = some y → t.kids[i]? = some u → SVal M d u W y) ∨
      (t.k = 6 ∧ ∃ p, v = .iface 99 (.pointer p)) ∨ (t.k = 8 ∧ ∃ p, v = .iface 102 (.pointer p)) ∨ (t.k = 9 ∧ ∃ p, v = .iface 105 (.pointer p))
theorem SVF.keep {M : Nat} {t : Tr} {W W' : World} {v : Value} (h : SVF M t W v) (hb : Below M W W') : SVF M t W' v := by
  cases h with
  | none h => exact .none h
  | bool h => exact .bool h
  | int v h hs => exact .int v h (hs.keep hb)
  | flt h => exact .flt h
  | str h => exact .str h
  | byt h => exact .byt h
theorem SVF.mono {M M' : Nat} {t : Tr} {W : World} {v : Value} (h : SVF M t W v) (hM : M ≤ M') : SVF M' t W v := by
  cases h with
  | none h => exact .none h
  | bool h => exact .bool h
  | int v h hs => exact .int v h (hs.mono hM)
  | flt h => exact .flt h
  | str h => exact .str h
  | byt h => exact .byt h
theorem SVal.keep {M : Nat} {W W' : World} (hb : Below M W W') : ∀ {d : Nat} {t : Tr} {v : Value}, SVal M d t W v → SVal M d t W' v
  | 0, _, _, h => SVF.keep h hb
  | d + 1, _, _, h => by
    rcases h with h | ⟨hk, A, c, ys, e, hc, hl, hr, hx⟩ | h | h
    · exact .inl (h.keep hb)
    · exact .inr (.inl ⟨hk, A, c, ys, e, hc, hl, hr.keep (still_below hb (fun k hk => hk)), fun i y u hy hu => (hx i y u hy hu).keep hb⟩)
    · exact .inr (.inr (.inl h))
    · exact .inr (.inr (.inr h))
theorem SVal.mono {M M' : Nat} {W : World} (hM : M ≤ M') : ∀ {d : Nat} {t : Tr} {v : Value}, SVal M d t W v → SVal M' d t W v
  | 0, _, _, h => SVF.mono h hM
  | d + 1, _, _, h => by
    rcases h with h | ⟨hk, A, c, ys, e, hc, hl, hr, hx⟩ | h | h
    · exact .inl (h.mono hM)
    · exact .inr (.inl ⟨hk, A, c, ys, e, hc, hl, hr.mono (fun k hk => Nat.lt_of_lt_of_le hk hM), fun i y u hy hu => (hx i y u hy hu).mono hM⟩)
    · exact .inr (.inr (.inl h))
    · exact .inr (.inr (.inr h))

/-- Comparing two of one type by its CompareSameType. -/
theorem cd_cst {P : Prop} {T F : Nat} {v v' : Value} {nm nm' : ByteArray} {n : Int} {w : World} (hn : 1 ≤ n) (h : TyOk T v nm) (h' : TyOk T v' nm') (he : (nm.toList == nm'.toList) = true)
    (ha : ∀ W : World, (Instr.typeAssert (.iface T v) 64 275 true).run Tryz.prog W = .ok (.tuple #[.iface T v, .bool true]) W)
    (hm : ∀ W : World, (method 506 T v "CompareSameType").run Tryz.prog W = .ok (F, v) W) (hf : ∀ W : World, (callFunc F #[v, .int .i8 37, .iface T v', .int .i64 n]).run Tryz.prog W = .ok (.enter F #[v, .int .i8 37, .iface T v', .int .i64 n]) W)
    (hc : ∀ W, Below w.heap.size w W → Calls Tryz.prog F #[v, .int .i8 37, .iface T v', .int .i64 n] W (CmpOut P W)) :
    Calls Tryz.prog 144 #[.int .i8 37, .iface T v, .iface T v', .int .i64 n] w (CmpOut P w) := by
  have HS := Lib.hid (fun w => sameTy h h' w)
  have HC := Lib.hid hc
  rw [he] at HS
  have hn1 : ¬ n < 1 := by omega
  clear h h' he hc hn
  go_enter Tryz.func144, Tryz.ntmps144
  go_wp2_with fail
  refine (HS.out _).mono ?_
  rintro e w1 ⟨rfl, hb1⟩
  have HB1 := Lib.hid hb1
  clear hb1
  go_wp2_with fail
  refine (HC.out _ HB1.out).mono ?_
  rintro e w2 ⟨r, rfl, hr, hb2⟩
  have HR := Lib.hid (And.intro hr (below_up HB1.out hb2))
  clear hr hb2
  go_wp2
  go_ret2
  exact CmpOut.mk' HR.out.1 HR.out.2
end Go.Proofs.YtloloifngbmibaaGreatDoor
set_option linter.unusedVariables false
set_option linter.unusedSimpArgs false
set_option maxRecDepth 4000
namespace Go.Proofs.YtloloifngbmibaaGreatDoor
open Go.RowKit Go.Extern.Stop Go.Stop

/-- Comparing two of one type by its Cmp. -/
theorem cd_cmp {P : Prop} {T F : Nat} {v v' : Value} {nm nm' : ByteArray} {n : Int} {w : World} (hn : 1 ≤ n) (h : TyOk T v nm) (h' : TyOk T v' nm') (he : (nm.toList == nm'.toList) = true)
    (ha : ∀ W : World, (Instr.typeAssert (.iface T v) 64 275 true).run Tryz.prog W = .ok (.tuple #[.nilIface, .bool false]) W)
    (hb : ∀ W : World, (Instr.typeAssert (.iface T v) 64 279 true).run Tryz.prog W = .ok (.tuple #[.iface T v, .bool true]) W)
    (hm : ∀ W : World, (method 506 T v "Cmp").run Tryz.prog W = .ok (F, v) W) (hf : ∀ W : World, (callFunc F #[v, .iface T v', .int .i64 n]).run Tryz.prog W = .ok (.enter F #[v, .iface T v', .int .i64 n]) W)
    (hc : ∀ W, Below w.heap.size w W → Calls Tryz.prog F #[v, .iface T v', .int .i64 n] W fun e w' => ∃ C, e = .returned (.tuple #[.int .i64 C, .nilIface]) ∧ (C = 0 → P) ∧ Below W.heap.size W w') :
    Calls Tryz.prog 144 #[.int .i8 37, .iface T v, .iface T v', .int .i64 n] w (CmpOut P w) := by
  have HS := Lib.hid (fun w => sameTy h h' w)
  have HC := Lib.hid hc
  rw [he] at HS
  have hn1 : ¬ n < 1 := by omega
  have H3 := Lib.hid (fun c w => three37 c w)
  clear h h' he hc hn
  go_enter Tryz.func144, Tryz.ntmps144
  go_wp2_with fail
  refine (HS.out _).mono ?_
  rintro e w1 ⟨rfl, hb1⟩
  have HB1 := Lib.hid hb1
  clear hb1
  go_wp2_with fail
  refine (HC.out _ HB1.out).mono ?_
  rintro e w2 ⟨C, rfl, hC, hb2⟩
  have HR := Lib.hid (And.intro hC (below_up HB1.out hb2))
  clear hC hb2
  go_wp2_with fail
  refine (H3.out _ _).mono ?_
  rintro e w3 ⟨r, rfl, hr, rfl⟩
  have HR2 : Hid (r = true → P) := Lib.hid fun h => HR.out.1 (hr h)
  clear hr
  go_wp2
  go_ret2
  exact CmpOut.mk' HR2.out HR.out.2

theorem cd_none {n : Int} {w : World} (hn : 1 ≤ n) (x y : Int) :
    Calls Tryz.prog 144 #[.int .i8 37, .iface 145 (.int .u8 0), .iface 145 (.int .u8 0), .int .i64 n] w (CmpOut True w) := by
  have HS := Lib.hid (fun w => sameTy (tyNone 0) (tyNone 0) w)
  rw [show ((⟨#[78, 111, 110, 101, 84, 121, 112, 101]⟩ : ByteArray).toList == (⟨#[78, 111, 110, 101, 84, 121, 112, 101]⟩ : ByteArray).toList) = true by simp] at HS
  have hn1 : ¬ n < 1 := by omega
  have ha : ∀ W : World, (Instr.typeAssert (.iface 145 (.int .u8 0)) 64 275 true).run Tryz.prog W = .ok (.tuple #[.nilIface, .bool false]) W := fun W => run_typeAssert_lacksB Tryz.underlying275 (by kernel_rfl) (by kernel_rfl) _ _ W
  have hb : ∀ W : World, (Instr.typeAssert (.iface 145 (.int .u8 0)) 64 279 true).run Tryz.prog W = .ok (.tuple #[.nilIface, .bool false]) W := fun W => run_typeAssert_lacksB Tryz.underlying279 (by kernel_rfl) (by kernel_rfl) _ _ W
  have hq : ∀ W : World, (binOp .eql 64 (.iface 145 (.int .u8 0)) (.iface 145 (.int .u8 0))).run Tryz.prog W = .ok (.bool true) W := fun W => by kernel_rfl
  clear hn
  go_enter Tryz.func144, Tryz.ntmps144
  go_wp2_with fail
  refine (HS.out _).mono ?_
  rintro e w1 ⟨rfl, hb1⟩
  have HB1 := Lib.hid hb1
  clear hb1
  go_wp2
  go_ret2
  exact CmpOut.mk' (fun _ => trivial) HB1.out

/-- Values of unlike types, the first neither an int nor a float. -/
theorem cd_un1 {T T' : Nat} {v v' : Value} {nm nm' : ByteArray} {n : Int} {w : World} (hn : 1 ≤ n) (h : TyOk T v nm) (h' : TyOk T' v' nm') (he : (nm.toList == nm'.toList) = false)
    (ha : ∀ W : World, ∃ u, (Instr.typeAssert (.iface T v) 64 117 true).run Tryz.prog W = .ok (.tuple #[u, .bool false]) W)
    (hb : ∀ W : World, ∃ u, (Instr.typeAssert (.iface T v) 64 147 true).run Tryz.prog W = .ok (.tuple #[u, .bool false]) W) :
    Calls Tryz.prog 144 #[.int .i8 37, .iface T v, .iface T' v', .int .i64 n] w (CmpOut False w) := by
  have HS := Lib.hid (fun w => sameTy h h' w)
  rw [he] at HS
  have hn1 : ¬ n < 1 := by omega
  clear h h' he hn
  go_enter Tryz.func144, Tryz.ntmps144
  go_wp2_with fail
  refine (HS.out _).mono ?_
  rintro e w1 ⟨rfl, hb1⟩
  have HB1 := Lib.hid hb1
  clear hb1
  obtain ⟨u1, ha1⟩ := ha w1
  obtain ⟨u2, ha2⟩ := hb w1
  clear ha hb
  go_wp2
  go_ret2
  exact CmpOut.mk' (fun h => nomatch h) HB1.out

/-- An int, and what is neither an int nor a float. -/
theorem cd_unI {T' : Nat} {s : Int} {a : Option Addr} {v' : Value} {nm nm' : ByteArray} {n : Int} {w : World} (hn : 1 ≤ n) (h : TyOk 117 (.agg #[.int .i64 s, .pointer a]) nm) (h' : TyOk T' v' nm') (he : (nm.toList == nm'.toList) = false)
    (hb : ∀ W : World, ∃ u, (Instr.typeAssert (.iface T' v') 64 147 true).run Tryz.prog W = .ok (.tuple #[u, .bool false]) W) :
    Calls Tryz.prog 144 #[.int .i8 37, .iface 117 (.agg #[.int .i64 s, .pointer a]), .iface T' v', .int .i64 n] w (CmpOut False w) := by
  have HS := Lib.hid (fun w => sameTy h h' w)
  rw [he] at HS
  have hn1 : ¬ n < 1 := by omega
  have ha : ∀ W : World, ∀ v, (Instr.typeAssert (.iface 117 v) 64 117 true).run Tryz.prog W = .ok (.tuple #[v, .bool true]) W := fun W _ => by kernel_rfl
  clear h h' he hn
  go_enter Tryz.func144, Tryz.ntmps144
  go_wp2_with fail
  refine (HS.out _).mono ?_
  rintro e w1 ⟨rfl, hb1⟩
  have HB1 := Lib.hid hb1
  clear hb1
  obtain ⟨u2, ha2⟩ := hb (w1.alloc (.cells #[.int .i64 s, .pointer a] 117))
  clear hb
  go_wp2
  go_ret2
  exact CmpOut.mk' (fun h => nomatch h) (below_al HB1.out _)

/-- A float, and what is neither an int nor a float. -/
theorem cd_unF {T' : Nat} {u : Nat} {v' : Value} {nm nm' : ByteArray} {n : Int} {w : World} (hn : 1 ≤ n) (h : TyOk 147 (.float .f64 u) nm) (h' : TyOk T' v' nm') (he : (nm.toList == nm'.toList) = false)
    (hb : ∀ W : World, (Instr.typeAssert (.iface T' v') 64 117 true).run Tryz.prog W = .ok (.tuple #[.agg #[.int .i64 0, .pointer none], .bool false]) W) :
    Calls Tryz.prog 144 #[.int .i8 37, .iface 147 (.float .f64 u), .iface T' v', .int .i64 n] w (CmpOut False w) := by
  have HS := Lib.hid (fun w => sameTy h h' w)
  rw [he] at HS
  have hn1 : ¬ n < 1 := by omega
  have ha : ∀ W : World, ∀ v, (Instr.typeAssert (.iface 147 v) 64 147 true).run Tryz.prog W = .ok (.tuple #[v, .bool true]) W := fun W _ => by kernel_rfl
  have hd : ∀ W : World, ∀ v, (Instr.typeAssert (.iface 147 v) 64 117 true).run Tryz.prog W = .ok (.tuple #[.agg #[.int .i64 0, .pointer none], .bool false]) W := fun W _ => by kernel_rfl
  clear h h' he hn
  go_enter Tryz.func144, Tryz.ntmps144
  go_wp2_with fail
  refine (HS.out _).mono ?_
  rintro e w1 ⟨rfl, hb1⟩
  have HB1 := Lib.hid hb1
  clear hb1
  go_wp2
  go_ret2
  exact CmpOut.mk' (fun h => nomatch h) (below_al HB1.out _)
end Go.Proofs.YtloloifngbmibaaGreatDoor
set_option linter.unusedVariables false
set_option linter.unusedSimpArgs false
set_option maxRecDepth 4000
namespace Go.Proofs.YtloloifngbmibaaGreatDoor
open Go.RowKit

theorem not63 (u : Nat) (hu : u < 18446744073709551616) : bits .andNot .u64 (u : Int) 9223372036854775808 = ((u % 9223372036854775808 : Nat) : Int) := by
  have h := u64_andNot_nat u 9223372036854775808 hu (by decide)
  rw [show ((9223372036854775808 : Nat) : Int) = 9223372036854775808 from rfl] at h
  rw [h, show (18446744073709551615 - 9223372036854775808 : Nat) = 2 ^ 63 - 1 from rfl, Nat.and_two_pow_sub_one_eq_mod]
theorem ffb_call (u : Nat) (w : World) : (callFunc 63 #[.int .u64 (u : Int)]).run Tryz.prog w = .ok (.value (.float .f64 u)) w := by
  rw [run_callFunc_extern Tryz.func63 (by kernel_rfl) (by kernel_rfl) (by kernel_rfl) (e := Extern.MathFloatBits.float64frombits) (by kernel_rfl)]
  rfl
theorem abs_any (u : Nat) (hu : u < 18446744073709551616) (w : World) : Calls Tryz.prog 145 #[.float .f64 u] w fun e w' => e = .returned (.float .f64 (u % 9223372036854775808)) ∧ w' = w := by
  have h1 := not63 u hu
  have h2 := fun w => fbits_call u w
  obtain ⟨y, hy⟩ : ∃ y, y = u % 9223372036854775808 := ⟨_, rfl⟩
  rw [← hy] at h1 ⊢
  have h3 := fun w => ffb_call y w
  clear hu hy
  go_enter Tryz.func145, Tryz.ntmps145
  go_wp2
  go_ret
  exact ⟨rfl, rfl⟩
theorem fcl_abs (u : Nat) (hu : u < 18446744073709551616) : fcl (u % 9223372036854775808) = match fcl u with | .fin x => .fin (x.natAbs : Int) | .inf _ => .inf false | .nan => .nan := by
  have h1 : fex (u % 9223372036854775808) = fex u := by unfold fex; omega
  have h2 : u % 9223372036854775808 % 4503599627370496 = u % 4503599627370496 := by omega
  have h3 : fm (u % 9223372036854775808) = fm u := by unfold fm; rw [h1, h2]
  have h4 : fs (u % 9223372036854775808) = fs u := by unfold fs; rw [h1]
  have h5 : fabs (u % 9223372036854775808) = fabs u := by unfold fabs; rw [h3, h4]
  unfold fcl
  rw [h1, h2]
  by_cases hf : fex u ≠ 2047
  · rw [if_pos hf, if_pos hf]
    simp only
    congr 1
    unfold fv
    rw [h5, if_neg (by omega)]
    split <;> omega
  · rw [if_neg hf, if_neg hf]
    by_cases hz : u % 4503599627370496 = 0
    · rw [if_pos hz, if_pos hz]
      simp only
      congr 1
      simp
      omega
    · rw [if_neg hz, if_neg hz]

/-- Is a class infinite? -/
def Fc.big : Fc → Bool
  | .inf _ => true
  | _ => false
def Fc.isFin : Fc → Bool
  | .fin _ => true
  | _ => false
theorem isFin_fex {u : Nat} (h : (fcl u).isFin = true) : fex u ≠ 2047 := by
  unfold fcl at h
  by_cases hf : fex u ≠ 2047
  · exact hf
  · rw [if_neg hf] at h
    split at h <;> simp [Fc.isFin] at h
theorem isInf_any (u : Nat) (hu : u < 18446744073709551616) (w : World) : Calls Tryz.prog 136 #[.float .f64 u, .int .i64 0] w fun e w' => e = .returned (.bool (fcl u).big) ∧ w' = w := by
  have HA := Lib.hid (fun w => abs_any u hu w)
  have hb : (FloatKind.f64.format.order (u % 9223372036854775808) 9218868437227405311 == some Ordering.gt) = (fcl u).big := by
    rw [gt_max _ (by omega), fcl_abs u hu]
    cases fcl u <;> simp [Fc.big]
  obtain ⟨y, hy⟩ : ∃ y, y = u % 9223372036854775808 := ⟨_, rfl⟩
  rw [← hy] at HA hb
  clear hu hy
  go_enter Tryz.func136, Tryz.ntmps136
  go_wp2_with fail
  refine (HA.out _).mono ?_
  rintro e w1 ⟨rfl, rfl⟩
  go_wp2
  go_ret
  exact ⟨rfl, rfl⟩
theorem le_max (u : Nat) (hu : u < 18446744073709551616) (hs : u < 9223372036854775808) : (FloatKind.f64.format.order u 9218868437227405311 == some Ordering.lt || FloatKind.f64.format.order u 9218868437227405311 == some Ordering.eq) = (fcl u).isFin := by
  rw [ord_any u _ hu (by decide), fcl_max]
  cases h : fcl u with
  | nan => rfl
  | inf s =>
    unfold fcl at h
    split at h
    · cases h
    · split at h
      · injection h with h
        rw [decide_eq_false (by omega)] at h
        subst h
        rfl
      · cases h
  | fin x =>
    have h1 := (fcl_le h).2
    show (some (compare x maxV) == some Ordering.lt || some (compare x maxV) == some Ordering.eq) = true
    by_cases he : x = maxV
    · subst he
      simp
    · rw [Int.compare_eq_lt.2 (by omega)]
      rfl
theorem isFinite_any (u : Nat) (hu : u < 18446744073709551616) (w : World) : Calls Tryz.prog 328 #[.float .f64 u] w fun e w' => e = .returned (.bool (fcl u).isFin) ∧ w' = w := by
  have HA := Lib.hid (fun w => abs_any u hu w)
  have hb := le_max (u % 9223372036854775808) (by omega) (by omega)
  have hc : (fcl (u % 9223372036854775808)).isFin = (fcl u).isFin := by
    rw [fcl_abs u hu]
    cases fcl u <;> rfl
  rw [hc] at hb
  obtain ⟨y, hy⟩ : ∃ y, y = u % 9223372036854775808 := ⟨_, rfl⟩
  rw [← hy] at HA hb
  clear hu hy hc
  go_enter Tryz.func328, Tryz.ntmps328
  go_wp2_with fail
  refine (HA.out _).mono ?_
  rintro e w1 ⟨rfl, rfl⟩
  go_wp2
  go_ret
  exact ⟨rfl, rfl⟩
end Go.Proofs.YtloloifngbmibaaGreatDoor
