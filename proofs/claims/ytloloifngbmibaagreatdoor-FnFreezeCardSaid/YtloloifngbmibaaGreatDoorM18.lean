/- The reference's Equal at keys: the walk. The reference's Equal at keys of one kind. The reference's Equal and Find at keys. The reference's Find at keys. Rows of Vals of the call's own, appended to. -/
import Derived.Test.YtloloifngbmibaaGreatDoorM17
import Derived.Deep.RegionLaw
set_option linter.unusedVariables false
set_option linter.unusedSimpArgs false
set_option maxRecDepth 4000
namespace Go.Proofs.YtloloifngbmibaaGreatDoor
open Go.RowKit

theorem numb {k : Int} {b : Bool} (x : Vc) (hx : x.k = k) (h : (k = 2 ∨ k = 3) ↔ b = true) (W : World) : Calls Tryz.prog 105 #[x.agg] W fun e w' => e = .returned (.bool b) ∧ Below W.heap.size W w' := by
  have e : (decide (x.k = 2) || decide (x.k = 3)) = b := by
    rw [hx]
    cases b
    · have : ¬ (k = 2 ∨ k = 3) := fun h1 => by have := h.1 h1; cases this
      simp; omega
    · have := h.2 rfl
      simpa using this
  rw [← e]
  exact number_v x W

/-- Two numbers. -/
theorem equal_num {d d' : Nat} {t t' : Tr} {x y : Vc} {w : World} (h : HV d t x w) (h' : HV d' t' y w) (g : GoodH t) (g' : GoodH t') (hk : t.k = 2 ∨ t.k = 3) (hk' : t'.k = 2 ∨ t'.k = 3) :
    Calls Tryz.prog 83 #[x.agg, y.agg] w fun e w' => ∃ r : Bool, e = .returned (.bool r) ∧ (ncl t = ncl t' → r = true) ∧ Below w.heap.size w w' := by
  have e1 : x.k = t.k := by obtain ⟨S, h1, _⟩ := h; exact h1.head.k
  have e2 : y.k = t'.k := by obtain ⟨S, h1, _⟩ := h'; exact h1.head.k
  have N1 := Lib.hid (numb (b := true) x e1 ⟨fun _ => rfl, fun _ => hk⟩)
  have N2 := Lib.hid (numb (b := true) y e2 ⟨fun _ => rfl, fun _ => hk'⟩)
  have HC := Lib.hid (fun W (hW : Below w.heap.size w W) => cmpNumbers_any (h.up hW) (h'.up hW) g g' hk hk')
  obtain ⟨k, n, m, b, s, q⟩ := x
  obtain ⟨k', n', m', b', s', q'⟩ := y
  have h0 := Lib.hid (Bx2.start w ⟨k, n, m, b, s, q⟩ ⟨k', n', m', b', s', q'⟩)
  clear h h' g g' hk hk' e1 e2
  go_enter Tryz.func83, Tryz.ntmps83
  go_wp2_with fail
  refine (N1.out _).mono ?_
  rintro e w1 ⟨rfl, hb1⟩
  have h1 := Lib.hid (h0.out.up hb1)
  obtain ⟨_, _, _, _, _, _, _, y0, y1, y2, y3, y4, y5⟩ := h1.out.s
  clear hb1 h0
  go_wp2_with fail
  refine (N2.out _).mono ?_
  rintro e w2 ⟨rfl, hb2⟩
  have h2 := Lib.hid (h1.out.up hb2)
  clear hb2 h1 y0 y1 y2 y3 y4 y5
  obtain ⟨_, x0, x1, x2, x3, x4, x5, y0, y1, y2, y3, y4, y5⟩ := h2.out.s
  go_wp2_with fail
  refine (HC.out _ h2.out.lo).mono ?_
  rintro e w3 ⟨c, rfl, hc, hb3⟩
  have HL := Lib.hid (below_up h2.out.lo hb3)
  clear hb3 h2 HC x0 x1 x2 x3 x4 x5 y0 y1 y2 y3 y4 y5
  go_wp2
  go_ret
  exact ⟨_, rfl, fun h => by rw [hc h]; rfl, HL.out⟩

/-- Two kinds. -/
theorem equal_kinds {x y : Vc} {w : World} (hk : ¬ ((x.k = 2 ∨ x.k = 3) ∧ (y.k = 2 ∨ y.k = 3))) (hne : x.k ≠ y.k) :
    Calls Tryz.prog 83 #[x.agg, y.agg] w fun e w' => e = .returned (.bool false) ∧ Below w.heap.size w w' := by
  obtain ⟨k, n, m, b, s, q⟩ := x
  obtain ⟨k', n', m', b', s', q'⟩ := y
  simp only at hk hne
  have h0 := Lib.hid (Bx2.start w ⟨k, n, m, b, s, q⟩ ⟨k', n', m', b', s', q'⟩)
  have ek := bne_yes hne
  by_cases h1 : k = 2 ∨ k = 3
  · have h2 : ¬ (k' = 2 ∨ k' = 3) := fun h => hk ⟨h1, h⟩
    have N1 := Lib.hid (numb (b := true) ⟨k, n, m, b, s, q⟩ rfl ⟨fun _ => rfl, fun _ => h1⟩)
    have N2 := Lib.hid (numb (b := false) ⟨k', n', m', b', s', q'⟩ rfl ⟨fun h => absurd h h2, fun h => by cases h⟩)
    clear h1 h2 hk hne
    go_enter Tryz.func83, Tryz.ntmps83
    go_wp2_with fail
    refine (N1.out _).mono ?_
    rintro e w1 ⟨rfl, hb1⟩
    have h1 := Lib.hid (h0.out.up hb1)
    obtain ⟨_, _, _, _, _, _, _, y0, y1, y2, y3, y4, y5⟩ := h1.out.s
    clear hb1 h0
    go_wp2_with fail
    refine (N2.out _).mono ?_
    rintro e w2 ⟨rfl, hb2⟩
    have h2 := Lib.hid (h1.out.up hb2)
    clear hb2 h1 y0 y1 y2 y3 y4 y5
    obtain ⟨_, x0, x1, x2, x3, x4, x5, y0, y1, y2, y3, y4, y5⟩ := h2.out.s
    have HL := Lib.hid h2.out.lo
    clear h2
    go_wp2
    go_ret
    exact ⟨rfl, HL.out⟩
  · have N1 := Lib.hid (numb (b := false) ⟨k, n, m, b, s, q⟩ rfl ⟨fun h => absurd h h1, fun h => by cases h⟩)
    clear h1 hk hne
    go_enter Tryz.func83, Tryz.ntmps83
    go_wp2_with fail
    refine (N1.out _).mono ?_
    rintro e w1 ⟨rfl, hb1⟩
    have h2 := Lib.hid (h0.out.up hb1)
    clear hb1 h0
    obtain ⟨_, x0, x1, x2, x3, x4, x5, y0, y1, y2, y3, y4, y5⟩ := h2.out.s
    have HL := Lib.hid h2.out.lo
    clear h2
    go_wp2
    go_ret
    exact ⟨rfl, HL.out⟩
end Go.Proofs.YtloloifngbmibaaGreatDoor
set_option linter.unusedVariables false
set_option linter.unusedSimpArgs false
set_option maxRecDepth 4000
namespace Go.Proofs.YtloloifngbmibaaGreatDoor
open Go.RowKit

/-- Two of one kind that has no kids to look at. -/
theorem equal_flat {EQ : Prop} (K : Int) (hK : K = 0 ∨ K = 1) (n n' : Bool) (m m' : Value) (b b' : Int) (s s' : ByteArray) (A A' : Option Addr) (c c' : Nat) (w : World) (hb : EQ → K = 1 → b = b') :
    Calls Tryz.prog 83 #[.agg #[.int .i64 K, .bool n, m, .int .u64 b, .string s, .slice A 0 c], .agg #[.int .i64 K, .bool n', m', .int .u64 b', .string s', .slice A' 0 c']] w fun e w' => ∃ r : Bool, e = .returned (.bool r) ∧ (EQ → r = true) ∧ Below w.heap.size w w' := by
  have N1 := Lib.hid (numb (k := K) (b := false) ⟨K, n, m, b, s, .slice A 0 c⟩ rfl ⟨fun h => by omega, fun h => by cases h⟩)
  have h0 := Lib.hid (Bx2.start w ⟨K, n, m, b, s, .slice A 0 c⟩ ⟨K, n', m', b', s', .slice A' 0 c'⟩)
  have HB := Lib.hid hb
  clear hb
  rcases hK with rfl | rfl
  · clear HB
    go_enter Tryz.func83, Tryz.ntmps83
    go_wp2_with fail
    refine (N1.out _).mono ?_
    rintro e w1 ⟨rfl, hb1⟩
    have h2 := Lib.hid (h0.out.up hb1)
    clear hb1 h0
    obtain ⟨_, x0, x1, x2, x3, x4, x5, y0, y1, y2, y3, y4, y5⟩ := h2.out.s
    have HL := Lib.hid h2.out.lo
    clear h2
    go_wp2
    go_ret
    first | exact ⟨_, rfl, fun _ => rfl, HL.out⟩ | exact ⟨⟨_, rfl⟩, HL.out⟩
  · by_cases he : b = b'
    · subst he
      go_enter Tryz.func83, Tryz.ntmps83
      go_wp2_with fail
      refine (N1.out _).mono ?_
      rintro e w1 ⟨rfl, hb1⟩
      have h2 := Lib.hid (h0.out.up hb1)
      clear hb1 h0
      obtain ⟨_, x0, x1, x2, x3, x4, x5, y0, y1, y2, y3, y4, y5⟩ := h2.out.s
      have HL := Lib.hid h2.out.lo
      clear h2
      go_wp2
      go_ret
      exact ⟨_, rfl, fun _ => rfl, HL.out⟩
    · have eb := beq_no he
      go_enter Tryz.func83, Tryz.ntmps83
      go_wp2_with fail
      refine (N1.out _).mono ?_
      rintro e w1 ⟨rfl, hb1⟩
      have h2 := Lib.hid (h0.out.up hb1)
      clear hb1 h0
      obtain ⟨_, x0, x1, x2, x3, x4, x5, y0, y1, y2, y3, y4, y5⟩ := h2.out.s
      have HL := Lib.hid h2.out.lo
      have HE := Lib.hid he
      clear h2 he
      go_wp2
      go_ret
      exact ⟨_, rfl, fun h => absurd (HB.out h (by first | rfl | trivial)) HE.out, HL.out⟩

/-- Two lengths. -/
theorem equal_len (K : Int) (hK : ¬ (K = 2 ∨ K = 3)) (n n' : Bool) (m m' : Value) (b b' : Int) (s s' : ByteArray) (A A' : Option Addr) (l l' c c' : Nat) (hne : l ≠ l') (w : World) :
    Calls Tryz.prog 83 #[.agg #[.int .i64 K, .bool n, m, .int .u64 b, .string s, .slice A l c], .agg #[.int .i64 K, .bool n', m', .int .u64 b', .string s', .slice A' l' c']] w fun e w' => e = .returned (.bool false) ∧ Below w.heap.size w w' := by
  have N1 := Lib.hid (numb (k := K) (b := false) ⟨K, n, m, b, s, .slice A l c⟩ rfl ⟨fun h => absurd h hK, fun h => by cases h⟩)
  have h0 := Lib.hid (Bx2.start w ⟨K, n, m, b, s, .slice A l c⟩ ⟨K, n', m', b', s', .slice A' l' c'⟩)
  have en : ((l : Int) != (l' : Int)) = true := bne_yes (by omega)
  clear hne hK
  go_enter Tryz.func83, Tryz.ntmps83
  go_wp2_with fail
  refine (N1.out _).mono ?_
  rintro e w1 ⟨rfl, hb1⟩
  have h2 := Lib.hid (h0.out.up hb1)
  clear hb1 h0
  obtain ⟨_, x0, x1, x2, x3, x4, x5, y0, y1, y2, y3, y4, y5⟩ := h2.out.s
  have HL := Lib.hid h2.out.lo
  clear h2
  go_wp2
  go_ret
  exact ⟨rfl, HL.out⟩

/-- Two of one kind, kid by kid. -/
theorem equal_kids {EQ : Prop} {P : Nat → Prop} (K : Int) (hK : K = 4 ∨ K = 5 ∨ K = 7) (n n' : Bool) (m m' : Value) (b b' : Int) (s s' : ByteArray) (A A' : Option Addr) (l c c' : Nat) (hl : l ≤ 1000) (w : World)
    (hs : EQ → s = s') (hP : EQ → ∀ i, i < l → P i)
    (HK : ∀ i, i < l → ∀ W, Below w.heap.size w W → ∃ u v : Vc, KidAt W A i u ∧ KidAt W A' i v ∧ Calls Tryz.prog 83 #[u.agg, v.agg] W fun e w' => ∃ r : Bool, e = .returned (.bool r) ∧ (P i → r = true) ∧ Below W.heap.size W w') :
    Calls Tryz.prog 83 #[.agg #[.int .i64 K, .bool n, m, .int .u64 b, .string s, .slice A l c], .agg #[.int .i64 K, .bool n', m', .int .u64 b', .string s', .slice A' l c']] w fun e w' => ∃ r : Bool, e = .returned (.bool r) ∧ (EQ → r = true) ∧ Below w.heap.size w w' := by
  have N1 := Lib.hid (numb (k := K) (b := false) ⟨K, n, m, b, s, .slice A l c⟩ rfl ⟨fun h => by omega, fun h => by cases h⟩)
  have h0 := Lib.hid (Bx2.start w ⟨K, n, m, b, s, .slice A l c⟩ ⟨K, n', m', b', s', .slice A' l c'⟩)
  have k0 := beq_no (show ¬ K = 0 by omega)
  have k1 := beq_no (show ¬ K = 1 by omega)
  have k8 := beq_no (show ¬ K = 8 by omega)
  have k9 := beq_no (show ¬ K = 9 by omega)
  have HS := Lib.hid (And.intro hs hP)
  have HH := Lib.hid HK
  clear hs hP HK hK
  go_enter Tryz.func83, Tryz.ntmps83
  go_wp2_with fail
  refine (N1.out _).mono ?_
  rintro e w1 ⟨rfl, hb1⟩
  have h2 := Lib.hid (h0.out.up hb1)
  clear hb1 h0
  obtain ⟨_, x0, x1, x2, x3, x4, x5, y0, y1, y2, y3, y4, y5⟩ := h2.out.s
  go_wp2
  clear x0 x1 x2 x3 x4 x5 y0 y1 y2 y3 y4 y5 k0 k1 k8 k9
  go_loopw [7] (fun iv wr => ∃ (i : Nat), iv = .int .i64 i ∧ i ≤ l ∧ Hid (Bx2 w ⟨K, n, m, b, s, .slice A l c⟩ ⟨K, n', m', b', s', .slice A' l c'⟩ wr)) (fun iv _ => l - (intOf iv).toNat)
  case atStart => exact ⟨0, rfl, Nat.zero_le _, h2⟩
  case round =>
    obtain ⟨i, rfl, hi, hB⟩ := hrel
    by_cases hlt : i < l
    · obtain ⟨u, v, ⟨b1, o1, rfl, hu⟩, ⟨b2, o2, rfl, hv⟩, hc⟩ := HH.out i hlt wr.drew hB.out.lo.drew
      have HC := Lib.hid hc
      have HME := Lib.hid (ms_lt hlt)
      have w1k := Lib.hid (wr_suc i (Nat.le_trans hi (Nat.le_trans hl (by decide))))
      have HS6 := Lib.hid (show Bx2S w K n m b s (.slice (some ⟨b1, o1, none⟩) l c) K n' m' b' s' (.slice (some ⟨b2, o2, none⟩) l c') wr.drew ∧ Six wr.drew b1 (o1 + i * 6) u ∧ Six wr.drew b2 (o2 + i * 6) v from ⟨hB.out.drew.s, hu, hv⟩)
      obtain ⟨_, x0, x1, x2, x3, x4, x5, y0, y1, y2, y3, y4, y5⟩ := hB.out.s
      clear hc hu hv
      have HPi := Lib.hid (fun h => HS.out.2 h i hlt)
      have HSI := Lib.hid (Nat.succ_le_of_lt hlt)
      clear h2 N1
      go_wp2_with fail
      go_region_held3 (fun W => Bx2S w K n m b s (.slice (some ⟨b1, o1, none⟩) l c) K n' m' b' s' (.slice (some ⟨b2, o2, none⟩) l c') W ∧ Six W b1 (o1 + i * 6) u ∧ Six W b2 (o2 + i * 6) v)
        (first | assumption | exact HS6.out | exact ⟨(HS6.out.1.1.up ‹Below _ _ _›).s, HS6.out.2.1.up ‹Below _ _ _›, HS6.out.2.2.up ‹Below _ _ _›⟩)
        (first
          | (go_at_call 83; (with_reducible refine HC.out.mono ?_); rintro e w2 ⟨r, rfl, hr, hb2⟩))
      have hB2 := Lib.hid (hB.out.drew.up hb2)
      have HR := Lib.hid hr
      have HL2 := Lib.hid hB2.out.lo
      clear hb2 hr HS6 hB HC x0 x1 x2 x3 x4 x5 y0 y1 y2 y3 y4 y5 HH
      cases r with
      | true =>
        go_wp2
        go_roundw
        case rel => exact ⟨i + 1, by first | rfl | (rw [w1k.out]; rfl), HSI.out, hB2⟩
        case measure => first | exact HME.out | (rw [w1k.out]; exact HME.out)
      | false =>
        go_wp2
        go_ret
        exact ⟨_, rfl, fun h => by have := HR.out (HPi.out h); simp at this, HL2.out⟩
    · obtain ⟨_, x0, x1, x2, x3, x4, x5, y0, y1, y2, y3, y4, y5⟩ := hB.out.s
      have HL2 := Lib.hid hB.out.lo
      clear hB h2 N1 HH
      by_cases he : s = s'
      · subst he
        go_wp2
        go_ret
        first | exact ⟨_, rfl, fun _ => by simp, HL2.out⟩ | exact .inr ⟨rfl, HL2.out⟩
      · have HE := Lib.hid he
        have es : decide (s = s') = false := decide_eq_false he
        clear he
        go_wp2
        go_ret
        first | exact ⟨_, rfl, fun h => absurd (HS.out.1 h) HE.out, HL2.out⟩ | exact .inl ⟨rfl, fun h => absurd (HS.out.1 h) HE.out, HL2.out⟩
end Go.Proofs.YtloloifngbmibaaGreatDoor
set_option linter.unusedVariables false
set_option linter.unusedSimpArgs false
set_option maxRecDepth 4000
namespace Go.Proofs.YtloloifngbmibaaGreatDoor
open Go.RowKit

/-- What a Bool is handed back with. -/
def RetB (Q : Bool → Prop) (w : World) (e : Ending) (w' : World) : Prop := ∃ r : Bool, e = .returned (.bool r) ∧ Q r ∧ Below w.heap.size w w'

theorem KeyT.kinds : ∀ {d : Nat} {t : Tr}, KeyT d t → t.k < 6 ∨ t.k = 7
  | 0, _, h => h
  | _ + 1, _, h => h.imp id (fun h => h.1)

theorem canonH_same {t t' : Tr} {l l' : List Canon} (hk : t.k = t'.k) (h0 : 0 ≤ t.k) (h7 : t.k < 6 ∨ t.k = 7) (hn : ¬ (t.k = 2 ∨ t.k = 3)) (h : canonH t l = canonH t' l') :
    (t.k = 1 → t.bits = t'.bits) ∧ (t.k = 4 ∨ t.k = 5 → t.text = t'.text) ∧ (t.k = 7 → l = l') := by
  unfold canonH at h
  rw [← hk] at h
  refine ⟨fun e => ?_, fun e => ?_, fun e => ?_⟩
  · rw [e] at h
    simpa using h
  · rcases e with e | e <;> rw [e] at h <;> simpa using h
  · rw [e] at h
    simpa using h
theorem canonH_num {t t' : Tr} {l l' : List Canon} (hk : t.k = 2 ∨ t.k = 3) (hk' : t'.k = 2 ∨ t'.k = 3) (h : canonH t l = canonH t' l') : ncl t = ncl t' := by
  have e : ∀ (s : Tr) (r : List Canon), (s.k = 2 ∨ s.k = 3) → canonH s r = .num (ncl s) := by
    intro s r hs
    unfold canonH
    rcases hs with e | e <;> rw [e] <;> simp
  rw [e t l hk, e t' l' hk'] at h
  injection h

theorem equal_step {d d' : Nat} {t t' : Tr} {x y : Vc} {w : World} (h : HV (d + 1) t x w) (h' : HV (d' + 1) t' y w) (g : GoodH t) (g' : GoodH t') (k7 : t.k < 6 ∨ t.k = 7) (k7' : t'.k < 6 ∨ t'.k = 7) (lf : t.k < 6 → t.kids = []) (lf' : t'.k < 6 → t'.kids = []) (L L' : List Canon) (hL : L.length = t.kids.length) (hL' : L'.length = t'.kids.length)
    (HK : t.k = 7 → ∀ i, i < t.kids.length → i < t'.kids.length → ∀ W, Below w.heap.size w W → ∀ {u v : Tr} {p r : Vc}, t.kids[i]? = some u → t'.kids[i]? = some v → HV d u p W → HV d' v r W → Calls Tryz.prog 83 #[p.agg, r.agg] W fun e w' => ∃ r : Bool, e = .returned (.bool r) ∧ (L[i]? = L'[i]? → r = true) ∧ Below W.heap.size W w') :
    Calls Tryz.prog 83 #[x.agg, y.agg] w fun e w' => ∃ r : Bool, e = .returned (.bool r) ∧ (canonH t L = canonH t' L' → r = true) ∧ Below w.heap.size w w' := by
  by_cases hn : (t.k = 2 ∨ t.k = 3) ∧ (t'.k = 2 ∨ t'.k = 3)
  · refine (equal_num h h' g g' hn.1 hn.2).mono ?_
    rintro e w' ⟨r, rfl, hr, hb⟩
    exact ⟨r, rfl, fun he => hr (canonH_num hn.1 hn.2 he), hb⟩
  · have e1 : x.k = t.k ∧ x.b = t.bits ∧ x.s = t.text := by obtain ⟨S, h1, _⟩ := h; exact ⟨h1.head.k, h1.head.b, h1.head.s⟩
    have e2 : y.k = t'.k ∧ y.b = t'.bits ∧ y.s = t'.text := by obtain ⟨S, h1, _⟩ := h'; exact ⟨h1.head.k, h1.head.b, h1.head.s⟩
    by_cases hk : t.k = t'.k
    · have hn2 : ¬ (t.k = 2 ∨ t.k = 3) := fun hh => hn ⟨hh, by rw [← hk]; exact hh⟩
      obtain ⟨A, c, hq, hc, hks⟩ := h.kids
      obtain ⟨A', c', hq', hc', hks'⟩ := h'.kids
      have hs := fun he => canonH_same (l := L) (l' := L') hk g.k.1 k7 hn2 he
      have hle := g.kl
      obtain ⟨k, n, m, b, s, q⟩ := x
      obtain ⟨k', n', m', b', s', q'⟩ := y
      simp only at e1 e2 hq hq'
      obtain ⟨rfl, rfl, rfl⟩ := e1
      obtain ⟨ek, rfl, rfl⟩ := e2
      rw [← hk] at ek
      subst ek
      subst hq hq'
      by_cases hlen : t.kids.length = t'.kids.length
      · have hcase : (t.k = 0 ∨ t.k = 1) ∨ (t.k = 4 ∨ t.k = 5 ∨ t.k = 7) := by have := g.k; omega
        rcases hcase with h01 | h457
        · have hz : t.kids = [] := lf (by omega)
          have hz' : t'.kids = [] := lf' (by omega)
          rw [hz, hz']
          exact equal_flat t.k h01 n n' m m' t.bits t'.bits t.text t'.text A A' c c' w (fun he h1 => (hs he).1 h1)
        · have HKK := equal_kids (EQ := canonH t L = canonH t' L') (P := fun i => L[i]? = L'[i]?) t.k h457 n n' m m' t.bits t'.bits t.text t'.text A A' t.kids.length c c' (by omega) w
            (fun he => by
              rcases h457 with h4 | h5 | h7
              · exact (hs he).2.1 (.inl h4)
              · exact (hs he).2.1 (.inr h5)
              · rw [g.notx (by omega) (by omega), g'.notx (by omega) (by omega)])
            (fun he i hi => by
              rcases h457 with h4 | h5 | h7
              · rw [lf (by omega)] at hi; simp at hi
              · rw [lf (by omega)] at hi; simp at hi
              · rw [(hs he).2.2 h7])
            (fun i hi W hW => by
              have h7 : t.k = 7 := by
                rcases h457 with h4 | h5 | h7
                · rw [lf (by omega)] at hi; simp at hi
                · rw [lf (by omega)] at hi; simp at hi
                · exact h7
              obtain ⟨p, u, hu, hp, hpk⟩ := (hks.up hW).at_ hi
              obtain ⟨r, v, hv, hr, hrk⟩ := (hks'.up hW).at_ (i := i) (by omega)
              exact ⟨p, r, hpk, hrk, HK h7 i hi (by omega) W hW hu hv hp hr⟩)
          rw [hlen] at HKK ⊢
          exact HKK
      · refine (equal_len t.k hn2 n n' m m' t.bits t'.bits t.text t'.text A A' t.kids.length t'.kids.length c c' hlen w).mono ?_
        rintro e w' ⟨rfl, hb⟩
        refine ⟨false, rfl, fun he => ?_, hb⟩
        exfalso
        rcases k7 with h6 | h7
        · exact hlen (by rw [lf h6, lf' (by omega)])
        · have := (hs he).2.2 h7
          exact hlen (by rw [← hL, ← hL', this])
    · refine (equal_kinds (by rw [e1.1, e2.1]; exact hn) (by rw [e1.1, e2.1]; exact hk)).mono ?_
      rintro e w' ⟨rfl, hb⟩
      exact ⟨false, rfl, fun he => absurd (canonH_kind g.k.1 g'.k.1 k7 k7' he hn) hk, hb⟩

theorem equal_any : ∀ (d : Nat) {t t' : Tr} {x y : Vc} {w : World}, HV (d + 1) t x w → HV (d + 1) t' y w → Good d t → Good d t' → KeyT d t → KeyT d t' →
    Calls Tryz.prog 83 #[x.agg, y.agg] w fun e w' => ∃ r : Bool, e = .returned (.bool r) ∧ (canon d t = canon d t' → r = true) ∧ Below w.heap.size w w' := by
  intro d
  induction d with
  | zero =>
    intro t t' x y w h h' g g' kt kt'
    exact equal_step h h' g.head g'.head kt.kinds kt'.kinds g.leaf g'.leaf [] [] (by rw [g.2.2]; rfl) (by rw [g'.2.2]; rfl) (fun h7 => by have := g.2.1; omega)
  | succ d ih =>
    intro t t' x y w h h' g g' kt kt'
    refine equal_step h h' g.head g'.head kt.kinds kt'.kinds g.leaf g'.leaf (t.kids.map (canon d)) (t'.kids.map (canon d)) (by simp) (by simp) ?_
    intro h7 i hi hi' W hW u v p r hu hv hp hr
    have hmu := List.mem_of_getElem? hu
    have hmv := List.mem_of_getElem? hv
    have kk : ∀ {s : Tr}, KeyT (d + 1) s → s.k = 7 ∨ s.kids = [] → ∀ {z : Tr}, z ∈ s.kids → KeyT d z := by
      intro s hs h7 z hz
      rcases hs with h6 | ⟨_, hz'⟩
      · rcases h7 with h7 | h7
        · omega
        · rw [h7] at hz; cases hz
      · exact hz' z hz
    have c7' : t'.k = 7 ∨ t'.kids = [] := by
      rcases kt'.kinds with h6 | h7'
      · exact .inr (g'.leaf h6)
      · exact .inl h7'
    refine (ih hp hr (g.2.2.1 u hmu) (g'.2.2.1 v hmv) (kk kt (.inl h7) hmu) (kk kt' c7' hmv)).mono ?_
    rintro e w' ⟨b, rfl, hb, hl⟩
    refine ⟨b, rfl, fun he => hb ?_, hl⟩
    simpa [hu, hv] using he
end Go.Proofs.YtloloifngbmibaaGreatDoor
set_option linter.unusedVariables false
set_option linter.unusedSimpArgs false
set_option maxRecDepth 4000
namespace Go.Proofs.YtloloifngbmibaaGreatDoor
open Go.RowKit

/-- One boxed Val. -/
def Bv1 (w : World) (x : Vc) (W : World) : Prop := Below w.heap.size w W ∧ Blk W w.heap.size 26 (VcB x)
theorem Bv1.up {w : World} {x : Vc} {W W' : World} (h : Bv1 w x W) (hb : Below W.heap.size W W') : Bv1 w x W' := ⟨below_up h.1 hb, h.2.below hb h.2.lt⟩
theorem Bv1.drew {w : World} {x : Vc} {W : World} (h : Bv1 w x W) : Bv1 w x W.drew := ⟨h.1.drew, h.2⟩
theorem Bv1.lo {w : World} {x : Vc} {W : World} (h : Bv1 w x W) : Below w.heap.size w W := h.1
theorem Bv1.start (w : World) (x : Vc) : Bv1 w x (w.alloc (.cells (VcB x) 26)) := ⟨(Below.refl _ _).alloc (Nat.le_refl _) _, Blk.new _ _ _⟩
abbrev Bv1S (w : World) (k : Int) (n : Bool) (m : Value) (b : Int) (s : ByteArray) (q : Value) (W : World) : Prop :=
  Bv1 w ⟨k, n, m, b, s, q⟩ W ∧ W.cell? ⟨w.heap.size, 0, none⟩ = some (.int .i64 k) ∧ W.cell? ⟨w.heap.size, 1, none⟩ = some (.bool n) ∧ W.cell? ⟨w.heap.size, 2, none⟩ = some m ∧ W.cell? ⟨w.heap.size, 3, none⟩ = some (.int .u64 b) ∧ W.cell? ⟨w.heap.size, 4, none⟩ = some (.string s) ∧ W.cell? ⟨w.heap.size, 5, none⟩ = some q
theorem Bv1.s {w : World} {k : Int} {n : Bool} {m : Value} {b : Int} {s : ByteArray} {q : Value} {W : World} (h : Bv1 w ⟨k, n, m, b, s, q⟩ W) : Bv1S w k n m b s q W :=
  ⟨h, h.2.cell 0, h.2.cell 1, h.2.cell 2, h.2.cell 3, h.2.cell 4, h.2.cell 5⟩

def FindOut (P : Nat → Prop) (n st : Nat) (w : World) (e : Ending) (w' : World) : Prop := ∃ r : Int, e = .returned (.int .i64 r) ∧ (r < 0 → ∀ i, i < n → i % st = 0 → ¬ P i) ∧ Below w.heap.size w w'

theorem find_core {P : Nat → Prop} (A : Option Addr) (n c st : Nat) (hst : 1 ≤ st ∧ st ≤ 2) (hn : n ≤ 1000) (x : Vc) (w : World)
    (HK : ∀ i, i < n → i % st = 0 → ∀ W, Below w.heap.size w W → ∃ u : Vc, KidAt W A i u ∧ Calls Tryz.prog 83 #[u.agg, x.agg] W fun e w' => ∃ r : Bool, e = .returned (.bool r) ∧ (P i → r = true) ∧ Below W.heap.size W w') :
    Calls Tryz.prog 51 #[.slice A n c, .int .i64 st, x.agg] w (FindOut P n st w) := by
  have HH := Lib.hid HK
  obtain ⟨k, ng, m, b, s, q⟩ := x
  have h0 := Lib.hid (Bv1.start w ⟨k, ng, m, b, s, q⟩)
  clear HK
  go_enter Tryz.func51, Tryz.ntmps51
  go_wp2
  go_loopw [7] (fun iv wr => ∃ (i : Nat), iv = .int .i64 i ∧ i ≤ n + 1 ∧ i % st = 0 ∧ Hid (∀ j, j < i → j % st = 0 → ¬ P j) ∧ Hid (Bv1 w ⟨k, ng, m, b, s, q⟩ wr)) (fun iv _ => n + 2 - (intOf iv).toNat)
  case atStart => exact ⟨0, rfl, Nat.zero_le _, Nat.zero_mod _, Lib.hid (fun j hj => by omega), h0⟩
  case round =>
    obtain ⟨i, rfl, hi, him, hP, hB⟩ := hrel
    by_cases hlt : i < n
    · obtain ⟨u, ⟨b1, o1, rfl, hu⟩, hc⟩ := HH.out i hlt him wr.drew hB.out.lo.drew
      have HC := Lib.hid hc
      have hsum : wrap64 ((i : Int) + (st : Int)) = (i : Int) + (st : Int) := wr_add i st (by omega)
      have HME : Hid (n + 2 - (i + st) < n + 2 - i) := Lib.hid (by omega)
      have HIM : Hid (i + st ≤ n + 1 ∧ (i + st) % st = 0) := Lib.hid ⟨by omega, by rw [Nat.add_mod_right]; exact him⟩
      have HPS : Hid (¬ P i → ∀ j, j < i + st → j % st = 0 → ¬ P j) := Lib.hid fun hp j hj hjm => by
        rcases Nat.lt_trichotomy j i with h1 | h1 | h1
        · exact hP.out j h1 hjm
        · rw [h1]; exact hp
        · exfalso
          have hs : st = 2 := by omega
          subst hs
          omega
      have HS6 := Lib.hid (show Bv1S w k ng m b s q wr.drew ∧ Six wr.drew b1 (o1 + i * 6) u from ⟨hB.out.drew.s, hu⟩)
      have hnn : ¬ (i : Int) < 0 := by omega
      clear hc hu hi him hst
      go_wp2_with fail
      go_region_held3 (fun W => Bv1S w k ng m b s q W ∧ Six W b1 (o1 + i * 6) u)
        (first | assumption | exact HS6.out | exact ⟨(HS6.out.1.1.up ‹Below _ _ _›).s, HS6.out.2.up ‹Below _ _ _›⟩)
        (first
          | (go_at_call 83; (with_reducible refine HC.out.mono ?_); rintro e w2 ⟨r, rfl, hr, hb2⟩))
      have hB2 := Lib.hid (hB.out.drew.up hb2)
      have HR := Lib.hid hr
      have HL2 := Lib.hid hB2.out.lo
      clear hb2 hr HS6 hB HC HH
      cases r with
      | true =>
        go_wp2
        go_ret
        exact ⟨_, rfl, fun h => absurd h (by omega), HL2.out⟩
      | false =>
        have HNP := Lib.hid (HPS.out (fun hp => by have := HR.out hp; simp at this))
        go_wp2
        go_roundw
        case rel => exact ⟨i + st, by first | rfl | (rw [hsum]; rfl), HIM.out.1, HIM.out.2, HNP, hB2⟩
        case measure => first | exact HME.out | (rw [hsum]; exact HME.out)
    · have HL2 := Lib.hid hB.out.lo
      have HF : Hid (∀ j, j < n → j % st = 0 → ¬ P j) := Lib.hid fun j hj hjm => hP.out j (by omega) hjm
      clear hB HH
      go_wp2
      go_ret
      exact ⟨_, rfl, fun _ => HF.out, HL2.out⟩

/-- Key i of a row is this one. -/
def Is (d : Nat) (ts : List Tr) (key : Tr) (i : Nat) : Prop := ∃ u, ts[i]? = some u ∧ canon d u = canon d key
/-- What stands at each st-th place is a key. -/
def Keys (d st : Nat) (ts : List Tr) : Prop := ∀ i u, i % st = 0 → ts[i]? = some u → Good d u ∧ KeyT d u
theorem find_any (d st : Nat) (hst : 1 ≤ st ∧ st ≤ 2) {ts : List Tr} {A : Option Addr} {c : Nat} {key : Tr} {x : Vc} {w : World} (hn : ts.length ≤ 1000) (h : HVs (d + 1) ts A w) (hx : HV (d + 1) key x w) (hk : Keys d st ts) (g : Good d key) (kt : KeyT d key) :
    Calls Tryz.prog 51 #[.slice A ts.length c, .int .i64 st, x.agg] w (FindOut (Is d ts key) ts.length st w) := by
  refine find_core A ts.length c st hst hn x w (fun i hi him W hW => ?_)
  obtain ⟨y, u, hu, hy, hk2⟩ := (h.up hW).at_ hi
  have hku := hk i u him hu
  refine ⟨y, hk2, (equal_any d hy (hx.up hW) hku.1 g hku.2 kt).mono ?_⟩
  rintro e w' ⟨r, rfl, hr, hb⟩
  refine ⟨r, rfl, fun hp => ?_, hb⟩
  obtain ⟨u', hu', he⟩ := hp
  rw [hu] at hu'
  injection hu' with hu'
  subst hu'
  exact hr he
end Go.Proofs.YtloloifngbmibaaGreatDoor
set_option linter.unusedVariables false
set_option linter.unusedSimpArgs false
set_option maxRecDepth 4000
namespace Go.Proofs.YtloloifngbmibaaGreatDoor
open Go.RowKit

theorem info_val : (Tryz.prog.info? 26).map (fun i => (i.zero, i.size, i.bytes)) = some (some (.agg #[.int .i64 0, .bool false, .slice none 0 0, .int .u64 0, .string ⟨#[]⟩, .slice none 0 0]), 6, 88) := by kernel_rfl

/-- A block that may be: an old one between L and M, or one from B on. -/
abbrev Okb (L M B k : Nat) : Prop := (L ≤ k ∧ k < M) ∨ B ≤ k
/-- A Val in such blocks. -/
def HVQ (L M B d : Nat) (t : Tr) (x : Vc) (W : World) : Prop := ∃ S : Nat → Prop, IsV d W S t x ∧ ∀ k, S k → Okb L M B k ∧ k < W.heap.size
/-- A Val in blocks from B on. -/
abbrev HVB (B d : Nat) (t : Tr) (x : Vc) (W : World) : Prop := HVQ 0 0 B d t x W
section
variable {L M B d : Nat} {t : Tr} {x : Vc} {W W' : World}
theorem HVQ.hv (h : HVQ L M B d t x W) : HV d t x W := by
  obtain ⟨S, h1, h2⟩ := h
  exact ⟨S, h1, fun k hk => (h2 k hk).2⟩
theorem HVQ.up (h : HVQ L M B d t x W) (hb : Below W.heap.size W W') : HVQ L M B d t x W' := by
  obtain ⟨S, h1, h2⟩ := h
  exact ⟨S, h1.keep (still_below hb (fun k hk => (h2 k hk).2)), fun k hk => ⟨(h2 k hk).1, Nat.lt_of_lt_of_le (h2 k hk).2 hb.size⟩⟩
theorem HVQ.low {L' M' B' : Nat} (h : HVQ L M B d t x W) (hB : ∀ k, Okb L M B k → Okb L' M' B' k) : HVQ L' M' B' d t x W := by
  obtain ⟨S, h1, h2⟩ := h
  exact ⟨S, h1, fun k hk => ⟨hB k (h2 k hk).1, (h2 k hk).2⟩⟩
theorem HVQ.set (h : HVQ L M B d t x W) {p : Addr} (hM : M ≤ p.block) (hp : p.block < B) (u : Value) : HVQ L M B d t x (W.setCell p u) := by
  obtain ⟨S, h1, h2⟩ := h
  refine ⟨S, h1.keep ((Still.refl _ _).set (fun k hk => by have := (h2 k hk).1; omega) u), fun k hk => ⟨(h2 k hk).1, by simpa [World.setCell] using (h2 k hk).2⟩⟩
theorem HVQ.drewN (h : HVQ L M B d t x W) (n : Nat) : HVQ L M B d t x (W.drewN n) := by
  obtain ⟨S, h1, h2⟩ := h
  exact ⟨S, h1.keep (fun _ _ => rfl), h2⟩
end

theorem Vc.one {w : World} {S : Nat → Prop} {t : Tr} {x : Vc} {d : Nat} (h : IsV d w S t x) : ∀ v ∈ x.cells, v.oneCell' = true := by
  obtain ⟨A, c, hm, _⟩ := h.head.m
  obtain ⟨A', n, c', hq, _⟩ := h.kidsV
  intro v hv
  simp only [Vc.cells, List.mem_cons, List.not_mem_nil, or_false] at hv
  rcases hv with rfl | rfl | rfl | rfl | rfl | rfl
  · rfl
  · rfl
  · rw [hm]; rfl
  · rfl
  · rfl
  · rw [hq]; rfl

/-- A row of Vals of the call's own, all in blocks from B on. -/
def RowV (L M B d : Nat) (v : Value) (ts : List Tr) (W : World) : Prop :=
  ∃ (xs : List Vc) (S : Nat → Prop), W.ownsRow B 26 6 v ts.length (vcs xs) ∧ xs.length = ts.length ∧ (∀ (i : Nat) (y : Vc) (u : Tr), xs[i]? = some y → ts[i]? = some u → IsV d W S u y) ∧ (∀ k, S k → Okb L M B k ∧ k < W.heap.size) ∧ ∀ g, v.ownBlock = some g → ¬ S g
section
variable {L M B d : Nat} {v : Value} {ts : List Tr} {W W' : World}
theorem RowV.nil (L M B d : Nat) (W : World) : RowV L M B d (.slice none 0 0) [] W :=
  ⟨[], fun _ => False, by simpa [vcs] using World.ownsRow_nil W B 26 6, rfl, fun i y u h => by simp at h, fun k h => h.elim, fun g h h' => h'⟩
theorem RowV.up (h : RowV L M B d v ts W) (hb : Below W.heap.size W W') : RowV L M B d v ts W' := by
  obtain ⟨xs, S, h1, h2, h3, h4, h5⟩ := h
  exact ⟨xs, S, own_below h1 hb, h2, fun i y u hy hu => (h3 i y u hy hu).keep (still_below hb (fun k hk => (h4 k hk).2)), fun k hk => ⟨(h4 k hk).1, Nat.lt_of_lt_of_le (h4 k hk).2 hb.size⟩, h5⟩
theorem RowV.set (h : RowV L M B d v ts W) {p : Addr} (hM : M ≤ p.block) (hp : p.block < B) (u : Value) : RowV L M B d v ts (W.setCell p u) := by
  obtain ⟨xs, S, h1, h2, h3, h4, h5⟩ := h
  refine ⟨xs, S, own_keep h1 (fun g cs hg _ => Below.heap_setCell W p u g (by have := (own_lt h1 hg).1; omega)), h2, fun i y w hy hw => (h3 i y w hy hw).keep ((Still.refl _ _).set (fun k hk => by have := (h4 k hk).1; omega) u), fun k hk => ⟨(h4 k hk).1, by simpa [World.setCell] using (h4 k hk).2⟩, h5⟩
theorem RowV.drew (h : RowV L M B d v ts W) : RowV L M B d v ts W.drew := by
  obtain ⟨xs, S, h1, h2, h3, h4, h5⟩ := h
  exact ⟨xs, S, h1, h2, fun i y u hy hu => (h3 i y u hy hu).keep (fun _ _ => rfl), h4, h5⟩
theorem RowV.form (h : RowV L M B d v ts W) : ∃ A c, v = .slice A ts.length c ∧ ts.length ≤ c ∧ HVs d ts A W ∧ ∃ S : Nat → Prop, (∃ xs : List Vc, xs.length = ts.length ∧ Rd W S A (vcs xs) ∧ (∀ (i : Nat) (y : Vc) (u : Tr), xs[i]? = some y → ts[i]? = some u → IsV d W S u y)) ∧ ∀ k, S k → Okb L M B k ∧ k < W.heap.size := by
  obtain ⟨xs, S, h1, h2, h3, h4, h5⟩ := h
  obtain ⟨A, c, e, hc, hr, _⟩ := own_rd h1
  have hr' : Rd W (fun k => Okb L M B k ∧ k < W.heap.size) A (vcs xs) := hr.mono (fun k hk => ⟨.inr hk.1, hk.2⟩)
  have h3' : ∀ (i : Nat) (y : Vc) (u : Tr), xs[i]? = some y → ts[i]? = some u → IsV d W (fun k => Okb L M B k ∧ k < W.heap.size) u y := fun i y u hy hu => (h3 i y u hy hu).mono h4
  exact ⟨A, c, e, hc, ⟨_, xs, h2, hr', h3', fun k hk => hk.2⟩, _, ⟨xs, h2, hr', h3'⟩, fun k hk => hk⟩
/-- The parent of a row. -/
theorem RowV.val (h : RowV L M B d v ts W) (k : Int) (hts : True) : HVQ L M B (d + 1) ⟨k, false, [], 0, ⟨#[]⟩, ts⟩ ⟨k, false, .slice none 0 0, 0, ⟨#[]⟩, v⟩ W := by
  obtain ⟨A, c, e, hc, _, S, ⟨xs, h1, h2, h3⟩, h4⟩ := h.form
  exact ⟨S, ⟨⟨rfl, rfl, rfl, rfl, SlV.nil _ _ _⟩, A, c, xs, e, hc, h1, h2, h3⟩, h4⟩
/-- New ones put behind. -/
theorem RowV.push {us : List Tr} {ys : List Vc} {S' : Nat → Prop} {v' : Value} (h : RowV L M B d v ts W) (hys : ys.length = us.length) (hu : ∀ (i : Nat) (y : Vc) (u : Tr), ys[i]? = some y → us[i]? = some u → IsV d W S' u y) (hS : ∀ k, S' k → Okb L M B k ∧ k < W.heap.size) (hS' : ∀ g, v.ownBlock = some g → ¬ S' g) :
    (∀ xs : List Vc, xs.length = ts.length → W.ownsRow B 26 6 v ts.length (vcs xs) → W'.ownsRow B 26 6 v' (ts.length + us.length) (vcs xs ++ vcs ys)) → W.grownBy W' v.ownBlock → (v'.ownBlock = v.ownBlock ∨ v'.ownBlock = some W.heap.size) → RowV L M B d v' (ts ++ us) W' := by
  intro hown hg hat
  obtain ⟨xs, S, h1, h2, h3, h4, h5⟩ := h
  have hsz := hg.size
  have keep : ∀ k, (S k ∨ S' k) → W'.heap[k]? = W.heap[k]? := fun k hk => by
    refine hg.block k ?_ ?_
    · rcases hk with hk | hk
      · exact (h4 k hk).2
      · exact (hS k hk).2
    · intro e
      rcases hk with hk | hk
      · exact h5 k e.symm hk
      · exact hS' k e.symm hk
  refine ⟨xs ++ ys, fun k => S k ∨ S' k, ?_, by simp [h2, hys], ?_, ?_, ?_⟩
  · rw [vcs_app, List.length_append]
    exact hown xs h2 h1
  · intro i y u hy hu'
    by_cases hi : i < xs.length
    · rw [List.getElem?_append_left hi] at hy
      rw [List.getElem?_append_left (by omega)] at hu'
      exact ((h3 i y u hy hu').mono (fun k hk => Or.inl hk)).keep keep
    · rw [List.getElem?_append_right (by omega)] at hy
      rw [List.getElem?_append_right (by omega)] at hu'
      rw [h2] at hy
      exact ((hu _ y u hy hu').mono (fun k hk => Or.inr hk)).keep keep
  · intro k hk
    rcases hk with hk | hk
    · exact ⟨(h4 k hk).1, Nat.lt_of_lt_of_le (h4 k hk).2 hsz⟩
    · exact ⟨(hS k hk).1, Nat.lt_of_lt_of_le (hS k hk).2 hsz⟩
  · intro g hg' hk
    rcases hat with e | e
    · rw [e] at hg'
      rcases hk with hk | hk
      · exact h5 g hg' hk
      · exact hS' g hg' hk
    · rw [e] at hg'
      injection hg' with hg'
      subst hg'
      rcases hk with hk | hk
      · have := (h4 _ hk).2; omega
      · have := (hS _ hk).2; omega
end
/-- What is new behind an append to a row. -/
theorem row_below {L M B d : Nat} {v : Value} {ts : List Tr} {W W' : World} (h : RowV L M B d v ts W) (hg : W.grownBy W' v.ownBlock) (hB : B ≤ W.heap.size) : Below B W W' := by
  obtain ⟨xs, S, h1, _⟩ := h
  exact (Below.refl B W).grown hg hB (fun k hk => (own_lt h1 hk).1)

section
variable {P : Program}
/-- append of one Val or two, at a step of a region that draws. -/
theorem step_pushg {L M B d : Nat} {v : Value} {ts us : List Tr} {ys : List Vc} {S' : Nat → Prop} (W : World) {ops : Array Oper} {o : Oper} {a : Act} {K : Act → World → Prop} {Q : Exit → Act → World → Prop} {E : Prop} (hgd : o.guard = none) (s x : Operand)
    (ho : o.op = .call { callee := .builtin .append, args := #[s, x], argTypes := #[24, 24] })
    (hs : a.eval s = v) (h : RowV L M B d v ts W) (hys : ys.length = us.length) (hu : ∀ (i : Nat) (y : Vc) (u : Tr), ys[i]? = some y → us[i]? = some u → IsV d W S' u y) (hS : ∀ k, S' k → Okb L M B k ∧ k < W.heap.size) (hS' : ∀ g, v.ownBlock = some g → ¬ S' g)
    (b m : Nat) (hm : m = us.length) (hx : a.eval x = .slice (some ⟨b, 0, none⟩) m m) (T : TypeId) (hb : Blk W b T (vcs ys).toArray) (h16 : ts.length + us.length ≤ 1000) (hB : B ≤ W.heap.size)
    (hK : ∀ v' w', RowV L M B d v' (ts ++ us) w' → Below B W w' → W.grownBy w' v.ownBlock → (∃ A c, v' = .slice A (ts.length + us.length) c) → K (a.put o.dst v') w') : if Region.wanted o (yielded ops a.tmps) = true then o.wp Tryz.prog a W K Q else E := by
  obtain ⟨xs, S, h1, h2, h3, h4, h5⟩ := id h
  refine step_append_rd (P := Tryz.prog) W hgd s x 24 ho B 26 _ 6 88 Tryz.underlying24 info_val rfl (by decide) v ts.length (vcs xs) hs h1 (fun k => k = b) (some ⟨b, 0, none⟩) us.length us.length (vcs ys) (by rw [hx, hm]) (by rw [vcs_len, hys]) (Rd.of_blk (ys := []) (by simpa using hb) rfl) ?_ (by unfold maxLen; omega) (by omega) hB ?_
  · intro u hu'
    simp only [vcs, List.mem_flatMap] at hu'
    obtain ⟨y, hy, hu'⟩ := hu'
    obtain ⟨i, hi⟩ := List.getElem?_of_mem hy
    have hil : i < us.length := by have := (List.getElem?_eq_some_iff.1 hi).1; omega
    exact Vc.one (hu i y us[i] hi (List.getElem?_eq_getElem hil)) u hu'
  · intro v' w' ho' hg hat
    refine hK v' w' ?_ (row_below h hg hB) hg ?_
    · refine h.push (S' := S') hys hu hS hS' (fun xs' hx' hown' => ?_) hg hat
      have : vcs xs' = vcs xs := by
        have e1 := hown'.2
        have e2 := h1.2
        rcases e1 with ⟨hv1, h01⟩ | ⟨g1, cap1, cur1, hv1, _, hh1, _, _, _, ht1⟩
        · have a1 : xs'.length = 0 := by omega
          have a2 : xs.length = 0 := by omega
          rw [List.eq_nil_of_length_eq_zero a1, List.eq_nil_of_length_eq_zero a2]
        · rcases e2 with ⟨hv2, h02⟩ | ⟨g2, cap2, cur2, hv2, _, hh2, _, _, _, ht2⟩
          · rw [hv1] at hv2; cases hv2
          · rw [hv1] at hv2
            injection hv2 with e3 _ _
            injection e3 with e3
            injection e3 with e3
            subst e3
            rw [hh1] at hh2
            injection hh2 with hh2
            injection hh2 with hc _
            subst hc
            rw [← ht1, ← ht2]
      rw [this]
      exact ho'
    · obtain ⟨A, c, e, _⟩ := own_rd ho'
      exact ⟨A, c, e⟩
/-- append of one Val or two, at a step of a region that draws. -/
theorem step_push {L M B d : Nat} {v : Value} {ts us : List Tr} {ys : List Vc} {S' : Nat → Prop} (W : World) {ops : Array Oper} {o : Oper} {a : Act} {K : Act → World → Prop} {Q : Exit → Act → World → Prop} {E : Prop} (hgd : o.guard = none) (s x : Operand)
    (ho : o.op = .call { callee := .builtin .append, args := #[s, x], argTypes := #[24, 24] })
    (hs : a.eval s = v) (h : RowV L M B d v ts W) (hys : ys.length = us.length) (hu : ∀ (i : Nat) (y : Vc) (u : Tr), ys[i]? = some y → us[i]? = some u → IsV d W S' u y) (hS : ∀ k, S' k → Okb L M B k ∧ k < W.heap.size) (hS' : ∀ g, v.ownBlock = some g → ¬ S' g)
    (b m : Nat) (hm : m = us.length) (hx : a.eval x = .slice (some ⟨b, 0, none⟩) m m) (T : TypeId) (hb : Blk W b T (vcs ys).toArray) (h16 : ts.length + us.length ≤ 1000) (hB : B ≤ W.heap.size)
    (hK : ∀ v' w', RowV L M B d v' (ts ++ us) w' → Below B W w' → (∃ A c, v' = .slice A (ts.length + us.length) c) → K (a.put o.dst v') w') : if Region.wanted o (yielded ops a.tmps) = true then o.wp Tryz.prog a W K Q else E :=
  step_pushg W hgd s x ho hs h hys hu hS hS' b m hm hx T hb h16 hB (fun v' w' h1 h2 _ h3 => hK v' w' h1 h2 h3)
/-- .. at a plain region. -/
theorem wpList_push {L M B d : Nat} {v : Value} {ts us : List Tr} {ys : List Vc} {S' : Nat → Prop} (W : World) {ops : Array Oper} {rest : List Oper} {o : Oper} {a : Act} {Q : Exit → Act → World → Prop} (hgd : o.guard = none) (s x : Operand)
    (ho : o.op = .call { callee := .builtin .append, args := #[s, x], argTypes := #[24, 24] })
    (hs : a.eval s = v) (h : RowV L M B d v ts W) (hys : ys.length = us.length) (hu : ∀ (i : Nat) (y : Vc) (u : Tr), ys[i]? = some y → us[i]? = some u → IsV d W S' u y) (hS : ∀ k, S' k → Okb L M B k ∧ k < W.heap.size) (hS' : ∀ g, v.ownBlock = some g → ¬ S' g)
    (b m : Nat) (hm : m = us.length) (hx : a.eval x = .slice (some ⟨b, 0, none⟩) m m) (T : TypeId) (hb : Blk W b T (vcs ys).toArray) (h16 : ts.length + us.length ≤ 1000) (hB : B ≤ W.heap.size)
    (hK : ∀ v' w', RowV L M B d v' (ts ++ us) w' → Below B W w' → (∃ A c, v' = .slice A (ts.length + us.length) c) → wpList Tryz.prog ops Q rest (a.put o.dst v') w') : wpList Tryz.prog ops Q (o :: rest) a W := by
  refine wpList_plain hgd fun _ hKK => ?_
  have hst := step_push (ops := #[o]) (K := _) (Q := Q) (E := True) W hgd s x ho hs h hys hu hS hS' b m hm hx T hb h16 hB (fun v' w' h1 h2 h3 => hKK _ _ (hK v' w' h1 h2 h3))
  rw [if_pos (by simp [Region.wanted, hgd])] at hst
  exact hst
end
end Go.Proofs.YtloloifngbmibaaGreatDoor
