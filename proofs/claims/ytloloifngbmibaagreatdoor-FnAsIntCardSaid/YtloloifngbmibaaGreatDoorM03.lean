/- Walks of the reference's integers: bytesOf, cut, Of, Small, Num, IntVal, Sign, order, Cmp. Walks of the reference's order and Cmp, bytesOf, Small, IntVal. -/
import Derived.Test.YtloloifngbmibaaGreatDoorM01
import Derived.Test.YtloloifngbmibaaGreatDoorM02
import Derived.Deep.QuietTactic
import Derived.BigQuiet
import Derived.Deep.RegionHeld3
set_option linter.unusedVariables false
set_option maxRecDepth 4000
namespace Go.Proofs.YtloloifngbmibaaGreatDoor
open Go.RowKit

theorem info_u8 : (Tryz.prog.info? 5).map (fun i => (i.zero, i.size, i.bytes)) = some (some (.int .u8 0), 1, 1) := by kernel_rfl
/-- Without leading zeros. -/
def strip (l : List Int) : List Int := l.drop (lz l)

theorem cut_done {w w0 w2 : World} {v : Value} {l : List Int} {n : Nat} {row : Option Nat} (hb : Below w.heap.size w w0) (ho : w2.ownsRow w0.heap.size 5 1 v n (ints .u8 l)) (hg : (w0.alloc (.cells #[] 5)).grownBy w2 row) (hr : row = none ∨ row = some w0.heap.size) :
    SlV w2 (Nw w w2) .u8 v l ∧ Below w.heap.size w w2 := by
  refine ⟨(own_sl ho).mono (fun k hk => ⟨Nat.le_trans hb.size hk.1, hk.2⟩), (hb.alloc hb.size _).grown hg (by have := hb.size; simp; omega) (fun k hk => ?_)⟩
  rcases hr with rfl | rfl
  · cases hk
  · injection hk with hk
    have := hb.size
    omega

theorem cut_pos (S : Nat → Prop) (b o c : Nat) (l : List Int) (h0 : 0 < l.length) (hc : l.length ≤ c) (hn : l.length ≤ 140737488355328) (w : World) (hS : S b) (hcl : ∀ j, j < l.length → w.cell? ⟨b, o + j, none⟩ = some (.int .u8 (l[j]?.getD 0))) :
    Calls Tryz.prog 52 #[.slice (some ⟨b, o, none⟩) l.length c] w fun e w' => ∃ v, e = .returned v ∧ SlV w' (Nw w w') .u8 v (strip l) ∧ Below w.heap.size w w' := by
  obtain ⟨n, hn'⟩ : ∃ n, n = l.length := ⟨_, rfl⟩
  rw [← hn'] at h0 hc hn ⊢
  have HN := Lib.hid hn'
  have HC := Lib.hid hcl
  clear hn' hcl
  go_enter Tryz.func52, Tryz.ntmps52
  go_wp2
  go_loop [3] (fun i => ∃ k : Nat, k ≤ n ∧ i = .int .i64 k ∧ Hid (Lzat l k)) (fun i => n - (intOf i).toNat)
  case atStart => exact ⟨0, Nat.zero_le _, rfl, lzat0 _⟩
  case round =>
    obtain ⟨k, hk, rfl, hz⟩ := hrel
    by_cases hrun : k < n ∧ l[k]?.getD 0 = 0
    · obtain ⟨hk8, hy0⟩ := hrun
      have c0 := HC.out k (by rw [← HN.out]; exact hk8)
      rw [hy0] at c0
      have HY := Lib.hid hy0
      clear hy0
      go_wp2
      go_round
      case rel => exact ⟨k + 1, by omega, by go_num, lzat_succ _ _ (by rw [← HN.out]; exact hk8) hz.out HY.out⟩
      case measure => simp [intOf]; omega
    · have hkz : k = lz l := lzat_end _ k hz.out (fun h h' => hrun ⟨by rw [HN.out]; exact h, h'⟩) (by rw [← HN.out]; exact hk)
      have HL : Hid ((ints .u8 (strip l)).length = (n - k) * 1) := by
        show _ = _
        rw [ints_length, strip, List.length_drop, ← hkz, ← HN.out, Nat.mul_one]
      have HR : Hid (∀ (ob : Obj) (A : Option Addr), (A = some ⟨b, o + k, none⟩ ∨ n = k) → Rd (w.alloc ob) (fun j => j = b) A (ints .u8 (strip l))) := by
        intro ob A hA hp
        have hlt : k < n := by
          have := HL.out
          omega
        rcases hA with rfl | hA
        · refine ⟨b, o + k, rfl, rfl, fun j u hu => ?_⟩
          have hj : j < (strip l).length := by
            have := (List.getElem?_eq_some_iff.1 hu).1
            rwa [ints_length] at this
          have hj2 : k + j < l.length := by
            have := hj
            rw [strip, List.length_drop, ← hkz] at this
            omega
          have hcell := HC.out (k + j) hj2
          have hb : b < w.heap.size := World.block_lt_of_cell? w _ hcell
          rw [World.cell?_alloc_lt w ob ⟨b, o + k + j, none⟩ hb, Nat.add_assoc, hcell, ← hu, ints_get _ _ j hj, strip, List.getElem?_drop, ← hkz]
        · omega
      have HO : Hid ((w.alloc (.cells #[] 5)).ownsRow w.heap.size 5 1 (.slice (some ⟨w.heap.size, 0, none⟩) 0 0) 0 []) := World.ownsRow_made w #[] 0 (Nat.le_refl _) (by unfold maxLen; omega) (by simp)
      have hend : (k < n ∧ (l[k]?.getD 0 == 0) = false) ∨ k = n := by
        by_cases h : k < n
        · exact .inl ⟨h, beq_no (fun h' => hrun ⟨h, h'⟩)⟩
        · exact .inr (by omega)
      clear hrun hkz hz
      rcases hend with ⟨hk8, hy1⟩ | rfl
      · have c0 := HC.out k (by rw [← HN.out]; exact hk8)
        obtain ⟨y, hy⟩ : ∃ y, y = l[k]?.getD 0 := ⟨_, rfl⟩
        rw [← hy] at c0 hy1
        clear hy
        have hkc : ¬ c = k := by omega
        go_wp2_with (at_builtin; refine wpList_append_rd _ rfl _ _ 22 rfl w.heap.size 5 (.int .u8 0) 1 1 Tryz.underlying22 info_u8 rfl (by decide) (.slice (some ⟨w.heap.size, 0, none⟩) 0 0) 0 [] rfl HO.out (fun j => j = b) _ (n - k) _ (ints .u8 (strip l)) rfl HL.out (by exact HR.out _ _ (.inl rfl)) (ints_one _ _) (by unfold maxLen; omega) (by omega) (by simp) ?_; intro v2 w2 ho hg hrow)
        rw [Nat.zero_add, List.nil_append] at ho
        have hd := cut_done (Below.refl _ w) ho hg (by simp [Value.ownBlock])
        clear ho hg hrow
        go_ret
        exact ⟨_, rfl, hd⟩
      · have hs0 : strip l = [] := by
          have := HL.out
          rw [ints_length, Nat.sub_self] at this
          exact List.eq_nil_of_length_eq_zero (by omega)
        have H0 := Lib.hid hs0
        clear HL HR HO hs0
        go_wp2
        all_goals
          go_ret
          exact ⟨_, rfl, by rw [H0.out]; exact ⟨_, _, rfl, Nat.le_refl _, Rd.nil _ _ _⟩, (Below.refl _ _).alloc (Nat.le_refl _) _⟩

theorem cut_zero (A : Option Addr) (c : Nat) (w : World) :
    Calls Tryz.prog 52 #[.slice A 0 c] w fun e w' => ∃ v, e = .returned v ∧ SlV w' (Nw w w') .u8 v [] ∧ Below w.heap.size w w' := by
  cases A with
  | none =>
    go_enter Tryz.func52, Tryz.ntmps52
    go_wp2
    go_loop [3] (fun i => i = .int .i64 0) (fun i => 0)
    case atStart => rfl
    case round =>
      subst hrel
      go_wp2
      all_goals
        go_ret
        exact ⟨_, rfl, ⟨_, _, rfl, Nat.le_refl _, Rd.nil _ _ _⟩, (Below.refl _ _).alloc (Nat.le_refl _) _⟩
  | some ad =>
    go_enter Tryz.func52, Tryz.ntmps52
    go_wp2
    go_loop [3] (fun i => i = .int .i64 0) (fun i => 0)
    case atStart => rfl
    case round =>
      subst hrel
      go_wp2
      all_goals
        go_ret
        exact ⟨_, rfl, ⟨_, _, rfl, Nat.le_refl _, Rd.nil _ _ _⟩, (Below.refl _ _).alloc (Nat.le_refl _) _⟩

theorem cut_any (S : Nat → Prop) (v : Value) (l : List Int) (hn : l.length ≤ 140737488355328) (w : World) (h : SlV w S .u8 v l) :
    Calls Tryz.prog 52 #[v] w fun e w' => ∃ v, e = .returned v ∧ SlV w' (Nw w w') .u8 v (strip l) ∧ Below w.heap.size w w' := by
  obtain ⟨A, c, rfl, hlc, hr⟩ := h
  by_cases h0 : 0 < l.length
  · obtain ⟨b, o, rfl, hS, hc⟩ := hr (by rwa [ints_length])
    exact cut_pos S b o c l h0 hlc hn w hS (fun j hj => hc j _ (ints_get _ _ j hj))
  · have : l = [] := List.eq_nil_of_length_eq_zero (by omega)
    subst this
    exact cut_zero A c w

/-- An integer of the reference. -/
def SpI (w : World) (S : Nat → Prop) (v : Value) (neg : Bool) (mag : List Int) : Prop := ∃ mv, v = .agg #[.bool neg, mv] ∧ SlV w S .u8 mv mag
theorem SpI.keep {w w' : World} {S : Nat → Prop} {v : Value} {neg : Bool} {mag : List Int} (h : SpI w S v neg mag) (hk : Still S w w') : SpI w' S v neg mag := by
  obtain ⟨mv, h1, h2⟩ := h
  exact ⟨mv, h1, h2.keep hk⟩
theorem SpI.mono {w : World} {S S' : Nat → Prop} {v : Value} {neg : Bool} {mag : List Int} (h : SpI w S v neg mag) (hs : ∀ k, S k → S' k) : SpI w S' v neg mag := by
  obtain ⟨mv, h1, h2⟩ := h
  exact ⟨mv, h1, h2.mono hs⟩

/-- The sign that an integer of the reference bears. -/
def sgn2 (neg : Bool) (l : List Int) : Bool := neg && decide (0 < l.length)

theorem of_any (S : Nat → Prop) (neg : Bool) (v : Value) (l : List Int) (hn : l.length ≤ 140737488355328) (w : World) (h : SlV w S .u8 v l) (hS : ∀ k, S k → k < w.heap.size) :
    Calls Tryz.prog 23 #[.bool neg, v] w fun e w' => ∃ v', e = .returned v' ∧ SpI w' (Nw w w') v' (sgn2 neg (strip l)) (strip l) ∧ Below w.heap.size w w' := by
  have HC : Hid (∀ W : World, Below w.heap.size w W → Calls Tryz.prog 52 #[v] W fun e w' => ∃ v, e = .returned v ∧ SlV w' (Nw W w') .u8 v (strip l) ∧ Below W.heap.size W w') :=
    fun W hW => cut_any S v l hn W (h.keep (still_below hW hS))
  obtain ⟨A0, c0, hv0, _⟩ := h
  subst hv0
  clear hS
  cases neg
  all_goals
    go_enter Tryz.func23, Tryz.ntmps23
    go_wp2_with fail
    refine (HC.out _ ((Below.refl _ _).alloc (Nat.le_refl _) _)).mono ?_
    rintro e w1 ⟨mv, rfl, hv, hb⟩
    have hrow := (Blk.new w 32 #[.bool false, .slice none 0 0]).below hb (by simp)
    obtain ⟨A, c, rfl, hlc, hr⟩ := hv
    have c0 := hrow.cell 0
    have c1 := hrow.cell 1
    have f0 := hrow.frozen 0
    have f1 := hrow.frozen 1
    have hlt := hrow.lt
    simp at c0 c1
    go_wp2
    refine bodyPost_ret (v := .agg #[.bool (sgn2 _ (strip l)), .slice A (strip l).length c]) (by simp [results, Tryz.results23, go_sem, c0, c1, sgn2]) rfl ⟨_, rfl, ⟨_, rfl, ?_⟩, ?_⟩
    · have hne : ∀ k, Nw (w.alloc (.cells #[.bool false, .slice none 0 0] 32)) w1 k → k ≠ w.heap.size := fun k hk => by have := hk.1; simp at this; omega
      exact sl_done hr hlc rfl (((Still.refl _ _).set (p := ⟨w.heap.size, 0, none⟩) hne _).set (p := ⟨w.heap.size, 1, none⟩) hne _) (fun k hk => ⟨by have := hk.1; simp at this; omega, by simpa using hk.2⟩)
    · exact (((below_up ((Below.refl _ _).alloc (Nat.le_refl _) _) hb).setCell (Nat.le_refl _) _).setCell (Nat.le_refl _) _)

/-- It is stored into a block that was there before it was made. -/
theorem SpI.put {w W w1 : World} {v : Value} {neg : Bool} {mag : List Int} {g : Nat} {u0 u1 : Value} (h : SpI w1 (Nw W w1) v neg mag) (hg : g < W.heap.size) (hw : w.heap.size ≤ W.heap.size) :
    SpI ((w1.setCell ⟨g, 0, none⟩ u0).setCell ⟨g, 1, none⟩ u1) (Nw w ((w1.setCell ⟨g, 0, none⟩ u0).setCell ⟨g, 1, none⟩ u1)) v neg mag := by
  have hne : ∀ k, Nw W w1 k → k ≠ g := fun k hk => by have := hk.1; omega
  exact (h.keep (((Still.refl _ _).set (p := ⟨g, 0, none⟩) hne _).set (p := ⟨g, 1, none⟩) hne _)).mono (fun k hk => ⟨Nat.le_trans hw hk.1, by simpa using hk.2⟩)

theorem num_any (S : Nat → Prop) (k : Int) (neg : Bool) (v : Value) (l : List Int) (bits : Int) (s : ByteArray) (kv : Value) (hk1 : kv.oneCell' = true) (hn : l.length ≤ 140737488355328) (w : World) (h : SlV w S .u8 v l) (hS : ∀ k, S k → k < w.heap.size) :
    Calls Tryz.prog 11 #[.agg #[.int .i64 k, .bool neg, v, .int .u64 bits, .string s, kv]] w fun e w' => ∃ v', e = .returned v' ∧ SpI w' (Nw w w') v' (sgn2 neg (strip l)) (strip l) ∧ Below w.heap.size w w' := by
  have HC : Hid (∀ W : World, Below w.heap.size w W → Calls Tryz.prog 23 #[.bool neg, v] W fun e w' => ∃ v', e = .returned v' ∧ SpI w' (Nw W w') v' (sgn2 neg (strip l)) (strip l) ∧ Below W.heap.size W w') :=
    fun W hW => of_any S neg v l hn W (h.keep (still_below hW hS)) (fun k hk => Nat.lt_of_lt_of_le (hS k hk) hW.size)
  obtain ⟨A0, c0, hv0, _⟩ := h
  subst hv0
  clear hS
  go_enter Tryz.func11, Tryz.ntmps11
  go_wp2_with fail
  refine (HC.out _ (((Below.refl _ _).alloc (Nat.le_refl _) _).alloc (by simp) _)).mono ?_
  rintro e w1 ⟨v', rfl, hv, hb⟩
  obtain ⟨mv, rfl, hmv⟩ := id hv
  obtain ⟨A, c, rfl, hlc, hr⟩ := hmv
  have hrow := (Blk.new (w.alloc (.cells #[.int .i64 k, .bool neg, .slice A0 l.length c0, .int .u64 bits, .string s, kv] 26)) 32 #[.bool false, .slice none 0 0]).below hb (by simp)
  rw [show (w.alloc (.cells #[.int .i64 k, .bool neg, .slice A0 l.length c0, .int .u64 bits, .string s, kv] 26)).heap.size = w.heap.size + 1 by simp] at hrow
  have c0 := hrow.cell 0
  have c1 := hrow.cell 1
  have f0 := hrow.frozen 0
  have f1 := hrow.frozen 1
  have hlt := hrow.lt
  simp at c0 c1
  have hfin := hv.put (w := w) (g := w.heap.size + 1) (u0 := .bool (sgn2 neg (strip l))) (u1 := .slice A (strip l).length c) (by simp) (by simp; omega)
  have hbe := below_up (((Below.refl _ _).alloc (Nat.le_refl _) _).alloc (by simp) _) hb
  clear hv hr HC hb
  go_wp2
  exact bodyPost_ret (v := .agg #[.bool (sgn2 neg (strip l)), .slice A (strip l).length c]) (by simp [results, Tryz.results11, go_sem, c0, c1]) rfl ⟨_, rfl, hfin, (hbe.setCell (by simp) _).setCell (by simp) _⟩

theorem zero_any (neg : Bool) (A : Option Addr) (n c : Nat) (w : World) :
    Calls Tryz.prog 53 #[.agg #[.bool neg, .slice A n c]] w fun e w' => e = .returned (.bool (decide (n = 0))) ∧ ∃ o, w.alloc o = w' := by
  by_cases hn : n = 0
  · subst hn
    go_enter Tryz.func53, Tryz.ntmps53
    go_wp2
    go_ret
    exact ⟨rfl, _, rfl⟩
  · have h0 : ((n : Int) == 0) = false := beq_no (by omega)
    have h1 := dec_no hn
    rw [h1]
    clear h1
    go_enter Tryz.func53, Tryz.ntmps53
    go_wp2
    go_ret
    exact ⟨rfl, _, rfl⟩

/-- The sign of an integer of the reference. -/
def sgI (neg : Bool) (n : Nat) : Int := if n = 0 then 0 else if neg then -1 else 1

theorem spSign_any (neg : Bool) (A : Option Addr) (n c : Nat) (w : World) :
    Calls Tryz.prog 25 #[.agg #[.bool neg, .slice A n c]] w fun e w' => e = .returned (.int .i64 (sgI neg n)) ∧ Below w.heap.size w w' := by
  by_cases hn : n = 0
  · have hd := dec_yes hn
    have hs : sgI neg n = 0 := by simp [sgI, hn]
    rw [hs]
    clear hs
    go_enter Tryz.func25, Tryz.ntmps25
    go_wp2_with (go_at_call 53; refine (zero_any _ _ _ _ _).mono ?_; rintro e w' ⟨rfl, o, rfl⟩)
    go_ret
    exact ⟨rfl, ((Below.refl _ _).alloc (Nat.le_refl _) _).alloc (by simp) _⟩
  · have hd := dec_no hn
    cases neg
    all_goals
      have hs : ∀ b, sgI b n = if b then -1 else 1 := fun b => by simp [sgI, hn]
      rw [hs]
      clear hs
      go_enter Tryz.func25, Tryz.ntmps25
      go_wp2_with (go_at_call 53; refine (zero_any _ _ _ _ _).mono ?_; rintro e w' ⟨rfl, o, rfl⟩)
      go_ret
      exact ⟨rfl, ((Below.refl _ _).alloc (Nat.le_refl _) _).alloc (by simp) _⟩
end Go.Proofs.YtloloifngbmibaaGreatDoor
set_option linter.unusedVariables false
set_option maxRecDepth 4000
namespace Go.Proofs.YtloloifngbmibaaGreatDoor
open Go.RowKit

/-- Two lists of one length, by the first place at which they differ. -/
def cmpL : List Int → List Int → Int
  | x :: xs, y :: ys => if x = y then cmpL xs ys else if x < y then -1 else 1
  | _, _ => 0
theorem cmpL_self (l : List Int) : cmpL l l = 0 := by
  induction l with
  | nil => rfl
  | cons x xs ih => simp [cmpL, ih]
/-- Two magnitudes. -/
def ordL (a b : List Int) : Int := if a.length = b.length then cmpL a b else if a.length < b.length then -1 else 1
theorem ordL_self (l : List Int) : ordL l l = 0 := by simp [ordL, cmpL_self]
def Cmpat (a b : List Int) (k : Nat) : Prop := cmpL (a.drop k) (b.drop k) = cmpL a b
theorem cmpat_eq (a b : List Int) (k : Nat) (h : Cmpat a b k) (ha : k < a.length) (hb : k < b.length) : cmpL a b = if (a[k]?.getD 0) = (b[k]?.getD 0) then cmpL (a.drop (k + 1)) (b.drop (k + 1)) else if (a[k]?.getD 0) < (b[k]?.getD 0) then -1 else 1 := by
  unfold Cmpat at h
  rw [List.drop_eq_getElem_cons ha, List.drop_eq_getElem_cons hb] at h
  rw [← h]
  simp [cmpL, ha, hb]
theorem cmpat_end (a b : List Int) (k : Nat) (h : Cmpat a b k) (ha : a.length ≤ k) : cmpL a b = 0 := by
  unfold Cmpat at h
  rw [List.drop_eq_nil_of_le ha] at h
  rw [← h]
  rfl

theorem order_any (S S' : Nat → Prop) (A A' : Option Addr) (c c' : Nat) (a b : List Int) (hn : a.length ≤ 9223372036854775807) (hn' : b.length ≤ 9223372036854775807) (w : World) (h : Rd w S A (ints .u8 a)) (h' : Rd w S' A' (ints .u8 b)) :
    Calls Tryz.prog 26 #[.slice A a.length c, .slice A' b.length c'] w fun e w' => e = .returned (.int .i64 (ordL a b)) ∧ ∃ n, w.drewN n = w' := by
  by_cases hl : a.length = b.length
  · obtain ⟨n, hna⟩ : ∃ n, n = a.length := ⟨_, rfl⟩
    have hnb : n = b.length := by omega
    rw [← hna, ← hnb]
    rw [← hna] at hn
    have HA := Lib.hid hna
    have HB := Lib.hid hnb
    have HO : Hid (ordL a b = cmpL a b) := by
      show _ = _
      simp [ordL, hl]
    have H := Lib.hid h
    have H' := Lib.hid h'
    clear hna hnb hl hn' h h'
    have e0 : ((n : Int) != (n : Int)) = false := by simp
    go_enter Tryz.func26, Tryz.ntmps26
    go_wp2
    go_loopw [5] (fun i wr => ∃ k : Nat, k ≤ n ∧ i = .int .i64 k ∧ Hid (Cmpat a b k) ∧ ∃ m, wr = w.drewN m) (fun i _ => n - (intOf i).toNat)
    case atStart => exact ⟨0, Nat.zero_le _, rfl, rfl, 0, rfl⟩
    case round =>
      obtain ⟨k, hk, rfl, hz, m, rfl⟩ := hrel
      by_cases hlt : k < n
      · obtain ⟨b1, o1, hA, _, c1⟩ := rd_int H.out (j := k) (by rw [← HA.out]; exact hlt)
        obtain ⟨b2, o2, hA', _, c2⟩ := rd_int H'.out (j := k) (by rw [← HB.out]; exact hlt)
        cases hA
        cases hA'
        have hstep := cmpat_eq a b k hz.out (by rw [← HA.out]; exact hlt) (by rw [← HB.out]; exact hlt)
        obtain ⟨x, hx⟩ : ∃ x, x = a[k]?.getD 0 := ⟨_, rfl⟩
        obtain ⟨y, hy⟩ : ∃ y, y = b[k]?.getD 0 := ⟨_, rfl⟩
        rw [← hx] at c1 hstep
        rw [← hy] at c2 hstep
        have HS := Lib.hid hstep
        clear hx hy hstep
        by_cases hxy : x = y
        · subst hxy
          have e1 : (x != x) = false := by simp
          go_wp2
          go_quiet (fail)
          go_wp2
          go_roundw
          case rel => exact ⟨k + 1, by omega, by go_num, by have := HS.out; simp at this; exact this.symm, _, rfl⟩
          case measure => simp [intOf]; omega
        · have e1 := bne_yes hxy
          by_cases hlt2 : x < y
          · have e2 := dec_yes hlt2
            have hfin : Hid (cmpL a b = -1) := by
              show _ = _
              rw [HS.out, if_neg hxy, if_pos hlt2]
            clear hxy
            go_wp2
            go_quiet (fail)
            go_wp2
            go_quiet (fail)
            go_wp2
            go_ret
            refine ⟨?_, _, by rw [World.drewN_drewN, World.drewN_drewN]⟩
            rw [HO.out, hfin.out]
            rfl
          · have e2 := dec_no hlt2
            have hfin : Hid (cmpL a b = 1) := by
              show _ = _
              rw [HS.out, if_neg hxy, if_neg hlt2]
            clear hxy
            go_wp2
            go_quiet (fail)
            go_wp2
            go_quiet (fail)
            go_wp2
            go_ret
            refine ⟨?_, _, by rw [World.drewN_drewN, World.drewN_drewN]⟩
            rw [HO.out, hfin.out]
            rfl
      · have hfin : Hid (cmpL a b = 0) := cmpat_end a b k hz.out (by rw [← HA.out]; omega)
        go_wp2
        go_ret
        refine ⟨?_, _, rfl⟩
        rw [HO.out, hfin.out]
        rfl
  · have e0 : ((a.length : Int) != (b.length : Int)) = true := bne_yes (by omega)
    by_cases hlt : a.length < b.length
    · have hO : Hid (ordL a b = -1) := by
        show _ = _
        rw [ordL, if_neg hl, if_pos hlt]
      clear hl h h'
      go_enter Tryz.func26, Tryz.ntmps26
      go_wp2
      go_ret
      exact ⟨by rw [hO.out]; rfl, 0, rfl⟩
    · have hO : Hid (ordL a b = 1) := by
        show _ = _
        rw [ordL, if_neg hl, if_neg hlt]
      clear hl h h'
      go_enter Tryz.func26, Tryz.ntmps26
      go_wp2
      go_ret
      exact ⟨by rw [hO.out]; rfl, 0, rfl⟩

theorem cell_up {W W' : World} {p : Addr} {u : Value} (hb : Below W.heap.size W W') (h : W.cell? p = some u) : W'.cell? p = some u := (hb.cell (World.block_lt_of_cell? W p h)).trans h
theorem frz_up {W W' : World} {p : Addr} {u : Value} (hb : Below W.heap.size W W') (h : W.cell? p = some u) (hf : W.frozen? p = false) : W'.frozen? p = false := (hb.frozen (World.block_lt_of_cell? W p h)).trans hf
theorem bcells {W w1 : World} (hb : Below W.heap.size W w1) : Below W.heap.size W w1 ∧ (∀ b o, b < W.heap.size → w1.cell? ⟨b, o, none⟩ = W.cell? ⟨b, o, none⟩) ∧ (∀ b o, b < W.heap.size → w1.frozen? ⟨b, o, none⟩ = W.frozen? ⟨b, o, none⟩) ∧ W.heap.size ≤ w1.heap.size :=
  ⟨hb, fun b o h => hb.cell (p := ⟨b, o, none⟩) h, fun b o h => hb.frozen (p := ⟨b, o, none⟩) h, hb.size⟩

/-- Two integers of the reference. -/
def cmpI (n1 : Bool) (a : List Int) (n2 : Bool) (b : List Int) : Int :=
  if sgI n1 a.length = sgI n2 b.length then (if n1 then ordL b a else ordL a b) else if sgI n1 a.length < sgI n2 b.length then -1 else 1

/-- What the two boxed integers hold. -/
def Kin (w : World) (n1 : Bool) (v : Value) (n2 : Bool) (v' : Value) (W : World) : Prop :=
  Below w.heap.size w W ∧ W.cell? ⟨w.heap.size, 0, none⟩ = some (.bool n1) ∧ W.cell? ⟨w.heap.size, 1, none⟩ = some v ∧ W.cell? ⟨w.heap.size + 1, 0, none⟩ = some (.bool n2) ∧ W.cell? ⟨w.heap.size + 1, 1, none⟩ = some v'
theorem Kin.up {w W W' : World} {n1 n2 : Bool} {v v' : Value} (hb : Below W.heap.size W W') (h : Kin w n1 v n2 v' W) : Kin w n1 v n2 v' W' :=
  ⟨below_up h.1 hb, cell_up hb h.2.1, cell_up hb h.2.2.1, cell_up hb h.2.2.2.1, cell_up hb h.2.2.2.2⟩

theorem cmp_any (S S' : Nat → Prop) (v v' : Value) (n1 n2 : Bool) (a b : List Int) (hn : a.length ≤ 9223372036854775807) (hn' : b.length ≤ 9223372036854775807) (w : World) (h : SpI w S v n1 a) (h' : SpI w S' v' n2 b) (hS : ∀ k, S k → k < w.heap.size) (hS' : ∀ k, S' k → k < w.heap.size) :
    Calls Tryz.prog 12 #[v, v'] w fun e w' => e = .returned (.int .i64 (cmpI n1 a n2 b)) ∧ Below w.heap.size w w' := by
  obtain ⟨mv, rfl, A, c, rfl, hlc, hr⟩ := h
  obtain ⟨mv', rfl, A', c', rfl, hlc', hr'⟩ := h'
  have H : Hid (∀ W : World, Below w.heap.size w W → Rd W S A (ints .u8 a)) := fun W hW => hr.keep (still_below hW hS)
  have H' : Hid (∀ W : World, Below w.heap.size w W → Rd W S' A' (ints .u8 b)) := fun W hW => hr'.keep (still_below hW hS')
  have HN := Lib.hid hn
  have HN' := Lib.hid hn'
  clear hr hr' hS hS' hlc hlc' hn hn'
  by_cases hs : sgI n1 a.length = sgI n2 b.length
  · have e0 := bne_no hs
    have hO : Hid (cmpI n1 a n2 b = if n1 then ordL b a else ordL a b) := by
      show _ = _
      rw [cmpI, if_pos hs]
    clear hs
    go_enter Tryz.func12, Tryz.ntmps12
    go_wp2
    have h0 : Hid (Kin w n1 (.slice A a.length c) n2 (.slice A' b.length c') (((w.alloc (.cells #[.bool n1, .slice A a.length c] 32)).alloc (.cells #[.bool n2, .slice A' b.length c'] 32)).drew)) :=
      ⟨(((Below.refl _ _).alloc (Nat.le_refl _) _).alloc (by simp) _).drew, by simp, by simp, by simp, by simp⟩
    have hstep := Lib.hid (fun W W' hb h => Kin.up (w := w) (n1 := n1) (n2 := n2) (v := .slice A a.length c) (v' := .slice A' b.length c') (W := W) (W' := W') hb h)
    go_region_held3 (fun W => Below w.heap.size w W ∧ W.cell? ⟨w.heap.size, 0, none⟩ = some (.bool n1) ∧ W.cell? ⟨w.heap.size, 1, none⟩ = some (.slice A a.length c) ∧ W.cell? ⟨w.heap.size + 1, 0, none⟩ = some (.bool n2) ∧ W.cell? ⟨w.heap.size + 1, 1, none⟩ = some (.slice A' b.length c')) (first | exact h0.out | exact hstep.out _ _ ‹Below _ _ _› h0.out | exact hstep.out _ _ ‹Below _ _ _› (by assumption))
      (first | (go_at_call 25; refine (spSign_any _ _ _ _ _).mono ?_; rintro e w' ⟨rfl, hb⟩))
    clear h0 hstep
    obtain ⟨hB, c0, c1, c2, c3⟩ := ‹Below w.heap.size w _ ∧ _›
    have HB := Lib.hid hB
    clear hB
    cases n1 with
    | false =>
      go_wp2_with (go_at_call 26; refine (order_any S S' A A' c c' a b HN.out HN'.out _ (H.out _ HB.out) (H'.out _ HB.out)).mono ?_; rintro e w2 ⟨rfl, m, rfl⟩)
      go_ret
      exact ⟨by rw [hO.out]; rfl, below_drewN' HB.out _⟩
    | true =>
      go_wp2_with (go_at_call 26; refine (order_any S' S A' A c' c b a HN'.out HN.out _ (H'.out _ HB.out) (H.out _ HB.out)).mono ?_; rintro e w2 ⟨rfl, m, rfl⟩)
      go_ret
      exact ⟨by rw [hO.out]; rfl, below_drewN' HB.out _⟩
  · have e0 := bne_yes hs
    have hO : Hid (cmpI n1 a n2 b = if sgI n1 a.length < sgI n2 b.length then -1 else 1) := by
      show _ = _
      rw [cmpI, if_neg hs]
    have hd : ∃ d : Bool, decide (sgI n1 a.length < sgI n2 b.length) = d ∧ Hid (cmpI n1 a n2 b = if d then -1 else 1) := by
      refine ⟨_, rfl, ?_⟩
      show _ = _
      rw [hO.out]
      by_cases h : sgI n1 a.length < sgI n2 b.length <;> simp [h]
    clear hO hs
    obtain ⟨d, hd1, hO⟩ := hd
    have h0 : Hid (Kin w n1 (.slice A a.length c) n2 (.slice A' b.length c') (((w.alloc (.cells #[.bool n1, .slice A a.length c] 32)).alloc (.cells #[.bool n2, .slice A' b.length c'] 32)).drew)) :=
      ⟨(((Below.refl _ _).alloc (Nat.le_refl _) _).alloc (by simp) _).drew, by simp, by simp, by simp, by simp⟩
    have hstep := Lib.hid (fun W W' hb h => Kin.up (w := w) (n1 := n1) (n2 := n2) (v := .slice A a.length c) (v' := .slice A' b.length c') (W := W) (W' := W') hb h)
    go_enter Tryz.func12, Tryz.ntmps12
    go_wp2
    go_region_held3 (fun W => Below w.heap.size w W ∧ W.cell? ⟨w.heap.size, 0, none⟩ = some (.bool n1) ∧ W.cell? ⟨w.heap.size, 1, none⟩ = some (.slice A a.length c) ∧ W.cell? ⟨w.heap.size + 1, 0, none⟩ = some (.bool n2) ∧ W.cell? ⟨w.heap.size + 1, 1, none⟩ = some (.slice A' b.length c')) (first | exact h0.out | exact hstep.out _ _ ‹Below _ _ _› h0.out | exact hstep.out _ _ ‹Below _ _ _› (by assumption))
      (first | (go_at_call 25; refine (spSign_any _ _ _ _ _).mono ?_; rintro e w' ⟨rfl, hb⟩))
    clear h0
    obtain ⟨hB, c0, c1, c2, c3⟩ := ‹Below w.heap.size w _ ∧ _›
    obtain ⟨W, hW⟩ : ∃ W, W = w' := ⟨_, rfl⟩
    rw [← hW] at hB c0 c1 c2 c3 ⊢
    have h1 : Hid (Kin w n1 (.slice A a.length c) n2 (.slice A' b.length c') W.drew) := ⟨hB.drew, c0, c1, c2, c3⟩
    have HB := Lib.hid hB
    clear hW hb hB
    go_wp2
    go_region_held3 (fun W => Below w.heap.size w W ∧ W.cell? ⟨w.heap.size, 0, none⟩ = some (.bool n1) ∧ W.cell? ⟨w.heap.size, 1, none⟩ = some (.slice A a.length c) ∧ W.cell? ⟨w.heap.size + 1, 0, none⟩ = some (.bool n2) ∧ W.cell? ⟨w.heap.size + 1, 1, none⟩ = some (.slice A' b.length c')) (first | exact h1.out | exact hstep.out _ _ ‹Below _ _ _› h1.out | exact hstep.out _ _ ‹Below _ _ _› (by assumption))
      (first | (go_at_call 25; refine (spSign_any _ _ _ _ _).mono ?_; rintro e w' ⟨rfl, hb⟩))
    clear h1 hstep
    obtain ⟨hB2, _⟩ := ‹Below w.heap.size w _ ∧ _›
    cases d
    all_goals
      go_wp2
      go_ret
      exact ⟨by rw [hO.out]; rfl, hB2⟩
end Go.Proofs.YtloloifngbmibaaGreatDoor
