/- Walks of the reference's integers: bytesOf, cut, Of, Small, Num, IntVal, Sign, order, Cmp. -/
import Derived.Test.YtgcdcchmdcdflaaApp
import Derived.Test.YtgcdcchmdcdflaaByte
set_option linter.unusedVariables false
namespace Go.Proofs.Ytgcdcchmdcdflaa
open Go.RowKit

theorem info_u8 : (Try.prog.info? 5).map (fun i => (i.zero, i.size, i.bytes)) = some (some (.int .u8 0), 1, 1) := by kernel_rfl
/-- Without leading zeros. -/
def strip (l : List Int) : List Int := l.drop (lz l)

theorem cut_done {w w0 w2 : World} {v : Value} {l : List Int} {n : Nat} {row : Option Nat} (hb : Below w.heap.size w w0) (ho : w2.ownsRow w0.heap.size 5 1 v n (ints .u8 l)) (hg : (w0.alloc (.cells #[] 5)).grownBy w2 row) (hr : row = none ∨ row = some w0.heap.size) :
    SlV w2 (Nw w w2) .u8 v l ∧ Below w.heap.size w w2 := by
  refine ⟨(own_sl ho).mono (fun k hk => ⟨Nat.le_trans hb.size hk.1, hk.2⟩), (hb.alloc hb.size _).grown hg (by have := hb.size; simp; omega) (fun k hk => ?_)⟩
  rcases hr with rfl | rfl
  · cases hk
  · injection hk with hk
    have := hb.size
    omega

theorem cut_pos (S : Nat → Prop) (b o c : Nat) (l : List Int) (h0 : 0 < l.length) (hc : l.length ≤ c) (hn : l.length ≤ 140737488355328) (w : World) (hS : S b) (hcl : ∀ j, j < l.length → w.cell? ⟨b, o + j, none⟩ = some (.int .u8 (l[j]?.getD 0))) :
    Calls Try.prog 15 #[.slice (some ⟨b, o, none⟩) l.length c] w fun e w' => ∃ v, e = .returned v ∧ SlV w' (Nw w w') .u8 v (strip l) ∧ Below w.heap.size w w' := by
  obtain ⟨n, hn'⟩ : ∃ n, n = l.length := ⟨_, rfl⟩
  rw [← hn'] at h0 hc hn ⊢
  have HN := Lib.hid hn'
  have HC := Lib.hid hcl
  clear hn' hcl
  go_enter Try.func15, Try.ntmps15
  go_wp2
  go_loop [3] (fun i => ∃ k : Nat, k ≤ n ∧ i = .int .i64 k ∧ Hid (Lzat l k)) (fun i => n - (intOf i).toNat)
  case atStart => exact ⟨0, Nat.zero_le _, rfl, lzat0 _⟩
  case round =>
    obtain ⟨k, hk, rfl, hz⟩ := hrel
    by_cases hrun : k < n ∧ l[k]?.getD 0 = 0
    · obtain ⟨hk8, hy0⟩ := hrun
      have c0 := HC.out k (by rw [← HN.out]; exact hk8)
      rw [hy0] at c0
      have HY := Lib.hid hy0
      clear hy0
      go_wp2
      go_round
      case rel => exact ⟨k + 1, by omega, by go_num, lzat_succ _ _ (by rw [← HN.out]; exact hk8) hz.out HY.out⟩
      case measure => simp [intOf]; omega
    · have hkz : k = lz l := lzat_end _ k hz.out (fun h h' => hrun ⟨by rw [HN.out]; exact h, h'⟩) (by rw [← HN.out]; exact hk)
      have HL : Hid ((ints .u8 (strip l)).length = (n - k) * 1) := by
        show _ = _
        rw [ints_length, strip, List.length_drop, ← hkz, ← HN.out, Nat.mul_one]
      have HR : Hid (∀ (ob : Obj) (A : Option Addr), (A = some ⟨b, o + k, none⟩ ∨ n = k) → Rd (w.alloc ob) (fun j => j = b) A (ints .u8 (strip l))) := by
        intro ob A hA hp
        have hlt : k < n := by
          have := HL.out
          omega
        rcases hA with rfl | hA
        · refine ⟨b, o + k, rfl, rfl, fun j u hu => ?_⟩
          have hj : j < (strip l).length := by
            have := (List.getElem?_eq_some_iff.1 hu).1
            rwa [ints_length] at this
          have hj2 : k + j < l.length := by
            have := hj
            rw [strip, List.length_drop, ← hkz] at this
            omega
          have hcell := HC.out (k + j) hj2
          have hb : b < w.heap.size := World.block_lt_of_cell? w _ hcell
          rw [World.cell?_alloc_lt w ob ⟨b, o + k + j, none⟩ hb, Nat.add_assoc, hcell, ← hu, ints_get _ _ j hj, strip, List.getElem?_drop, ← hkz]
        · omega
      have HO : Hid ((w.alloc (.cells #[] 5)).ownsRow w.heap.size 5 1 (.slice (some ⟨w.heap.size, 0, none⟩) 0 0) 0 []) := World.ownsRow_made w #[] 0 (Nat.le_refl _) (by unfold maxLen; omega) (by simp)
      have hend : (k < n ∧ (l[k]?.getD 0 == 0) = false) ∨ k = n := by
        by_cases h : k < n
        · exact .inl ⟨h, beq_no (fun h' => hrun ⟨h, h'⟩)⟩
        · exact .inr (by omega)
      clear hrun hkz hz
      rcases hend with ⟨hk8, hy1⟩ | rfl
      · have c0 := HC.out k (by rw [← HN.out]; exact hk8)
        obtain ⟨y, hy⟩ : ∃ y, y = l[k]?.getD 0 := ⟨_, rfl⟩
        rw [← hy] at c0 hy1
        clear hy
        have hkc : ¬ c = k := by omega
        go_wp2_with (at_builtin; refine wpList_append_rd _ rfl _ _ 23 rfl w.heap.size 5 (.int .u8 0) 1 1 Try.underlying23 info_u8 rfl (by decide) (.slice (some ⟨w.heap.size, 0, none⟩) 0 0) 0 [] rfl HO.out (fun j => j = b) _ (n - k) _ (ints .u8 (strip l)) rfl HL.out (by exact HR.out _ _ (.inl rfl)) (ints_one _ _) (by unfold maxLen; omega) (by omega) (by simp) ?_; intro v2 w2 ho hg hrow)
        rw [Nat.zero_add, List.nil_append] at ho
        have hd := cut_done (Below.refl _ w) ho hg (by simp [Value.ownBlock])
        clear ho hg hrow
        go_ret
        exact ⟨_, rfl, hd⟩
      · have hs0 : strip l = [] := by
          have := HL.out
          rw [ints_length, Nat.sub_self] at this
          exact List.eq_nil_of_length_eq_zero (by omega)
        have H0 := Lib.hid hs0
        clear HL HR HO hs0
        go_wp2
        all_goals
          go_ret
          exact ⟨_, rfl, by rw [H0.out]; exact ⟨_, _, rfl, Nat.le_refl _, Rd.nil _ _ _⟩, (Below.refl _ _).alloc (Nat.le_refl _) _⟩

theorem cut_zero (A : Option Addr) (c : Nat) (w : World) :
    Calls Try.prog 15 #[.slice A 0 c] w fun e w' => ∃ v, e = .returned v ∧ SlV w' (Nw w w') .u8 v [] ∧ Below w.heap.size w w' := by
  cases A with
  | none =>
    go_enter Try.func15, Try.ntmps15
    go_wp2
    go_loop [3] (fun i => i = .int .i64 0) (fun i => 0)
    case atStart => rfl
    case round =>
      subst hrel
      go_wp2
      all_goals
        go_ret
        exact ⟨_, rfl, ⟨_, _, rfl, Nat.le_refl _, Rd.nil _ _ _⟩, (Below.refl _ _).alloc (Nat.le_refl _) _⟩
  | some ad =>
    go_enter Try.func15, Try.ntmps15
    go_wp2
    go_loop [3] (fun i => i = .int .i64 0) (fun i => 0)
    case atStart => rfl
    case round =>
      subst hrel
      go_wp2
      all_goals
        go_ret
        exact ⟨_, rfl, ⟨_, _, rfl, Nat.le_refl _, Rd.nil _ _ _⟩, (Below.refl _ _).alloc (Nat.le_refl _) _⟩

theorem cut_any (S : Nat → Prop) (v : Value) (l : List Int) (hn : l.length ≤ 140737488355328) (w : World) (h : SlV w S .u8 v l) :
    Calls Try.prog 15 #[v] w fun e w' => ∃ v, e = .returned v ∧ SlV w' (Nw w w') .u8 v (strip l) ∧ Below w.heap.size w w' := by
  obtain ⟨A, c, rfl, hlc, hr⟩ := h
  by_cases h0 : 0 < l.length
  · obtain ⟨b, o, rfl, hS, hc⟩ := hr (by rwa [ints_length])
    exact cut_pos S b o c l h0 hlc hn w hS (fun j hj => hc j _ (ints_get _ _ j hj))
  · have : l = [] := List.eq_nil_of_length_eq_zero (by omega)
    subst this
    exact cut_zero A c w

/-- An integer of the reference. -/
def SpI (w : World) (S : Nat → Prop) (v : Value) (neg : Bool) (mag : List Int) : Prop := ∃ mv, v = .agg #[.bool neg, mv] ∧ SlV w S .u8 mv mag
theorem SpI.keep {w w' : World} {S : Nat → Prop} {v : Value} {neg : Bool} {mag : List Int} (h : SpI w S v neg mag) (hk : Still S w w') : SpI w' S v neg mag := by
  obtain ⟨mv, h1, h2⟩ := h
  exact ⟨mv, h1, h2.keep hk⟩
theorem SpI.mono {w : World} {S S' : Nat → Prop} {v : Value} {neg : Bool} {mag : List Int} (h : SpI w S v neg mag) (hs : ∀ k, S k → S' k) : SpI w S' v neg mag := by
  obtain ⟨mv, h1, h2⟩ := h
  exact ⟨mv, h1, h2.mono hs⟩

/-- The sign that an integer of the reference bears. -/
def sgn2 (neg : Bool) (l : List Int) : Bool := neg && decide (0 < l.length)

theorem of_any (S : Nat → Prop) (neg : Bool) (v : Value) (l : List Int) (hn : l.length ≤ 140737488355328) (w : World) (h : SlV w S .u8 v l) (hS : ∀ k, S k → k < w.heap.size) :
    Calls Try.prog 7 #[.bool neg, v] w fun e w' => ∃ v', e = .returned v' ∧ SpI w' (Nw w w') v' (sgn2 neg (strip l)) (strip l) ∧ Below w.heap.size w w' := by
  have HC : Hid (∀ W : World, Below w.heap.size w W → Calls Try.prog 15 #[v] W fun e w' => ∃ v, e = .returned v ∧ SlV w' (Nw W w') .u8 v (strip l) ∧ Below W.heap.size W w') :=
    fun W hW => cut_any S v l hn W (h.keep (still_below hW hS))
  obtain ⟨A0, c0, hv0, _⟩ := h
  subst hv0
  clear hS
  cases neg
  all_goals
    go_enter Try.func7, Try.ntmps7
    go_wp2_with fail
    refine (HC.out _ ((Below.refl _ _).alloc (Nat.le_refl _) _)).mono ?_
    rintro e w1 ⟨mv, rfl, hv, hb⟩
    have hrow := (Blk.new w 31 #[.bool false, .slice none 0 0]).below hb (by simp)
    obtain ⟨A, c, rfl, hlc, hr⟩ := hv
    have c0 := hrow.cell 0
    have c1 := hrow.cell 1
    have f0 := hrow.frozen 0
    have f1 := hrow.frozen 1
    have hlt := hrow.lt
    simp at c0 c1
    go_wp2
    refine bodyPost_ret (v := .agg #[.bool (sgn2 _ (strip l)), .slice A (strip l).length c]) (by simp [results, Try.results7, go_sem, c0, c1, sgn2]) rfl ⟨_, rfl, ⟨_, rfl, ?_⟩, ?_⟩
    · have hne : ∀ k, Nw (w.alloc (.cells #[.bool false, .slice none 0 0] 31)) w1 k → k ≠ w.heap.size := fun k hk => by have := hk.1; simp at this; omega
      exact sl_done hr hlc rfl (((Still.refl _ _).set (p := ⟨w.heap.size, 0, none⟩) hne _).set (p := ⟨w.heap.size, 1, none⟩) hne _) (fun k hk => ⟨by have := hk.1; simp at this; omega, by simpa using hk.2⟩)
    · exact (((below_up ((Below.refl _ _).alloc (Nat.le_refl _) _) hb).setCell (Nat.le_refl _) _).setCell (Nat.le_refl _) _)

/-- It is stored into a block that was there before it was made. -/
theorem SpI.put {w W w1 : World} {v : Value} {neg : Bool} {mag : List Int} {g : Nat} {u0 u1 : Value} (h : SpI w1 (Nw W w1) v neg mag) (hg : g < W.heap.size) (hw : w.heap.size ≤ W.heap.size) :
    SpI ((w1.setCell ⟨g, 0, none⟩ u0).setCell ⟨g, 1, none⟩ u1) (Nw w ((w1.setCell ⟨g, 0, none⟩ u0).setCell ⟨g, 1, none⟩ u1)) v neg mag := by
  have hne : ∀ k, Nw W w1 k → k ≠ g := fun k hk => by have := hk.1; omega
  exact (h.keep (((Still.refl _ _).set (p := ⟨g, 0, none⟩) hne _).set (p := ⟨g, 1, none⟩) hne _)).mono (fun k hk => ⟨Nat.le_trans hw hk.1, by simpa using hk.2⟩)

theorem num_any (S : Nat → Prop) (k : Int) (neg : Bool) (v : Value) (l : List Int) (bits : Int) (s : ByteArray) (kv : Value) (hk1 : kv.oneCell' = true) (hn : l.length ≤ 140737488355328) (w : World) (h : SlV w S .u8 v l) (hS : ∀ k, S k → k < w.heap.size) :
    Calls Try.prog 16 #[.agg #[.int .i64 k, .bool neg, v, .int .u64 bits, .string s, kv]] w fun e w' => ∃ v', e = .returned v' ∧ SpI w' (Nw w w') v' (sgn2 neg (strip l)) (strip l) ∧ Below w.heap.size w w' := by
  have HC : Hid (∀ W : World, Below w.heap.size w W → Calls Try.prog 7 #[.bool neg, v] W fun e w' => ∃ v', e = .returned v' ∧ SpI w' (Nw W w') v' (sgn2 neg (strip l)) (strip l) ∧ Below W.heap.size W w') :=
    fun W hW => of_any S neg v l hn W (h.keep (still_below hW hS)) (fun k hk => Nat.lt_of_lt_of_le (hS k hk) hW.size)
  obtain ⟨A0, c0, hv0, _⟩ := h
  subst hv0
  clear hS
  go_enter Try.func16, Try.ntmps16
  go_wp2_with fail
  refine (HC.out _ (((Below.refl _ _).alloc (Nat.le_refl _) _).alloc (by simp) _)).mono ?_
  rintro e w1 ⟨v', rfl, hv, hb⟩
  obtain ⟨mv, rfl, hmv⟩ := id hv
  obtain ⟨A, c, rfl, hlc, hr⟩ := hmv
  have hrow := (Blk.new (w.alloc (.cells #[.int .i64 k, .bool neg, .slice A0 l.length c0, .int .u64 bits, .string s, kv] 26)) 31 #[.bool false, .slice none 0 0]).below hb (by simp)
  rw [show (w.alloc (.cells #[.int .i64 k, .bool neg, .slice A0 l.length c0, .int .u64 bits, .string s, kv] 26)).heap.size = w.heap.size + 1 by simp] at hrow
  have c0 := hrow.cell 0
  have c1 := hrow.cell 1
  have f0 := hrow.frozen 0
  have f1 := hrow.frozen 1
  have hlt := hrow.lt
  simp at c0 c1
  have hfin := hv.put (w := w) (g := w.heap.size + 1) (u0 := .bool (sgn2 neg (strip l))) (u1 := .slice A (strip l).length c) (by simp) (by simp; omega)
  have hbe := below_up (((Below.refl _ _).alloc (Nat.le_refl _) _).alloc (by simp) _) hb
  clear hv hr HC hb
  go_wp2
  exact bodyPost_ret (v := .agg #[.bool (sgn2 neg (strip l)), .slice A (strip l).length c]) (by simp [results, Try.results16, go_sem, c0, c1]) rfl ⟨_, rfl, hfin, (hbe.setCell (by simp) _).setCell (by simp) _⟩

theorem zero_any (neg : Bool) (A : Option Addr) (n c : Nat) (w : World) :
    Calls Try.prog 35 #[.agg #[.bool neg, .slice A n c]] w fun e w' => e = .returned (.bool (decide (n = 0))) ∧ ∃ o, w.alloc o = w' := by
  by_cases hn : n = 0
  · subst hn
    go_enter Try.func35, Try.ntmps35
    go_wp2
    go_ret
    exact ⟨rfl, _, rfl⟩
  · have h0 : ((n : Int) == 0) = false := beq_no (by omega)
    have h1 := dec_no hn
    rw [h1]
    clear h1
    go_enter Try.func35, Try.ntmps35
    go_wp2
    go_ret
    exact ⟨rfl, _, rfl⟩

/-- The sign of an integer of the reference. -/
def sgI (neg : Bool) (n : Nat) : Int := if n = 0 then 0 else if neg then -1 else 1

theorem spSign_any (neg : Bool) (A : Option Addr) (n c : Nat) (w : World) :
    Calls Try.prog 28 #[.agg #[.bool neg, .slice A n c]] w fun e w' => e = .returned (.int .i64 (sgI neg n)) ∧ Below w.heap.size w w' := by
  by_cases hn : n = 0
  · have hd := dec_yes hn
    have hs : sgI neg n = 0 := by simp [sgI, hn]
    rw [hs]
    clear hs
    go_enter Try.func28, Try.ntmps28
    go_wp2_with (go_at_call 35; refine (zero_any _ _ _ _ _).mono ?_; rintro e w' ⟨rfl, o, rfl⟩)
    trace_state
    go_ret
    exact ⟨rfl, ((Below.refl _ _).alloc (Nat.le_refl _) _).alloc (by simp) _⟩
  · have hd := dec_no hn
    cases neg
    all_goals
      have hs : ∀ b, sgI b n = if b then -1 else 1 := fun b => by simp [sgI, hn]
      rw [hs]
      clear hs
      go_enter Try.func28, Try.ntmps28
      go_wp2_with (go_at_call 35; refine (zero_any _ _ _ _ _).mono ?_; rintro e w' ⟨rfl, o, rfl⟩)
      go_ret
      exact ⟨rfl, ((Below.refl _ _).alloc (Nat.le_refl _) _).alloc (by simp) _⟩
end Go.Proofs.Ytgcdcchmdcdflaa
