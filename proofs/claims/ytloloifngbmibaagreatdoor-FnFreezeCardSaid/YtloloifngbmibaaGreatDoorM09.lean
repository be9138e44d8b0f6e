/- Walks of Set into a part of a block, of getStack, free, intOne, scaleDenom, Int.Cmp. Walks of free as a deferred call, of Int.Cmp, of scaleDenom. Walk of Rat.Cmp. Walks of lshVU and lsh of one word. -/
import Derived.Test.YtloloifngbmibaaGreatDoorM08
import Derived.Defers
import Derived.LaidEqlPtr
set_option linter.unusedVariables false
set_option maxRecDepth 4000
namespace Go.Proofs.YtloloifngbmibaaGreatDoor
open Go.RowKit

/-- 'z.Set(x)', z a nil integer anywhere in a block. -/
theorem big_setO (w : World) (S : Nat → Prop) (b o b1 o1 : Nat) (u neg : Bool) (xs : List Int) (h0 : 0 < xs.length) (h1 : xs.length ≤ 4294967296) (t : TypeId) (cs : Array Value) (hb : Blk w b t cs) (c0 : w.cell? ⟨b, o, none⟩ = some (.bool u)) (c1 : w.cell? ⟨b, o + 1, none⟩ = some (.slice none 0 0)) (A : Option Addr) (c : Nat) (t1 : TypeId) (cs1 : Array Value) (hb1 : Blk w b1 t1 cs1) (hne : b ≠ b1)
    (x0 : w.cell? ⟨b1, o1, none⟩ = some (.bool neg)) (x1 : w.cell? ⟨b1, o1 + 1, none⟩ = some (.slice A xs.length c)) (hr : Rd w S A (ints .u64 xs)) :
    Calls Tryz.prog 114 #[.pointer (some ⟨b, o, none⟩), .pointer (some ⟨b1, o1, none⟩)] w fun e w' => e = .returned (.pointer (some ⟨b, o, none⟩)) ∧
      ∃ zs : List Int, Alk w' (((w.setCell ⟨b, o + 1, none⟩ (.slice (some ⟨w.heap.size, 0, none⟩) xs.length (xs.length + zs.length))).setCell ⟨b, o, none⟩ (.bool neg)).alloc (.cells (ints .u64 (xs ++ zs)).toArray 236)) := by
  have hlt := hb.lt
  have hlt1 := hb1.lt
  have f0 := hb.frozen o
  have f1 := hb.frozen (o + 1)
  have hn1 := neq_ptr_far (n := 1) w Tryz.underlying113 (by kernel_rfl) (by intro h; injection h; exact hne ‹_›) hb (a := ⟨b, o, none⟩) (b := ⟨b1, o1, none⟩) hb1
  have hr' : Hid (∀ W : World, W.heap = w.heap → Rd W S A (ints .u64 xs)) := fun W hW => hr.keep (fun k _ => by rw [hW])
  have H0 := Lib.hid h0
  have H1 := Lib.hid h1
  clear hr h0 h1
  go_enter Tryz.func114, Tryz.ntmps114
  go_wp2
  go_region_with (go_at_call 132; refine (set_nil S A c xs H0.out H1.out _ (by exact hr'.out _ rfl)).mono ?_; rintro e w' ⟨v, rfl, zs, rfl, rfl⟩)
  all_goals
    clear hn1
    go_wp2
    go_ret
    exact ⟨rfl, zs, rfl, rfl, rfl, rfl⟩

theorem big_setO0 (w : World) (b o b1 o1 : Nat) (u neg : Bool) (t : TypeId) (cs : Array Value) (hb : Blk w b t cs) (c0 : w.cell? ⟨b, o, none⟩ = some (.bool u)) (c1 : w.cell? ⟨b, o + 1, none⟩ = some (.slice none 0 0)) (A : Option Addr) (c : Nat) (t1 : TypeId) (cs1 : Array Value) (hb1 : Blk w b1 t1 cs1) (hne : b ≠ b1)
    (x0 : w.cell? ⟨b1, o1, none⟩ = some (.bool neg)) (x1 : w.cell? ⟨b1, o1 + 1, none⟩ = some (.slice A 0 c)) :
    Calls Tryz.prog 114 #[.pointer (some ⟨b, o, none⟩), .pointer (some ⟨b1, o1, none⟩)] w fun e w' => e = .returned (.pointer (some ⟨b, o, none⟩)) ∧ Alk w' ((w.setCell ⟨b, o + 1, none⟩ (.slice none 0 0)).setCell ⟨b, o, none⟩ (.bool neg)) := by
  have f0 := hb.frozen o
  have f1 := hb.frozen (o + 1)
  have hn1 := neq_ptr_far (n := 1) w Tryz.underlying113 (by kernel_rfl) (by intro h; injection h; exact hne ‹_›) hb (a := ⟨b, o, none⟩) (b := ⟨b1, o1, none⟩) hb1
  go_enter Tryz.func114, Tryz.ntmps114
  go_wp2
  go_region_with (go_at_call 132; refine (set_nil0 _ _ _).mono ?_; rintro e w' ⟨rfl, rfl⟩)
  all_goals
    clear hn1
    go_wp2
    go_ret
    exact ⟨rfl, rfl, rfl, rfl, rfl⟩

theorem getStack_any (w : World) :
    Calls Tryz.prog 161 #[] w fun e w' => e = .returned (.pointer (some ⟨w.heap.size, 0, none⟩)) ∧ w.alloc (.cells #[.pointer none] 302) = w' := by
  go_enter Tryz.func161, Tryz.ntmps161
  go_wp2
  go_ret
  exact ⟨rfl, rfl⟩
theorem free_any (b : Nat) (w : World) (h : w.cell? ⟨b, 0, none⟩ = some (.pointer none)) :
    Calls Tryz.prog 162 #[.pointer (some ⟨b, 0, none⟩)] w fun e w' => e = .returned (.tuple #[]) ∧ w' = w := by
  go_enter Tryz.func162, Tryz.ntmps162
  go_wp2
  go_end0
  exact ⟨rfl, rfl⟩
theorem natOne_any (w : World) :
    Calls Tryz.prog 179 #[] w fun e w' => e = .returned (.slice (some ⟨w.heap.size, 0, none⟩) 1 1) ∧ w.alloc (.cells #[.int .u64 1] 236) = w' := by
  go_enter Tryz.func179, Tryz.ntmps179
  go_wp2
  go_ret
  exact ⟨rfl, rfl⟩
theorem intOne_any (w : World) :
    Calls Tryz.prog 168 #[] w fun e w' => e = .returned (.pointer (some ⟨w.heap.size + 1, 0, none⟩)) ∧ (w.alloc (.cells #[.int .u64 1] 236)).alloc (.cells #[.bool false, .slice (some ⟨w.heap.size, 0, none⟩) 1 1] 189) = w' := by
  go_enter Tryz.func168, Tryz.ntmps168
  go_wp2_with (go_at_call 179; refine (natOne_any _).mono ?_; rintro e w' ⟨rfl, rfl⟩)
  go_ret
  exact ⟨rfl, rfl⟩
end Go.Proofs.YtloloifngbmibaaGreatDoor
set_option linter.unusedVariables false
set_option maxRecDepth 4000
namespace Go.Proofs.YtloloifngbmibaaGreatDoor
open Go.RowKit

theorem free_def (b : Nat) (u : FrameMode) (w : World) (h : w.cell? ⟨b, 0, none⟩ = some (.pointer none)) :
    CallsD Tryz.prog 162 #[.pointer (some ⟨b, 0, none⟩)] u w fun e u' w' => u' = u ∧ (e = .returned (.tuple #[]) ∧ w' = w) := by
  go_enter_d Tryz.func162, Tryz.ntmps162
  go_wp2
  go_end0
  exact ⟨rfl, rfl⟩

/-- Two big integers compared. -/
def cmpB (n1 : Bool) (xs : List Int) (n2 : Bool) (ys : List Int) : Int :=
  if n1 = n2 then (if n1 then -(ordL xs.reverse ys.reverse) else ordL xs.reverse ys.reverse) else if n1 then -1 else 1
theorem cmpL_mem : ∀ (a b : List Int), cmpL a b = -1 ∨ cmpL a b = 0 ∨ cmpL a b = 1
  | [], _ => by simp [cmpL]
  | _ :: _, [] => by simp [cmpL]
  | x :: xs, y :: ys => by
    have := cmpL_mem xs ys
    simp only [cmpL]
    split
    · exact this
    · split <;> simp
theorem ordL_mem (a b : List Int) : ordL a b = -1 ∨ ordL a b = 0 ∨ ordL a b = 1 := by
  have := cmpL_mem a b
  unfold ordL
  split
  · exact this
  · split <;> simp
theorem cmpL_zero : ∀ {a b : List Int}, a.length = b.length → cmpL a b = 0 → a = b
  | [], [], _, _ => rfl
  | x :: xs, y :: ys, hl, h => by
    simp only [cmpL] at h
    split at h
    · rename_i e
      rw [e, cmpL_zero (by simpa using hl) h]
    · split at h <;> simp at h
theorem ordL_zero {a b : List Int} (h : ordL a b = 0) : a = b := by
  unfold ordL at h
  split at h
  · exact cmpL_zero ‹_› h
  · split at h <;> simp at h
theorem cmpB_zero {n1 n2 : Bool} {xs ys : List Int} (h : cmpB n1 xs n2 ys = 0) : n1 = n2 ∧ xs = ys := by
  unfold cmpB at h
  split at h
  · rename_i e
    refine ⟨e, ?_⟩
    have h2 : ordL xs.reverse ys.reverse = 0 := by
      split at h <;> omega
    have := congrArg List.reverse (ordL_zero h2)
    simpa using this
  · split at h <;> simp at h

theorem eql_ptr_far {P : Program} (w : World) {n : Nat} {tp te : TypeId} {a b : Addr} {ca cb : Array Value} {ta tb : TypeId} (hp : P.underlying tp = some (.pointer te)) (hte : (P.info? te).map (·.size) = some (n + 1))
    (hne : a ≠ b) (ha : Blk w a.block ta ca) (hb : Blk w b.block tb cb) :
    (binOp .eql tp (.pointer (some a)) (.pointer (some b))).run P w = .ok (.bool false) w := by
  obtain ⟨i, hi, hz⟩ := Option.map_eq_some_iff.1 hte
  exact run_eql_ptr_other w hp hi (by omega) hne ha hb

set_option maxHeartbeats 1000000 in
theorem intCmp_any (S S' : Nat → Prop) (b1 o1 b2 o2 : Nat) (n1 n2 : Bool) (xs ys : List Int) (hn : xs.length ≤ 4294967296) (hn' : ys.length ≤ 4294967296) (w : World) (t1 : TypeId) (cs1 : Array Value) (hb1 : Blk w b1 t1 cs1) (t2 : TypeId) (cs2 : Array Value) (hb2 : Blk w b2 t2 cs2) (hne : b1 ≠ b2)
    (hx : BigV w S b1 o1 n1 xs) (hy : BigV w S' b2 o2 n2 ys) :
    Calls Tryz.prog 127 #[.pointer (some ⟨b1, o1, none⟩), .pointer (some ⟨b2, o2, none⟩)] w fun e w' => e = .returned (.int .i64 (cmpB n1 xs n2 ys)) ∧ ∃ n, w.drewN n = w' := by
  obtain ⟨v1, _, c10, c11, A1, k1, rfl, _, hr1⟩ := hx
  obtain ⟨v2, _, c20, c21, A2, k2, rfl, _, hr2⟩ := hy
  have heq := eql_ptr_far (n := 1) w Tryz.underlying113 (by kernel_rfl) (by intro h; injection h; exact hne ‹_›) (a := ⟨b1, o1, none⟩) (b := ⟨b2, o2, none⟩) hb1 hb2
  have HC : Hid (∀ m n, Calls Tryz.prog 141 #[.slice A1 xs.length k1, .slice A2 ys.length k2] ((w.drewN m).drewN n) fun e w' => e = .returned (.int .i64 (ordL xs.reverse ys.reverse)) ∧ ∃ q, w' = (w.drewN m).drewN q) := Lib.hid fun m n => by
    refine (cmpN_any S S' A1 A2 k1 k2 xs ys hn hn' ((w.drewN m).drewN n) hr1 hr2).mono ?_
    rintro e w' ⟨rfl, q, rfl⟩
    exact ⟨rfl, n + q, by rw [World.drewN_drewN]⟩
  have HC2 : Hid (∀ m n, Calls Tryz.prog 141 #[.slice A1 xs.length k1, .slice A2 ys.length k2] (w.drewN (m + n)) fun e w' => e = .returned (.int .i64 (ordL xs.reverse ys.reverse)) ∧ ∃ q, w' = (w.drewN m).drewN q) := Lib.hid fun m n => by
    have h := HC.out m n
    rwa [World.drewN_drewN] at h
  have hmem := ordL_mem xs.reverse ys.reverse
  obtain ⟨C, hC⟩ : ∃ C, C = ordL xs.reverse ys.reverse := ⟨_, rfl⟩
  have HB : Hid (cmpB n1 xs n2 ys = if n1 = n2 then (if n1 then -C else C) else if n1 then -1 else 1) := Lib.hid (by rw [hC]; rfl)
  rw [← hC] at HC HC2 hmem
  have ew : IntKind.i64.wrap (-C) = -C := by
    simp only [IntKind.wrap_i64]
    omega
  clear hC hmem hr1 hr2 hb1 hb2
  cases n1
  all_goals cases n2
  all_goals
    have HB2 := HB.out
    simp at HB2
    rw [HB2]
    clear HB HB2
    go_enter Tryz.func127, Tryz.ntmps127
    go_wp2
    go_quiet (fail)
    go_wp2
  · generalize hw1 : w.drewN _ = w1
    have d11 : w1.cell? ⟨b1, o1 + 1, none⟩ = some (.slice A1 xs.length k1) := by rw [← hw1]; exact c11
    have d21 : w1.cell? ⟨b2, o2 + 1, none⟩ = some (.slice A2 ys.length k2) := by rw [← hw1]; exact c21
    have d10 : w1.cell? ⟨b1, o1, none⟩ = some (.bool false) := by rw [← hw1]; exact c10
    have HC1 : Hid (∀ n, Calls Tryz.prog 141 #[.slice A1 xs.length k1, .slice A2 ys.length k2] (w1.drewN n) fun e w' => e = .returned (.int .i64 C) ∧ ∃ q, w' = w1.drewN q) := Lib.hid fun n => by rw [← hw1]; exact HC.out _ n
    have HW1 : Hid (∃ m, w1 = w.drewN m) := Lib.hid ⟨_, hw1.symm⟩
    clear hw1 c11 c21 c10 c20 HC HC2 heq
    go_quiet (exact HC1.out _)
    go_wp2
    go_ret
    obtain ⟨m, hm⟩ := HW1.out
    exact ⟨rfl, m + _, by rw [hm, World.drewN_drewN]⟩
  · go_ret
    exact ⟨rfl, _, rfl⟩
  · go_ret
    exact ⟨rfl, _, rfl⟩
  · generalize hw1 : w.drewN _ = w1
    have d11 : w1.cell? ⟨b1, o1 + 1, none⟩ = some (.slice A1 xs.length k1) := by rw [← hw1]; exact c11
    have d21 : w1.cell? ⟨b2, o2 + 1, none⟩ = some (.slice A2 ys.length k2) := by rw [← hw1]; exact c21
    have d10 : w1.cell? ⟨b1, o1, none⟩ = some (.bool true) := by rw [← hw1]; exact c10
    have HC1 : Hid (∀ n, Calls Tryz.prog 141 #[.slice A1 xs.length k1, .slice A2 ys.length k2] (w1.drewN n) fun e w' => e = .returned (.int .i64 C) ∧ ∃ q, w' = w1.drewN q) := Lib.hid fun n => by rw [← hw1]; exact HC.out _ n
    have HW1 : Hid (∃ m, w1 = w.drewN m) := Lib.hid ⟨_, hw1.symm⟩
    clear hw1 c11 c21 c10 c20 HC HC2 heq
    go_quiet (exact HC1.out _)
    go_wp2
    go_ret
    obtain ⟨m, hm⟩ := HW1.out
    exact ⟨rfl, m + _, by rw [hm, World.drewN_drewN]⟩

/-- 'z.scaleDenom(stk, x, f)', z a new integer, f not nothing: x's magnitude times f. -/
def ScaleOut (zb : Nat) (neg : Bool) (p : Int) (w w' : World) : Prop :=
  ∃ v ps, Blk w' zb 189 #[.bool neg, v] ∧ SlV w' (fun k => Nw w w' k ∧ k ≠ zb) .u64 v ps ∧ WL ps ∧ Nrm ps ∧ nv ps = p ∧ But (fun k => k = zb) w w'

set_option maxHeartbeats 1000000 in
theorem scaleDenom_any (S S' : Nat → Prop) (zb b1 o1 : Nat) (stk : Value) (hstk : stk.oneCell' = true) (A' : Option Addr) (c' : Nat) (n1 : Bool) (xs ys : List Int) (hn : xs.length ≤ 1000000) (hn' : ys.length ≤ 1000000) (hk : xs.length < 40 ∨ ys.length < 40) (h0 : 0 < ys.length) (hX : WL xs) (hY : WL ys) (w : World)
    (hz : Blk w zb 189 #[.bool false, .slice none 0 0]) (hx : BigV w S b1 o1 n1 xs) (hr' : Rd w S' A' (ints .u64 ys)) (hS : ∀ k, S k → k < w.heap.size ∧ k ≠ zb) (hS' : ∀ k, S' k → k < w.heap.size) (hG : w.cell? ⟨2, 0, none⟩ = some (.int .i64 40)) :
    Calls Tryz.prog 163 #[.pointer (some ⟨zb, 0, none⟩), stk, .pointer (some ⟨b1, o1, none⟩), .slice A' ys.length c'] w fun e w' => e = .returned (.tuple #[]) ∧ ScaleOut zb n1 (nv xs * nv ys) w w' := by
  obtain ⟨v1, hs1, c10, c11, A1, k1, rfl, _, hr1⟩ := hx
  have HM : Hid (Calls Tryz.prog 167 #[.slice none 0 0, stk, .slice A1 xs.length k1, .slice A' ys.length c'] w.drew fun e w' => ∃ v ps, e = .returned v ∧ Hid (NewN w v ps w') ∧ Hid (nv ps = nv xs * nv ys)) := Lib.hid (by
    refine (mul_any S S' A1 A' k1 c' stk hstk xs ys hn hn' hk hX hY w.drew hr1 hr' (fun k hk => (hS k hk).1) hS' hG).mono ?_
    rintro e w' ⟨v, ps, h1, h2, h3⟩
    exact ⟨v, ps, h1, Lib.hid ⟨h2.1, ⟨h2.2.1.os, h2.2.1.tape, h2.2.1.output, h2.2.1.size, h2.2.1.block⟩, h2.2.2⟩, Lib.hid h3⟩)
  have q1 : b1 ≠ zb := (hS _ hs1).2
  have l1 := (hS _ hs1).1
  have z0 := hz.cell 0
  have z1 := hz.cell 1
  have fz0 := hz.frozen 0
  have fz1 := hz.frozen 1
  have HZ := Lib.hid hz
  have lz := hz.lt
  simp at z0 z1
  have e0 : ((ys.length : Int) == 0) = false := beq_no (by omega)
  obtain ⟨P, hP⟩ : ∃ P, P = nv xs * nv ys := ⟨_, rfl⟩
  rw [← hP] at HM ⊢
  clear hP hr1 hr' hS hS' hX hY hG hz h0 hk
  go_enter Tryz.func163, Tryz.ntmps163
  go_wp2
  rw [show Op.load 187 (.tmp 17) = ldAs 187 (.tmp 17) from rfl]
  go_region_held3 (fun W => W.cell? ⟨b1, o1 + 1, none⟩ = some (.slice A1 xs.length k1)) (first | exact c11 | exact cell_st q1 c11 _)
    ((go_at_call 167; (with_reducible refine HM.out.mono ?_); rintro e w' ⟨v, ps, rfl, hN, hp⟩; have hb := hN.out.2.1; have fz1 := frz_up hb z1 fz1; have fz0 := frz_up hb z0 fz0; have z0 := cell_up hb z0; have z1 := cell_up hb z1; have c11 := cell_up hb c11; have c10 := cell_up hb c10; have lw := hb.size; obtain ⟨Av, cv, rfl, hh⟩ := id hN.out.1; clear hh hb))
  all_goals
    go_wp2
    go_end0
    have hzn : ∀ k, Nw w w' k → k ≠ zb := fun k hk => by have h1 := hk.1; omega
    have hst := ((Still.refl (Nw w w') w').set (p := ⟨zb, 1, none⟩) hzn (.slice Av ps.length cv)).set (p := ⟨zb, 0, none⟩) hzn (.bool n1)
    exact ⟨rfl, .slice Av ps.length cv, ps, ((HZ.out.below hN.out.2.1 lz).set 1 _).set 0 _, (hN.out.1.keep hst).mono (fun k hk => ⟨⟨hk.1, by simpa [World.setCell] using hk.2⟩, hzn k hk⟩), hN.out.2.2.1, hN.out.2.2.2, hp.out,
      ((But.of_below (T := fun k => k = zb) hN.out.2.1).set (p := ⟨zb, 1, none⟩) rfl _).set (p := ⟨zb, 0, none⟩) rfl _⟩
end Go.Proofs.YtloloifngbmibaaGreatDoor
set_option linter.unusedVariables false
set_option maxRecDepth 4000
namespace Go.Proofs.YtloloifngbmibaaGreatDoor
open Go.RowKit

theorem pw_pos (n : Nat) : (0 : Int) < 18446744073709551616 ^ n := by
  induction n with
  | zero => decide
  | succ n ih => rw [Int.pow_succ]; omega
theorem pw_le {n m : Nat} (h : n ≤ m) : (18446744073709551616 : Int) ^ n ≤ 18446744073709551616 ^ m := by
  obtain ⟨k, rfl⟩ := Nat.exists_eq_add_of_le h
  clear h
  induction k with
  | zero => exact Int.le_refl _
  | succ k ih =>
    rw [← Nat.add_assoc, Int.pow_succ]
    have := pw_pos (n + k)
    omega
theorem nv_lt : ∀ {xs : List Int}, WL xs → nv xs < 18446744073709551616 ^ xs.length
  | [], _ => by simp [nv]
  | x :: xs, h => by
    have h1 := (WL.cons.1 h).1
    have h2 := nv_lt (WL.cons.1 h).2
    simp only [nv, List.length_cons, Int.pow_succ]
    omega
theorem nv_ge : ∀ {xs : List Int}, WL xs → Nrm xs → ∀ n, xs.length = n + 1 → 18446744073709551616 ^ n ≤ nv xs
  | [], _, _, _, h => by simp at h
  | [x], hw, hn, n, h => by
    have h1 := (WL.cons.1 hw).1
    have hx : ¬ x = 0 := hn
    have : n = 0 := by simpa using h.symm
    subst this
    simp [nv]
    omega
  | x :: y :: ys, hw, hn, n, h => by
    have h1 := (WL.cons.1 hw).1
    obtain ⟨m, rfl⟩ : ∃ m, n = m + 1 := ⟨n - 1, by simp at h; omega⟩
    have ih := nv_ge (xs := y :: ys) (WL.cons.1 hw).2 hn m (by simpa using h)
    have e : nv (x :: y :: ys) = x + 18446744073709551616 * nv (y :: ys) := rfl
    rw [e, Int.pow_succ]
    omega
theorem len_le {xs : List Int} {n : Nat} (hw : WL xs) (hn : Nrm xs) (h : nv xs < 18446744073709551616 ^ n) : xs.length ≤ n := by
  rcases Nat.lt_or_ge n xs.length with hlt | hge
  · obtain ⟨m, hm⟩ : ∃ m, xs.length = m + 1 := ⟨xs.length - 1, by omega⟩
    have h1 := nv_ge hw hn m hm
    have h2 : (18446744073709551616 : Int) ^ n ≤ 18446744073709551616 ^ m := pw_le (by omega)
    omega
  · exact hge
theorem mul_len {xs ys ps : List Int} (hX : WL xs) (hY : WL ys) (hx : xs.length ≤ 30) (hy : ys.length ≤ 30) (hw : WL ps) (hn : Nrm ps) (h : nv ps = nv xs * nv ys) : ps.length ≤ 60 := by
  refine len_le hw hn ?_
  have h1 := nv_lt hX
  have h2 := nv_lt hY
  have h3 := nv_nonneg hX
  have h4 := nv_nonneg hY
  have e1 : (18446744073709551616 : Int) ^ xs.length ≤ 18446744073709551616 ^ 30 := pw_le hx
  have e2 : (18446744073709551616 : Int) ^ ys.length ≤ 18446744073709551616 ^ 30 := pw_le hy
  have h5 : nv xs * nv ys ≤ nv xs * 18446744073709551616 ^ 30 := Int.mul_le_mul_of_nonneg_left (by omega) h3
  have h6 : nv xs * 18446744073709551616 ^ 30 < 18446744073709551616 ^ 30 * 18446744073709551616 ^ 30 := Int.mul_lt_mul_of_pos_right (by omega) (by decide)
  rw [h, show (60 : Nat) = 30 + 30 from rfl, Int.pow_add]
  omega

/-- A rational number in a block of its own. -/
structure RatV (W : World) (S : Nat → Prop) (b : Nat) (neg : Bool) (xs ds : List Int) : Prop where
  bk : ∃ va vb, Blk W b 292 #[.bool neg, va, .bool false, vb] ∧ SlV W S .u64 va xs ∧ SlV W S .u64 vb ds
  own : S b
  lt : ∀ k, S k → k < W.heap.size
theorem RatV.still {W W' : World} {S : Nat → Prop} {b : Nat} {neg : Bool} {xs ds : List Int} (h : RatV W S b neg xs ds) (hk : Still S W W') (hs : W.heap.size ≤ W'.heap.size) : RatV W' S b neg xs ds := by
  obtain ⟨⟨va, vb, h1, h2, h3⟩, ho, hl⟩ := h
  exact ⟨⟨va, vb, h1.keep (hk b ho), h2.keep hk, h3.keep hk⟩, ho, fun k hk => Nat.lt_of_lt_of_le (hl k hk) hs⟩
theorem RatV.up {W W' : World} {S : Nat → Prop} {b : Nat} {neg : Bool} {xs ds : List Int} (h : RatV W S b neg xs ds) (hb : Below W.heap.size W W') : RatV W' S b neg xs ds :=
  h.still (still_below hb h.lt) hb.size
theorem RatV.num {W : World} {S : Nat → Prop} {b : Nat} {neg : Bool} {xs ds : List Int} (h : RatV W S b neg xs ds) : BigV W S b 0 neg xs := by
  obtain ⟨⟨va, vb, h1, h2, h3⟩, ho, hl⟩ := h
  exact ⟨va, ho, by rw [h1.cell]; rfl, by rw [h1.cell]; rfl, h2⟩
theorem RatV.den {W : World} {S : Nat → Prop} {b : Nat} {neg : Bool} {xs ds : List Int} (h : RatV W S b neg xs ds) : BigV W S b 2 false ds := by
  obtain ⟨⟨va, vb, h1, h2, h3⟩, ho, hl⟩ := h
  exact ⟨vb, ho, by rw [h1.cell]; rfl, by rw [h1.cell]; rfl, h3⟩

theorem ScaleOut.but {zb : Nat} {neg : Bool} {p : Int} {w w' : World} (h : ScaleOut zb neg p w w') : But (fun k => k = zb) w w' := by
  obtain ⟨_, _, _, _, _, _, _, h⟩ := h
  exact h
/-- What Rat.Cmp tells. -/
def RatCmp (n1 : Bool) (x1 d1 : Int) (n2 : Bool) (x2 d2 : Int) (C : Int) : Prop :=
  ∃ ps qs, C = cmpB n1 ps n2 qs ∧ WL ps ∧ WL qs ∧ Nrm ps ∧ Nrm qs ∧ nv ps = x1 * d2 ∧ nv qs = x2 * d1

set_option maxHeartbeats 2000000 in
theorem ratCmp_any (S S' : Nat → Prop) (b1 b2 : Nat) (n1 n2 : Bool) (xs ds ys es : List Int) (hn1 : xs.length ≤ 30) (hn2 : ds.length ≤ 30) (hn3 : ys.length ≤ 30) (hn4 : es.length ≤ 30) (hd : 0 < ds.length) (he : 0 < es.length) (hX : WL xs) (hD : WL ds) (hY : WL ys) (hE : WL es) (w : World)
    (hx : RatV w S b1 n1 xs ds) (hy : RatV w S' b2 n2 ys es) (hG : w.cell? ⟨2, 0, none⟩ = some (.int .i64 40)) :
    Calls Tryz.prog 154 #[.pointer (some ⟨b1, 0, none⟩), .pointer (some ⟨b2, 0, none⟩)] w fun e w' => ∃ C, e = .returned (.int .i64 C) ∧ RatCmp n1 (nv xs) (nv ds) n2 (nv ys) (nv es) C ∧ Below w.heap.size w w' := by
  have HX := Lib.hid hx
  have HY := Lib.hid hy
  have HG := Lib.hid hG
  have HW := Lib.hid (show WL xs ∧ WL ds ∧ WL ys ∧ WL es from ⟨hX, hD, hY, hE⟩)
  have lg := World.block_lt_of_cell? w _ hG
  clear hx hy hG hX hD hY hE
  go_enter_defers Tryz.func154, Tryz.ntmps154
  go_upto_region 4 with (go_at_call 161; refine (getStack_any _).mono ?_; rintro e w' ⟨rfl, rfl⟩)
  obtain ⟨W0, hW0⟩ : ∃ W0, W0 = (((w.alloc (.cells #[.bool false, .slice none 0 0] 189)).alloc (.cells #[.bool false, .slice none 0 0] 189)).alloc (.cells #[.pointer none] 302)) := ⟨_, rfl⟩
  obtain ⟨za, hza⟩ : ∃ za, za = w.heap.size := ⟨_, rfl⟩
  have B0 : Below w.heap.size w W0 := by rw [hW0]; exact below_al (below_al (below_al (Below.refl _ _) _) _) _
  have KA : Blk W0 za 189 #[.bool false, .slice none 0 0] := by rw [hW0, hza]; exact ((Blk.new w _ _).alloc _).alloc _
  have KB : Blk W0 (za + 1) 189 #[.bool false, .slice none 0 0] := by
    have h := (Blk.new (w.alloc (.cells #[.bool false, .slice none 0 0] 189)) 189 #[.bool false, .slice none 0 0]).alloc (.cells #[.pointer none] 302)
    rw [hW0, hza]
    simpa using h
  have KS : Blk W0 (za + 1 + 1) 302 #[.pointer none] := by
    have h := Blk.new ((w.alloc (.cells #[.bool false, .slice none 0 0] 189)).alloc (.cells #[.bool false, .slice none 0 0] 189)) 302 #[.pointer none]
    rw [hW0, hza]
    simpa using h
  rw [← hW0, ← hza]
  clear hW0
  have X0 := HX.out.up B0
  have Y0 := HY.out.up B0
  have SX : ∀ k, S k → k < za := fun k hk => by rw [hza]; exact HX.out.lt k hk
  have SY : ∀ k, S' k → k < za := fun k hk => by rw [hza]; exact HY.out.lt k hk
  have lb1 := SX _ HX.out.own
  have lb2 := SY _ HY.out.own
  have hs0 := KS.lt
  have g0 := (B0.cell (p := ⟨2, 0, none⟩) lg).trans HG.out
  obtain ⟨⟨vx, dx, kx, sx, dsx⟩, _, _⟩ := id X0
  obtain ⟨⟨vy, dy, ky, sy, dsy⟩, _, _⟩ := id Y0
  obtain ⟨Ax, cx, rfl, _, rdx⟩ := dsx
  obtain ⟨Ay, cy, rfl, _, rdy⟩ := dsy
  have c1 := kx.cell 3
  have c2 := ky.cell 3
  simp at c1 c2
  have HS1 := Lib.hid (scaleDenom_any S S' za b1 0 (.pointer (some ⟨za + 1 + 1, 0, none⟩)) rfl Ay cy n1 xs es (by omega) (by omega) (.inl (by omega)) he HW.out.1 HW.out.2.2.2 W0.drew KA.drew X0.num rdy (fun k hk => ⟨Nat.lt_trans (SX k hk) KA.lt, by have := SX k hk; omega⟩) (fun k hk => Nat.lt_trans (SY k hk) KA.lt) g0)
  have HS2 : Hid (∀ w1, But (fun k => k = za) W0.drew w1 → Calls Tryz.prog 163 #[.pointer (some ⟨za + 1, 0, none⟩), .pointer (some ⟨za + 1 + 1, 0, none⟩), .pointer (some ⟨b2, 0, none⟩), .slice Ax ds.length cx] w1.drew fun e w' => e = .returned (.tuple #[]) ∧ ScaleOut (za + 1) n2 (nv ys * nv ds) w1.drew w') := Lib.hid fun w1 hb => by
    have stX : Still S W0 w1 := fun k hk => hb.block k (Nat.lt_trans (SX k hk) KA.lt) (by have := SX k hk; omega)
    have stY : Still S' W0 w1 := fun k hk => hb.block k (Nat.lt_trans (SY k hk) KA.lt) (by have := SY k hk; omega)
    have hsz := hb.size
    have kb := KB.keep (hb.block (za + 1) KB.lt (by omega))
    have gg := (World.cell?_of_block (a := ⟨2, 0, none⟩) (hb.block 2 (Nat.lt_of_lt_of_le lg B0.size) (by rw [hza]; omega))).trans g0
    exact scaleDenom_any S' S (za + 1) b2 0 (.pointer (some ⟨za + 1 + 1, 0, none⟩)) rfl Ax cx n2 ys ds (by omega) (by omega) (.inl (by omega)) hd HW.out.2.2.1 HW.out.2.1 w1.drew kb (Y0.still stY hsz).num (rdx.keep stX) (fun k hk => ⟨kb.lt |> Nat.lt_trans (by have := SY k hk; omega), by have := SY k hk; omega⟩) (fun k hk => kb.lt |> Nat.lt_trans (by have := SX k hk; omega)) gg
  have c1' : Hid (∀ w1, But (fun k => k = za) W0.drew w1 → w1.cell? ⟨b1, 3, none⟩ = some (.slice Ax ds.length cx)) := Lib.hid fun w1 hb => (World.cell?_of_block (a := ⟨b1, 3, none⟩) (hb.block b1 (Nat.lt_trans lb1 KA.lt) (by omega))).trans c1
  have c2' : Hid (∀ w1, But (fun k => k = za) W0.drew w1 → w1.cell? ⟨b2, 3, none⟩ = some (.slice Ay es.length cy)) := Lib.hid fun w1 hb => (World.cell?_of_block (a := ⟨b2, 3, none⟩) (hb.block b2 (Nat.lt_trans lb2 KA.lt) (by omega))).trans c2
  have HKA := Lib.hid KA
  have HKB := Lib.hid KB
  have HKS := Lib.hid KS
  have HB0 := Lib.hid B0
  have HZA := Lib.hid hza
  clear kx ky sx sy rdx rdy KA KB KS B0 X0 Y0 SX SY hza HX HY HG g0
  go_region_held3 (fun W => W.cell? ⟨b2, 3, none⟩ = some (.slice Ay es.length cy)) (first | exact c2 | exact True.intro)
    ((go_at_call 163; (with_reducible refine HS1.out.mono ?_); rintro e w1 ⟨rfl, o1⟩; have O1 := Lib.hid o1; clear o1; have c2 := c2'.out w1 (ScaleOut.but O1.out)))
  have HT1 := Lib.hid (ScaleOut.but O1.out)
  have c1 := c1'.out _ HT1.out
  go_wp2_with fail
  go_region_held3 (fun W => W.cell? ⟨b1, 3, none⟩ = some (.slice Ax ds.length cx)) (first | exact c1 | exact True.intro)
    ((go_at_call 163; (with_reducible refine (HS2.out w1 HT1.out).mono ?_); rintro e w2 ⟨rfl, o2⟩; have O2 := Lib.hid o2; clear o2; have c1 := (World.cell?_of_block (a := ⟨b1, 3, none⟩) ((ScaleOut.but O2.out).block b1 (Nat.lt_of_lt_of_le (Nat.lt_trans lb1 HKA.out.lt) HT1.out.size) (Nat.ne_of_lt (Nat.lt_succ_of_lt lb1)))).trans c1))
  obtain ⟨va, ps, ka, sa, wp, np, ep, hba⟩ := O1.out
  obtain ⟨vb, qs, kb, sb, wq, nq, eq, hbb⟩ := O2.out
  have lA : za + 1 + 1 < w1.heap.size := Nat.lt_of_lt_of_le hs0 hba.size
  have ka2 := ka.keep (hbb.block za (Nat.lt_trans (by omega) lA) (by omega))
  have sa2 := sa.keep (hbb.still (fun k hk => ⟨hk.1.2, by have h1 : W0.heap.size ≤ k := hk.1.1; omega⟩))
  have ks2 := (HKS.out.keep (hba.block (za + 1 + 1) hs0 (by omega))).keep (hbb.block (za + 1 + 1) lA (by omega))
  have HCP := Lib.hid (intCmp_any (fun k => k = za ∨ (Nw W0.drew w1 k ∧ k ≠ za)) (fun k => k = za + 1 ∨ (Nw w1.drew w2 k ∧ k ≠ za + 1)) za 0 (za + 1) 0 n1 n2 ps qs (by have := mul_len HW.out.1 HW.out.2.2.2 hn1 hn4 wp np ep; omega) (by have := mul_len HW.out.2.2.1 HW.out.2.1 hn3 hn2 wq nq eq; omega) w2 _ _ ka2 _ _ kb (by omega) (BigV.of_blk ka2 (.inl rfl) (sa2.mono (fun k hk => .inr hk))) (BigV.of_blk kb (.inl rfl) (sb.mono (fun k hk => .inr hk))))
  have HR := Lib.hid (show RatCmp n1 (nv xs) (nv ds) n2 (nv ys) (nv es) (cmpB n1 ps n2 qs) from ⟨ps, qs, rfl, wp, wq, np, nq, ep, eq⟩)
  have HBL : Hid (Below w.heap.size w w2) := Lib.hid (HB0.out.trans ((((But.undrew hba).mono (T' := fun k => k = za ∨ k = za + 1) (fun k hk => .inl hk)).trans ((But.undrew hbb).mono (fun k hk => .inr hk))).below HB0.out.size (fun k hk => by rw [← HZA.out]; rcases hk with rfl | rfl <;> omega)))
  have cs := ks2.cell 0
  simp at cs
  obtain ⟨C, hC⟩ : ∃ C, C = cmpB n1 ps n2 qs := ⟨_, rfl⟩
  rw [← hC] at HCP HR
  clear hC ka kb sa sb wp wq np nq ep eq hba hbb ka2 sa2 HS1 HS2 c1' c2' O1 O2
  go_wp2_with fail
  refine HCP.out.mono ?_
  rintro e w3 ⟨rfl, n, rfl⟩
  go_wp2
  refine leaves_cons (f := 162) (args := #[.pointer (some ⟨za + 1 + 1, 0, none⟩)]) (by simp) (by simp [go_sem]) ?_
  refine (free_def (za + 1 + 1) .returning _ ?_).mono ?_
  · exact cs
  rintro e u' w'' ⟨rfl, rfl, rfl⟩
  exact ⟨_, results_tmp rfl _ _ _, C, rfl, HR.out, below_drewN' HBL.out _⟩
end Go.Proofs.YtloloifngbmibaaGreatDoor
set_option linter.unusedVariables false
set_option maxRecDepth 4000
namespace Go.Proofs.YtloloifngbmibaaGreatDoor
open Go.RowKit

theorem make_over (A : Option Addr) (m c n : Nat) (h1 : 2 ≤ n) (h2 : n ≤ 4294967296) (hc : c < n) (w : World) :
    Calls Tryz.prog 134 #[.slice A m c, .int .i64 n] w fun e w' => e = .returned (.slice (some ⟨w.heap.size, 0, none⟩) n (n + 4)) ∧ w.alloc (.cells (madeCells #[.int .u64 0] (n + 4)) 236) = w' := by
  obtain ⟨i0, hi, hz0, hz1, hz2⟩ := info_parts info_word
  have hmk : ∀ w, (Instr.makeSlice 187 (.int .i64 (n : Int)) (.int .i64 ((n : Int) + 4))).run Tryz.prog w = .ok (.slice (some ⟨w.heap.size, 0, none⟩) n (n + 4)) (w.alloc (.cells (madeCells #[.int .u64 0] (n + 4)) 236)) := fun w => by
    have h := run_make (P := Tryz.prog) w 187 236 i0 (.int .u64 0) Tryz.underlying187 hi hz0 .i64 .i64 (n : Int) ((n : Int) + 4) (by omega) (by omega) (by rw [hz2]; omega) (by omega)
    rw [hz1] at h
    have e : ((n : Int) + 4).toNat = n + 4 := by omega
    simpa [e, Value.cells] using h
  have e1 := dec_no (show ¬ (n : Int) ≤ (c : Int) by omega)
  go_enter Tryz.func134, Tryz.ntmps134
  go_wp2
  go_ret
  exact ⟨rfl, rfl⟩

theorem and63 (s : Nat) (hs : s < 18446744073709551616) : bits .and .u64 (s : Int) 63 = ((s % 64 : Nat) : Int) := by
  have h := bits_and_u64_nat s 63 hs (by decide)
  rw [show s &&& 63 = s % 64 from Nat.and_two_pow_sub_one_eq_mod s 6] at h
  exact h

theorem lsh1VU_any (g o cz xb xo cx x s : Nat) (hs0 : 0 < s) (hs1 : s < 64) (hx : x < 18446744073709551616) (w : World) (u : Value) (hc : w.cell? ⟨xb, xo, none⟩ = some (.int .u64 x)) (hz : w.cell? ⟨g, o, none⟩ = some u) (fz : w.frozen? ⟨g, o, none⟩ = false) (hgl : g < w.heap.size) :
    Calls Tryz.prog 213 #[.slice (some ⟨g, o, none⟩) 1 cz, .slice (some ⟨xb, xo, none⟩) 1 cx, .int .u64 s] w fun e w' => e = .returned (.int .u64 ((x / 2 ^ (64 - s) : Nat) : Int)) ∧ w' = w.setCell ⟨g, o, none⟩ (.int .u64 ((x * 2 ^ s % 18446744073709551616 : Nat) : Int)) := by
  have e1 : ((s : Int) == 0) = false := beq_no (by omega)
  have f1 : bits .and .u64 (s : Int) 63 = (s : Int) := by rw [and63 s (by omega), Nat.mod_eq_of_lt hs1]
  obtain ⟨k, hk⟩ : ∃ k, k = 64 - s := ⟨_, rfl⟩
  have f2 : IntKind.u64.wrap (64 - (s : Int)) = (k : Int) := wrap_k (by omega) hk
  have f3 : bits .and .u64 (k : Int) 63 = (k : Int) := by rw [and63 k (by omega), Nat.mod_eq_of_lt (by omega)]
  have m1 : min s 64 = s := by omega
  have m2 : min k 64 = k := by omega
  rw [← hk]
  obtain ⟨a, ha⟩ : ∃ a, a = x / 2 ^ k := ⟨_, rfl⟩
  have f4 : (x : Int) / 2 ^ k = (a : Int) := by rw [ha]; simp
  obtain ⟨b, hb⟩ : ∃ b, b = x * 2 ^ s % 18446744073709551616 := ⟨_, rfl⟩
  have f5 : IntKind.u64.wrap ((x : Int) * 2 ^ s) = (b : Int) := by
    have e : (x : Int) * 2 ^ s = ((x * 2 ^ s : Nat) : Int) := by simp
    rw [e, hb]
    exact wrap_mod _
  rw [← ha, ← hb]
  clear hk ha hb
  go_enter Tryz.func213, Tryz.ntmps213
  go_wp2
  go_loop [8] (fun i => i = .int .i64 0) (fun _ => 0)
  case atStart => rfl
  case round =>
    subst hrel
    go_wp2
    go_ret
    exact ⟨rfl, rfl⟩
theorem lsh1VU_top (g o cz xb xo cx x s : Nat) (hs0 : 0 < s) (hs1 : s < 64) (hx : x < 18446744073709551616) (w : World) (u : Value) (hc : w.cell? ⟨xb, xo, none⟩ = some (.int .u64 x)) (hz : w.cell? ⟨g, o, none⟩ = some u) (fz : w.frozen? ⟨g, o, none⟩ = false) (hgl : g < w.heap.size) :
    Calls Tryz.prog 195 #[.slice (some ⟨g, o, none⟩) 1 cz, .slice (some ⟨xb, xo, none⟩) 1 cx, .int .u64 s] w fun e w' => e = .returned (.int .u64 ((x / 2 ^ (64 - s) : Nat) : Int)) ∧ w' = w.setCell ⟨g, o, none⟩ (.int .u64 ((x * 2 ^ s % 18446744073709551616 : Nat) : Int)) := by
  have H := Lib.hid (lsh1VU_any g o cz xb xo cx x s hs0 hs1 hx w u hc hz fz hgl)
  obtain ⟨a, ha⟩ : ∃ a, a = x / 2 ^ (64 - s) := ⟨_, rfl⟩
  obtain ⟨b, hb⟩ : ∃ b, b = x * 2 ^ s % 18446744073709551616 := ⟨_, rfl⟩
  rw [← ha, ← hb] at H ⊢
  clear ha hb hc hz fz
  go_enter Tryz.func195, Tryz.ntmps195
  go_wp2_with fail
  refine H.out.mono ?_
  rintro e w' ⟨rfl, rfl⟩
  go_wp2
  go_ret
  exact ⟨rfl, rfl⟩
end Go.Proofs.YtloloifngbmibaaGreatDoor
