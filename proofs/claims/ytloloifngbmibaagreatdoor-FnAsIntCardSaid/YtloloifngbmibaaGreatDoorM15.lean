/- Walks of Lsh by nothing, of setWord in place, of norm for zero. norm of a fraction in its lowest terms; walks of Rat.SetInt, SetInt64. -/
import Derived.Test.YtloloifngbmibaaGreatDoorM14
set_option linter.unusedVariables false
set_option linter.unusedSimpArgs false
set_option maxRecDepth 4000
namespace Go.Proofs.YtloloifngbmibaaGreatDoor
open Go.RowKit

theorem same_self (g o n c : Nat) (h : 0 < n) (w : World) :
    Calls Tryz.prog 194 #[.slice (some ⟨g, o, none⟩) n c, .slice (some ⟨g, o, none⟩) n c] w fun e w' => e = .returned (.bool true) ∧ ∃ m, w' = w.drewN m := by
  have e1 := dec_yes (show (0 : Int) < (n : Int) by omega)
  have heq : ∀ k, (binOp .eql 317 (.pointer (some ⟨g, o, none⟩)) (.pointer (some ⟨g, o, none⟩))).run Tryz.prog (w.drewN k) = .ok (.bool true) (w.drewN k) := fun k => by
    obtain ⟨i, hi, _⟩ := info_parts info_word
    exact run_eql_ptr_same _ ⟨g, o, none⟩ Tryz.underlying317 hi
  have heq0 := heq 0
  go_enter Tryz.func194, Tryz.ntmps194
  go_wp2
  go_quiet (fail)
  go_wp2
  go_ret
  exact ⟨rfl, _, rfl⟩

theorem same_nil (w : World) :
    Calls Tryz.prog 194 #[.slice none 0 0, .slice none 0 0] w fun e w' => e = .returned (.bool false) ∧ ∃ m, w' = w.drewN m := by
  have e0 : decide ((0 : Int) < 0) = false := rfl
  go_enter Tryz.func194, Tryz.ntmps194
  go_wp2
  go_quiet (fail)
  go_wp2
  go_ret
  exact ⟨rfl, _, rfl⟩

theorem lsh_same (g o n c : Nat) (h : 0 < n) (w : World) :
    Calls Tryz.prog 180 #[.slice (some ⟨g, o, none⟩) n c, .slice (some ⟨g, o, none⟩) n c, .int .u64 0] w fun e w' => e = .returned (.slice (some ⟨g, o, none⟩) n c) ∧ ∃ m, w.drewN m = w' := by
  have HS := Lib.hid (same_self g o n c h w)
  go_enter Tryz.func180, Tryz.ntmps180
  go_wp2_with (go_at_call 194; refine HS.out.mono ?_; rintro e w' ⟨rfl, m, rfl⟩)
  go_ret
  exact ⟨rfl, _, rfl⟩
theorem lsh_nil0 (w : World) :
    Calls Tryz.prog 180 #[.slice none 0 0, .slice none 0 0, .int .u64 0] w fun e w' => e = .returned (.slice none 0 0) ∧ ∃ m, w.drewN m = w' := by
  go_enter Tryz.func180, Tryz.ntmps180
  go_wp2_with (first | (go_at_call 194; refine (same_nil w).mono ?_; rintro e w' ⟨rfl, m, rfl⟩) | (go_at_call 172; refine (alias_nil none 0 0 _).mono ?_; rintro e w' ⟨rfl, m, rfl⟩) | (go_at_call 132; refine (set_nil0 _ _ _).mono ?_; rintro e w' ⟨rfl, rfl⟩))
  go_ret
  exact ⟨rfl, _, rfl⟩

/-- Lsh by nothing, in place. -/
theorem intLsh_id (b o : Nat) (neg : Bool) (A : Option Addr) (n c : Nat) (t : TypeId) (cs : Array Value) (w : World) (hb : Blk w b t cs) (c0 : w.cell? ⟨b, o, none⟩ = some (.bool neg)) (c1 : w.cell? ⟨b, o + 1, none⟩ = some (.slice A n c))
    (HL : Calls Tryz.prog 180 #[.slice A n c, .slice A n c, .int .u64 0] w.drew fun e w' => e = .returned (.slice A n c) ∧ ∃ m, w.drewN m = w') :
    Calls Tryz.prog 169 #[.pointer (some ⟨b, o, none⟩), .pointer (some ⟨b, o, none⟩), .int .u64 0] w fun e w' => e = .returned (.pointer (some ⟨b, o, none⟩)) ∧ Alk w' ((w.setCell ⟨b, o + 1, none⟩ (.slice A n c)).setCell ⟨b, o, none⟩ (.bool neg)) := by
  have HM := Lib.hid HL
  have f0 := hb.frozen o
  have f1 := hb.frozen (o + 1)
  have lb := hb.lt
  clear HL hb
  go_enter Tryz.func169, Tryz.ntmps169
  go_upto_region 1 with fail
  rw [show Op.load 187 (.tmp 10) = ldAs 187 (.tmp 10) from rfl, show Op.load 187 (.tmp 14) = ldAs 187 (.tmp 14) from rfl]
  go_region_held3 (fun _ => True) (exact True.intro)
    ((go_at_call 180; (with_reducible refine HM.out.mono ?_); rintro e w' ⟨rfl, m, rfl⟩))
  all_goals
    go_wp2
    go_ret
    exact ⟨rfl, rfl, rfl, rfl, rfl⟩

theorem make_in1 (g n c : Nat) (hc : 1 ≤ c) (w : World) :
    Calls Tryz.prog 134 #[.slice (some ⟨g, 0, none⟩) n c, .int .i64 1] w fun e w' => e = .returned (.slice (some ⟨g, 0, none⟩) 1 c) ∧ w = w' := by
  have e1 := dec_yes (show (1 : Int) ≤ (c : Int) by omega)
  go_enter Tryz.func134, Tryz.ntmps134
  go_wp2
  go_ret
  exact ⟨rfl, rfl⟩
/-- setWord into a slice that has room. -/
theorem setWord_in (g n c : Nat) (x : Int) (hx : ¬ x = 0) (hc : 1 ≤ c) (w : World) (u : Value) (hz : w.cell? ⟨g, 0, none⟩ = some u) (fz : w.frozen? ⟨g, 0, none⟩ = false) :
    Calls Tryz.prog 133 #[.slice (some ⟨g, 0, none⟩) n c, .int .u64 x] w fun e w' => e = .returned (.slice (some ⟨g, 0, none⟩) 1 c) ∧ w.setCell ⟨g, 0, none⟩ (.int .u64 x) = w' := by
  have hx0 := beq_no hx
  clear hx
  go_enter Tryz.func133, Tryz.ntmps133
  go_wp2_with (go_at_call 134; refine (make_in1 g n c hc _).mono ?_; rintro e w' ⟨rfl, rfl⟩)
  go_ret
  exact ⟨rfl, rfl⟩

/-- norm of a zero. -/
theorem norm_zero (rb g c : Nat) (an bn : Bool) (A : Option Addr) (ca : Nat) (hc : 1 ≤ c) (w : World) (hb : Blk w rb 292 #[.bool an, .slice A 0 ca, .bool bn, .slice (some ⟨g, 0, none⟩) 1 c]) (u : Value) (hz : w.cell? ⟨g, 0, none⟩ = some u) (fz : w.frozen? ⟨g, 0, none⟩ = false) (hne : g ≠ rb) :
    Calls Tryz.prog 170 #[.pointer (some ⟨rb, 0, none⟩)] w fun e w' => e = .returned (.pointer (some ⟨rb, 0, none⟩)) ∧ Alk w' (((w.setCell ⟨rb, 0, none⟩ (.bool false)).setCell ⟨g, 0, none⟩ (.int .u64 1)).setCell ⟨rb, 3, none⟩ (.slice (some ⟨g, 0, none⟩) 1 c)) := by
  have lb := hb.lt
  have c0 := hb.cell 0
  have c1 := hb.cell 1
  have c3 := hb.cell 3
  have f0 := hb.frozen 0
  have f3 := hb.frozen 3
  simp at c0 c1 c3
  have HSW := Lib.hid (setWord_in g 1 c 1 (by decide) hc (w.setCell ⟨rb, 0, none⟩ (.bool false)) u (cell_st hne hz _) (by rw [← fz]; exact World.frozen?_setCell _ _ _ _))
  clear hb
  go_enter_defers Tryz.func170, Tryz.ntmps170
  go_wp2_with (go_at_call 133; refine HSW.out.mono ?_; rintro e w' ⟨rfl, rfl⟩)
  exact ⟨_, results_tmp rfl _ _ _, rfl, rfl, rfl, rfl, rfl⟩
end Go.Proofs.YtloloifngbmibaaGreatDoor
set_option linter.unusedVariables false
set_option linter.unusedSimpArgs false
set_option maxRecDepth 4000
namespace Go.Proofs.YtloloifngbmibaaGreatDoor
open Go.RowKit

theorem one_word {xs : List Int} (h : xs.length = 1) (hw : WL xs) (hn : Nrm xs) : ∃ y : Nat, xs = [(y : Int)] ∧ 0 < y ∧ y < 18446744073709551616 := by
  match xs, h with
  | [x], _ =>
    have h1 := (WL.cons.1 hw).1
    have hx : ¬ x = 0 := hn
    exact ⟨x.toNat, by rw [show (x.toNat : Int) = x by omega], by omega, by omega⟩

theorem norm_coprime (S : Nat → Prop) (rb : Nat) (an bn : Bool) (xs ds : List Int) (h0 : 0 < xs.length) (hd : 0 < ds.length) (hx1 : xs.length ≤ 1000000) (hd1 : ds.length ≤ 1000000) (hX : WL xs) (hXn : Nrm xs) (hD : WL ds) (hDn : Nrm ds)
    (hone : xs.length = 1 ∨ ds.length = 1) (hg : Nat.gcd (nv xs).toNat (nv ds).toNat = 1)
    (va vb : Value) (w : World) (hb : Blk w rb 292 #[.bool an, va, .bool bn, vb]) (ha : SlV w S .u64 va xs) (hv : SlV w S .u64 vb ds) (hS : ∀ k, S k → k < w.heap.size ∧ k ≠ rb) :
    Calls Tryz.prog 170 #[.pointer (some ⟨rb, 0, none⟩)] w fun e w' => e = .returned (.pointer (some ⟨rb, 0, none⟩)) ∧ Blk w' rb 292 #[.bool an, va, .bool false, vb] ∧ But (fun k => k = rb) w w' := by
  refine norm_one S rb an bn xs ds h0 hd va vb w hb ha hv hS ?_
  intro zb W hz hr hsa hsd hzr hlt
  have BA : BigV W (fun k => k = rb ∨ S k) rb 0 false xs := ⟨va, .inl rfl, by rw [hr.cell]; rfl, by rw [hr.cell]; rfl, hsa.mono (fun k hk => .inr hk)⟩
  have BD : BigV W (fun k => k = rb ∨ S k) rb 2 false ds := ⟨vb, .inl rfl, by rw [hr.cell]; rfl, by rw [hr.cell]; rfl, hsd.mono (fun k hk => .inr hk)⟩
  have hl : ∀ k, (k = rb ∨ S k) → k < W.heap.size := fun k hk => by
    rcases hk with rfl | hk
    · exact hr.lt
    · exact hlt k hk
  unfold GcdOne
  by_cases hc : 0 ≤ ordL xs.reverse ds.reverse
  · have hd2 : ds.length = 1 := by
      rcases hone with h | h
      · by_cases h2 : ds.length = 1
        · exact h2
        · unfold ordL at hc
          simp at hc
          split at hc <;> first | omega | (split at hc <;> omega)
      · exact h
    obtain ⟨y, rfl, hy0, hy1⟩ := one_word hd2 hD hDn
    have h := lehmer_ge _ _ zb rb 0 rb 2 false false y xs hy0 hy1 h0 hx1 hX hXn hc W hz _ _ hr BA hl _ _ hr BD hl
    rw [show nv [(y : Int)] = (y : Int) by simp [nv]] at hg
    rw [show ((y : Int)).toNat = y by omega] at hg
    rw [hg] at h
    exact h
  · have hx2 : xs.length = 1 := by
      rcases hone with h | h
      · exact h
      · by_cases h2 : xs.length = 1
        · exact h2
        · unfold ordL at hc
          simp at hc
          split at hc <;> first | omega | (split at hc <;> omega)
    obtain ⟨y, rfl, hy0, hy1⟩ := one_word hx2 hX hXn
    have h := lehmer_lt _ _ zb rb 0 rb 2 false false y ds hy0 hy1 hd hd1 hD hDn (by simpa using hc) W hz _ _ hr BA hl _ _ hr BD hl
    rw [show nv [(y : Int)] = (y : Int) by simp [nv]] at hg
    rw [show ((y : Int)).toNat = y by omega, Nat.gcd_comm] at hg
    rw [hg] at h
    exact h

/-- An integer in a part of a block, set anew. -/
def PartOut (b o : Nat) (t : TypeId) (cs : Array Value) (neg : Bool) (xs : List Int) (w w' : World) : Prop :=
  ∃ v, Blk w' b t ((cs.setIfInBounds (o + 1) v).setIfInBounds o (.bool neg)) ∧ SlV w' (Nw w w') .u64 v xs ∧ But (fun k => k = b) w w'
theorem But.alk {T : Nat → Prop} {a b c : World} (h : But T a b) (hk : Alk c b) : But T a c :=
  ⟨hk.os.trans h.os, hk.tape.trans h.tape, hk.output.trans h.output, by rw [hk.heap]; exact h.size, fun k h1 h2 => by rw [hk.heap]; exact h.block k h1 h2⟩
theorem Rd.alk {w w' : World} {S : Nat → Prop} {A : Option Addr} {xs : List Value} (h : Rd w S A xs) (hk : Alk w' w) : Rd w' S A xs := h.keep (fun k _ => by rw [hk.heap])
theorem SlV.alk {w w' : World} {S : Nat → Prop} {k : IntKind} {v : Value} {xs : List Int} (h : SlV w S k v xs) (hk : Alk w' w) : SlV w' S k v xs := h.keep (fun k _ => by rw [hk.heap])

theorem setP_any (w : World) (S : Nat → Prop) (b o b1 o1 : Nat) (u neg : Bool) (xs : List Int) (h1 : xs.length ≤ 4294967296) (t : TypeId) (cs : Array Value) (hb : Blk w b t cs) (c0 : w.cell? ⟨b, o, none⟩ = some (.bool u)) (c1 : w.cell? ⟨b, o + 1, none⟩ = some (.slice none 0 0)) (t1 : TypeId) (cs1 : Array Value) (hb1 : Blk w b1 t1 cs1) (hne : b ≠ b1) (hx : BigV w S b1 o1 neg xs) :
    Calls Tryz.prog 114 #[.pointer (some ⟨b, o, none⟩), .pointer (some ⟨b1, o1, none⟩)] w fun e w' => e = .returned (.pointer (some ⟨b, o, none⟩)) ∧ PartOut b o t cs neg xs w w' := by
  obtain ⟨v1, hs1, c10, c11, A1, k1, rfl, hk1, hr1⟩ := hx
  by_cases hn : xs = []
  · subst hn
    refine (big_setO0 w b o b1 o1 u neg t cs hb c0 c1 A1 k1 t1 cs1 hb1 hne c10 c11).mono ?_
    rintro e w' ⟨rfl, ha⟩
    exact ⟨rfl, .slice none 0 0, ha.blk ((hb.set (o + 1) _).set o _), SlV.nil _ _ _, (((But.refl (fun k => k = b) w).set (p := ⟨b, o + 1, none⟩) rfl (.slice none 0 0)).set (p := ⟨b, o, none⟩) rfl (.bool neg)).alk ha⟩
  · have h0 : 0 < xs.length := by cases xs <;> simp_all
    refine (big_setO w S b o b1 o1 u neg xs h0 h1 t cs hb c0 c1 A1 k1 t1 cs1 hb1 hne c10 c11 hr1).mono ?_
    rintro e w' ⟨rfl, zs, ha⟩
    have hsz : ∀ va, ((w.setCell ⟨b, o + 1, none⟩ va).setCell ⟨b, o, none⟩ (.bool neg)).heap.size = w.heap.size := fun va => by simp [World.setCell]
    have hw : WB (((w.setCell ⟨b, o + 1, none⟩ (.slice (some ⟨w.heap.size, 0, none⟩) xs.length (xs.length + zs.length))).setCell ⟨b, o, none⟩ (.bool neg)).alloc (.cells (ints .u64 (xs ++ zs)).toArray 236)) w.heap.size (xs ++ zs) := by
      have h := Blk.new ((w.setCell ⟨b, o + 1, none⟩ (.slice (some ⟨w.heap.size, 0, none⟩) xs.length (xs.length + zs.length))).setCell ⟨b, o, none⟩ (.bool neg)) 236 (ints .u64 (xs ++ zs)).toArray
      rw [hsz] at h
      exact h
    have hlt := hw.lt
    exact ⟨rfl, .slice (some ⟨w.heap.size, 0, none⟩) xs.length (xs.length + zs.length), ha.blk (((hb.set (o + 1) _).set o _).alloc _),
      SlV.alk ⟨_, _, rfl, by omega, (WB.rd (o := 0) hw rfl).mono (fun k hk => by subst hk; exact ⟨Nat.le_refl _, by rw [ha.heap]; exact hlt⟩)⟩ ha,
      ((((But.refl (fun k => k = b) w).set (p := ⟨b, o + 1, none⟩) rfl _).set (p := ⟨b, o, none⟩) rfl (.bool neg)).trans (But.of_below (below_al (Below.refl _ _) _))).alk ha⟩

/-- Rat.SetInt into a new number. -/
theorem setInt_any (S : Nat → Prop) (rb b1 : Nat) (neg : Bool) (xs : List Int) (h1 : xs.length ≤ 4294967296) (w : World) (hr : Blk w rb 292 #[.bool false, .slice none 0 0, .bool false, .slice none 0 0]) (t1 : TypeId) (cs1 : Array Value) (hb1 : Blk w b1 t1 cs1) (hne : rb ≠ b1) (hx : BigV w S b1 0 neg xs) :
    Calls Tryz.prog 159 #[.pointer (some ⟨rb, 0, none⟩), .pointer (some ⟨b1, 0, none⟩)] w fun e w' => e = .returned (.pointer (some ⟨rb, 0, none⟩)) ∧ ∃ va vb, Blk w' rb 292 #[.bool neg, va, .bool false, vb] ∧ SlV w' (Nw w w') .u64 va xs ∧ SlV w' (Nw w w') .u64 vb [1] ∧ But (fun k => k = rb) w w' := by
  have lb := hr.lt
  have c0 := hr.cell 0
  have c1 := hr.cell 1
  simp at c0 c1
  have HSP := Lib.hid (setP_any w S rb 0 b1 0 false neg xs h1 _ _ hr c0 c1 t1 cs1 hb1 hne hx)
  clear hr hb1 c0 c1 hx h1
  go_enter Tryz.func159, Tryz.ntmps159
  go_wp2_with fail
  refine HSP.out.mono ?_
  rintro e w1 ⟨rfl, va, kb, sa, bt⟩
  obtain ⟨Aa, ca, rfl, la, ra⟩ := sa
  have HK := Lib.hid kb
  have c3 := kb.cell 3
  have f3 := kb.frozen 3
  simp at c3
  have lb1 := kb.lt
  clear kb
  have HSW := Lib.hid (setWord_nil1 1 (by decide) w1)
  go_wp2_with (go_at_call 133; refine HSW.out.mono ?_; rintro e w' ⟨rfl, rfl⟩)
  go_ret
  have hs1 : (w1.setCell ⟨rb, 3, none⟩ (.slice (some ⟨w1.heap.size, 0, none⟩) 1 1)).heap.size = w1.heap.size := by simp [World.setCell]
  refine ⟨rfl, .slice Aa xs.length ca, .slice (some ⟨w1.heap.size, 0, none⟩) 1 1, (HK.out.set 3 _).alloc _, ?_, ?_, ?_⟩
  · exact ⟨_, _, rfl, la, (ra.keep (((Still.refl _ w1).set (p := ⟨rb, 3, none⟩) (fun k hk => by have := hk.1; simp; omega) _).alloc (fun k hk => by rw [hs1]; exact hk.2) _)).mono (fun k hk => ⟨hk.1, by have := hk.2; simp [World.setCell]; omega⟩)⟩
  · have hw := Blk.new (w1.setCell ⟨rb, 3, none⟩ (.slice (some ⟨w1.heap.size, 0, none⟩) 1 1)) 236 #[.int .u64 1]
    rw [hs1] at hw
    exact ⟨_, _, rfl, by simp, (WB.rd (o := 0) (xs := [1]) (zs := []) (show WB _ w1.heap.size [1] from hw) rfl).mono (fun k hk => by subst hk; exact ⟨bt.size, by simp [World.setCell]⟩)⟩
  · exact (bt.set (p := ⟨rb, 3, none⟩) rfl _).trans (But.of_below (below_al (Below.refl _ _) _))

/-- A word put into a nil integer anywhere in a block. -/
theorem setUP (x : Int) (h0 : 0 ≤ x) (h1 : x ≤ 18446744073709551615) (w : World) (b o : Nat) (t : TypeId) (cs : Array Value) (hb : Blk w b t cs) (u0 : Value) (c0 : w.cell? ⟨b, o, none⟩ = some u0) (c1 : w.cell? ⟨b, o + 1, none⟩ = some (.slice none 0 0)) (neg : Bool) :
    (x = 0 → PartOut b o t cs neg (wordL x) w ((w.setCell ⟨b, o + 1, none⟩ (.slice none 0 0)).setCell ⟨b, o, none⟩ (.bool neg))) ∧
    (¬ x = 0 → PartOut b o t cs neg (wordL x) w (((w.setCell ⟨b, o + 1, none⟩ (.slice (some ⟨w.heap.size, 0, none⟩) 1 1)).setCell ⟨b, o, none⟩ (.bool neg)).alloc (.cells #[.int .u64 x] 236))) := by
  refine ⟨fun h => ?_, fun h => ?_⟩
  · subst h
    exact ⟨.slice none 0 0, (hb.set (o + 1) _).set o _, SlV.nil _ _ _, (((But.refl (fun k => k = b) w).set (p := ⟨b, o + 1, none⟩) rfl (.slice none 0 0)).set (p := ⟨b, o, none⟩) rfl (.bool neg))⟩
  · have hsz : ((w.setCell ⟨b, o + 1, none⟩ (.slice (some ⟨w.heap.size, 0, none⟩) 1 1)).setCell ⟨b, o, none⟩ (.bool neg)).heap.size = w.heap.size := by simp [World.setCell]
    have hw := Blk.new ((w.setCell ⟨b, o + 1, none⟩ (.slice (some ⟨w.heap.size, 0, none⟩) 1 1)).setCell ⟨b, o, none⟩ (.bool neg)) 236 #[.int .u64 x]
    rw [hsz] at hw
    have hlt := hw.lt
    rw [show wordL x = [x] by simp [wordL, h]]
    exact ⟨_, ((hb.set (o + 1) _).set o _).alloc _, ⟨_, _, rfl, by simp, (WB.rd (o := 0) (xs := [x]) (zs := []) (show WB _ w.heap.size [x] from hw) rfl).mono (fun k hk => by subst hk; exact ⟨Nat.le_refl _, hlt⟩)⟩,
      ((((But.refl (fun k => k = b) w).set (p := ⟨b, o + 1, none⟩) rfl _).set (p := ⟨b, o, none⟩) rfl (.bool neg)).trans (But.of_below (below_al (Below.refl _ _) _)))⟩

theorem setI64P (x : Int) (h0 : -9223372036854775808 ≤ x) (h1 : x ≤ 9223372036854775807) (w : World) (b o : Nat) (t : TypeId) (cs : Array Value) (hb : Blk w b t cs) (u0 : Value) (c0 : w.cell? ⟨b, o, none⟩ = some u0) (c1 : w.cell? ⟨b, o + 1, none⟩ = some (.slice none 0 0)) :
    Calls Tryz.prog 142 #[.pointer (some ⟨b, o, none⟩), .int .i64 x] w fun e w' => e = .returned (.pointer (some ⟨b, o, none⟩)) ∧ PartOut b o t cs (decide (x < 0)) (absW x) w w' := by
  have H := Lib.hid (setUP x.natAbs (by omega) (by omega) w b o t cs hb u0 c0 c1 (decide (x < 0)))
  have f0 := hb.frozen o
  have f1 := hb.frozen (o + 1)
  have lb := hb.lt
  clear hb
  by_cases hz : x = 0
  · subst hz
    have d0 : decide ((0 : Int) < 0) = false := rfl
    go_enter Tryz.func142, Tryz.ntmps142
    go_wp2_with (go_at_call 116; refine (setUint64_nil0 _).mono ?_; rintro e w' ⟨rfl, rfl⟩)
    go_ret
    exact ⟨rfl, H.out.1 rfl⟩
  · by_cases hlt : x < 0
    · have d0 := dec_yes hlt
      have hw : Hid (IntKind.u64.wrap (wrap64 (-x)) = -x) := Lib.hid (by simp only [IntKind.wrap_u64, wrap64]; omega)
      have HN := Lib.hid (fun W => setUint64_nil1 (-x) (by omega) (by omega) (by omega) W)
      have HX := Lib.hid (H.out.2 (by omega))
      rw [d0, show (x.natAbs : Int) = -x by omega] at HX
      have HA : Hid (wordL (-x) = absW x) := Lib.hid (by simp [wordL, absW, hz, show (x.natAbs : Int) = -x by omega])
      clear hz hlt h0 h1 H
      go_enter Tryz.func142, Tryz.ntmps142
      go_wp2_with (go_at_call 116; rw [hw.out]; refine (HN.out _).mono ?_; rintro e w' ⟨rfl, rfl⟩)
      go_ret
      exact ⟨rfl, by rw [d0, ← HA.out]; exact HX.out⟩
    · have d0 := dec_no hlt
      have HN := Lib.hid (fun W => setUint64_nil1 x hz (by omega) (by omega) W)
      have HX := Lib.hid (H.out.2 (by omega))
      rw [d0, show (x.natAbs : Int) = x by omega] at HX
      have HA : Hid (wordL x = absW x) := Lib.hid (by simp [wordL, absW, hz, show (x.natAbs : Int) = x by omega])
      have hw : IntKind.u64.wrap x = x := by rw [IntKind.wrap_u64]; omega
      clear hz hlt h0 h1 H
      go_enter Tryz.func142, Tryz.ntmps142
      go_wp2_with (go_at_call 116; refine (HN.out _).mono ?_; rintro e w' ⟨rfl, rfl⟩)
      go_ret
      exact ⟨rfl, by rw [d0, ← HA.out]; exact HX.out⟩

/-- Rat.SetInt64 into a new number. -/
theorem ratI64_any (x : Int) (h0 : -9223372036854775808 ≤ x) (h1 : x ≤ 9223372036854775807) (rb : Nat) (w : World) (hr : Blk w rb 292 #[.bool false, .slice none 0 0, .bool false, .slice none 0 0]) :
    Calls Tryz.prog 160 #[.pointer (some ⟨rb, 0, none⟩), .int .i64 x] w fun e w' => e = .returned (.pointer (some ⟨rb, 0, none⟩)) ∧ ∃ va vb, Blk w' rb 292 #[.bool (decide (x < 0)), va, .bool false, vb] ∧ SlV w' (Nw w w') .u64 va (absW x) ∧ SlV w' (Nw w w') .u64 vb [1] ∧ But (fun k => k = rb) w w' := by
  have lb := hr.lt
  have c0 := hr.cell 0
  have c1 := hr.cell 1
  simp at c0 c1
  have HSP := Lib.hid (setI64P x h0 h1 w rb 0 _ _ hr _ c0 c1)
  obtain ⟨neg, hneg⟩ : ∃ neg, neg = decide (x < 0) := ⟨_, rfl⟩
  obtain ⟨xs, hxs⟩ : ∃ xs, xs = absW x := ⟨_, rfl⟩
  rw [← hneg, ← hxs] at HSP ⊢
  clear hr c0 c1 h0 h1 hneg hxs
  go_enter Tryz.func160, Tryz.ntmps160
  go_wp2_with fail
  refine HSP.out.mono ?_
  rintro e w1 ⟨rfl, va, kb, sa, bt⟩
  obtain ⟨Aa, ca, rfl, la, ra⟩ := sa
  have HK := Lib.hid kb
  have c3 := kb.cell 3
  have f3 := kb.frozen 3
  simp at c3
  have lb1 := kb.lt
  clear kb
  have HSW := Lib.hid (setWord_nil1 1 (by decide) w1)
  go_wp2_with (go_at_call 133; refine HSW.out.mono ?_; rintro e w' ⟨rfl, rfl⟩)
  go_ret
  have hs1 : (w1.setCell ⟨rb, 3, none⟩ (.slice (some ⟨w1.heap.size, 0, none⟩) 1 1)).heap.size = w1.heap.size := by simp [World.setCell]
  refine ⟨rfl, .slice Aa xs.length ca, .slice (some ⟨w1.heap.size, 0, none⟩) 1 1, (HK.out.set 3 _).alloc _, ?_, ?_, ?_⟩
  · exact ⟨_, _, rfl, la, (ra.keep (((Still.refl _ w1).set (p := ⟨rb, 3, none⟩) (fun k hk => by have := hk.1; simp; omega) _).alloc (fun k hk => by rw [hs1]; exact hk.2) _)).mono (fun k hk => ⟨hk.1, by have := hk.2; simp [World.setCell]; omega⟩)⟩
  · have hw := Blk.new (w1.setCell ⟨rb, 3, none⟩ (.slice (some ⟨w1.heap.size, 0, none⟩) 1 1)) 236 #[.int .u64 1]
    rw [hs1] at hw
    exact ⟨_, _, rfl, by simp, (WB.rd (o := 0) (xs := [1]) (zs := []) (show WB _ w1.heap.size [1] from hw) rfl).mono (fun k hk => by subst hk; exact ⟨bt.size, by simp [World.setCell]⟩)⟩
  · exact (bt.set (p := ⟨rb, 3, none⟩) rfl _).trans (But.of_below (below_al (Below.refl _ _) _))
end Go.Proofs.YtloloifngbmibaaGreatDoor
