/- norm of a fraction in its lowest terms; walks of Rat.SetInt, SetInt64. Floats as fractions: the parts, what SetFloat64's pieces leave. -/
import Derived.Test.YtloloifngbmibaaGreatDoorM10
import Derived.Laws.FloatArith
set_option linter.unusedVariables false
set_option linter.unusedSimpArgs false
set_option maxRecDepth 4000
namespace Go.Proofs.YtloloifngbmibaaGreatDoor
open Go.RowKit

theorem one_word {xs : List Int} (h : xs.length = 1) (hw : WL xs) (hn : Nrm xs) : ∃ y : Nat, xs = [(y : Int)] ∧ 0 < y ∧ y < 18446744073709551616 := by
  match xs, h with
  | [x], _ =>
    have h1 := (WL.cons.1 hw).1
    have hx : ¬ x = 0 := hn
    exact ⟨x.toNat, by rw [show (x.toNat : Int) = x by omega], by omega, by omega⟩

theorem norm_coprime (S : Nat → Prop) (rb : Nat) (an bn : Bool) (xs ds : List Int) (h0 : 0 < xs.length) (hd : 0 < ds.length) (hx1 : xs.length ≤ 1000000) (hd1 : ds.length ≤ 1000000) (hX : WL xs) (hXn : Nrm xs) (hD : WL ds) (hDn : Nrm ds)
    (hone : xs.length = 1 ∨ ds.length = 1) (hg : Nat.gcd (nv xs).toNat (nv ds).toNat = 1)
    (va vb : Value) (w : World) (hb : Blk w rb 292 #[.bool an, va, .bool bn, vb]) (ha : SlV w S .u64 va xs) (hv : SlV w S .u64 vb ds) (hS : ∀ k, S k → k < w.heap.size ∧ k ≠ rb) :
    Calls Tryz.prog 170 #[.pointer (some ⟨rb, 0, none⟩)] w fun e w' => e = .returned (.pointer (some ⟨rb, 0, none⟩)) ∧ Blk w' rb 292 #[.bool an, va, .bool false, vb] ∧ But (fun k => k = rb) w w' := by
  refine norm_one S rb an bn xs ds h0 hd va vb w hb ha hv hS ?_
  intro zb W hz hr hsa hsd hzr hlt
  have BA : BigV W (fun k => k = rb ∨ S k) rb 0 false xs := ⟨va, .inl rfl, by rw [hr.cell]; rfl, by rw [hr.cell]; rfl, hsa.mono (fun k hk => .inr hk)⟩
  have BD : BigV W (fun k => k = rb ∨ S k) rb 2 false ds := ⟨vb, .inl rfl, by rw [hr.cell]; rfl, by rw [hr.cell]; rfl, hsd.mono (fun k hk => .inr hk)⟩
  have hl : ∀ k, (k = rb ∨ S k) → k < W.heap.size := fun k hk => by
    rcases hk with rfl | hk
    · exact hr.lt
    · exact hlt k hk
  unfold GcdOne
  by_cases hc : 0 ≤ ordL xs.reverse ds.reverse
  · have hd2 : ds.length = 1 := by
      rcases hone with h | h
      · by_cases h2 : ds.length = 1
        · exact h2
        · unfold ordL at hc
          simp at hc
          split at hc <;> first | omega | (split at hc <;> omega)
      · exact h
    obtain ⟨y, rfl, hy0, hy1⟩ := one_word hd2 hD hDn
    have h := lehmer_ge _ _ zb rb 0 rb 2 false false y xs hy0 hy1 h0 hx1 hX hXn hc W hz _ _ hr BA hl _ _ hr BD hl
    rw [show nv [(y : Int)] = (y : Int) by simp [nv]] at hg
    rw [show ((y : Int)).toNat = y by omega] at hg
    rw [hg] at h
    exact h
  · have hx2 : xs.length = 1 := by
      rcases hone with h | h
      · exact h
      · by_cases h2 : xs.length = 1
        · exact h2
        · unfold ordL at hc
          simp at hc
          split at hc <;> first | omega | (split at hc <;> omega)
    obtain ⟨y, rfl, hy0, hy1⟩ := one_word hx2 hX hXn
    have h := lehmer_lt _ _ zb rb 0 rb 2 false false y ds hy0 hy1 hd hd1 hD hDn (by simpa using hc) W hz _ _ hr BA hl _ _ hr BD hl
    rw [show nv [(y : Int)] = (y : Int) by simp [nv]] at hg
    rw [show ((y : Int)).toNat = y by omega, Nat.gcd_comm] at hg
    rw [hg] at h
    exact h

/-- An integer in a part of a block, set anew. -/
def PartOut (b o : Nat) (t : TypeId) (cs : Array Value) (neg : Bool) (xs : List Int) (w w' : World) : Prop :=
  ∃ v, Blk w' b t ((cs.setIfInBounds (o + 1) v).setIfInBounds o (.bool neg)) ∧ SlV w' (Nw w w') .u64 v xs ∧ But (fun k => k = b) w w'
theorem But.alk {T : Nat → Prop} {a b c : World} (h : But T a b) (hk : Alk c b) : But T a c :=
  ⟨hk.os.trans h.os, hk.tape.trans h.tape, hk.output.trans h.output, by rw [hk.heap]; exact h.size, fun k h1 h2 => by rw [hk.heap]; exact h.block k h1 h2⟩
theorem Rd.alk {w w' : World} {S : Nat → Prop} {A : Option Addr} {xs : List Value} (h : Rd w S A xs) (hk : Alk w' w) : Rd w' S A xs := h.keep (fun k _ => by rw [hk.heap])
theorem SlV.alk {w w' : World} {S : Nat → Prop} {k : IntKind} {v : Value} {xs : List Int} (h : SlV w S k v xs) (hk : Alk w' w) : SlV w' S k v xs := h.keep (fun k _ => by rw [hk.heap])

theorem setP_any (w : World) (S : Nat → Prop) (b o b1 o1 : Nat) (u neg : Bool) (xs : List Int) (h1 : xs.length ≤ 4294967296) (t : TypeId) (cs : Array Value) (hb : Blk w b t cs) (c0 : w.cell? ⟨b, o, none⟩ = some (.bool u)) (c1 : w.cell? ⟨b, o + 1, none⟩ = some (.slice none 0 0)) (t1 : TypeId) (cs1 : Array Value) (hb1 : Blk w b1 t1 cs1) (hne : b ≠ b1) (hx : BigV w S b1 o1 neg xs) :
    Calls Tryz.prog 114 #[.pointer (some ⟨b, o, none⟩), .pointer (some ⟨b1, o1, none⟩)] w fun e w' => e = .returned (.pointer (some ⟨b, o, none⟩)) ∧ PartOut b o t cs neg xs w w' := by
  obtain ⟨v1, hs1, c10, c11, A1, k1, rfl, hk1, hr1⟩ := hx
  by_cases hn : xs = []
  · subst hn
    refine (big_setO0 w b o b1 o1 u neg t cs hb c0 c1 A1 k1 t1 cs1 hb1 hne c10 c11).mono ?_
    rintro e w' ⟨rfl, ha⟩
    exact ⟨rfl, .slice none 0 0, ha.blk ((hb.set (o + 1) _).set o _), SlV.nil _ _ _, (((But.refl (fun k => k = b) w).set (p := ⟨b, o + 1, none⟩) rfl (.slice none 0 0)).set (p := ⟨b, o, none⟩) rfl (.bool neg)).alk ha⟩
  · have h0 : 0 < xs.length := by cases xs <;> simp_all
    refine (big_setO w S b o b1 o1 u neg xs h0 h1 t cs hb c0 c1 A1 k1 t1 cs1 hb1 hne c10 c11 hr1).mono ?_
    rintro e w' ⟨rfl, zs, ha⟩
    have hsz : ∀ va, ((w.setCell ⟨b, o + 1, none⟩ va).setCell ⟨b, o, none⟩ (.bool neg)).heap.size = w.heap.size := fun va => by simp [World.setCell]
    have hw : WB (((w.setCell ⟨b, o + 1, none⟩ (.slice (some ⟨w.heap.size, 0, none⟩) xs.length (xs.length + zs.length))).setCell ⟨b, o, none⟩ (.bool neg)).alloc (.cells (ints .u64 (xs ++ zs)).toArray 236)) w.heap.size (xs ++ zs) := by
      have h := Blk.new ((w.setCell ⟨b, o + 1, none⟩ (.slice (some ⟨w.heap.size, 0, none⟩) xs.length (xs.length + zs.length))).setCell ⟨b, o, none⟩ (.bool neg)) 236 (ints .u64 (xs ++ zs)).toArray
      rw [hsz] at h
      exact h
    have hlt := hw.lt
    exact ⟨rfl, .slice (some ⟨w.heap.size, 0, none⟩) xs.length (xs.length + zs.length), ha.blk (((hb.set (o + 1) _).set o _).alloc _),
      SlV.alk ⟨_, _, rfl, by omega, (WB.rd (o := 0) hw rfl).mono (fun k hk => by subst hk; exact ⟨Nat.le_refl _, by rw [ha.heap]; exact hlt⟩)⟩ ha,
      ((((But.refl (fun k => k = b) w).set (p := ⟨b, o + 1, none⟩) rfl _).set (p := ⟨b, o, none⟩) rfl (.bool neg)).trans (But.of_below (below_al (Below.refl _ _) _))).alk ha⟩

/-- Rat.SetInt into a new number. -/
theorem setInt_any (S : Nat → Prop) (rb b1 : Nat) (neg : Bool) (xs : List Int) (h1 : xs.length ≤ 4294967296) (w : World) (hr : Blk w rb 292 #[.bool false, .slice none 0 0, .bool false, .slice none 0 0]) (t1 : TypeId) (cs1 : Array Value) (hb1 : Blk w b1 t1 cs1) (hne : rb ≠ b1) (hx : BigV w S b1 0 neg xs) :
    Calls Tryz.prog 159 #[.pointer (some ⟨rb, 0, none⟩), .pointer (some ⟨b1, 0, none⟩)] w fun e w' => e = .returned (.pointer (some ⟨rb, 0, none⟩)) ∧ ∃ va vb, Blk w' rb 292 #[.bool neg, va, .bool false, vb] ∧ SlV w' (Nw w w') .u64 va xs ∧ SlV w' (Nw w w') .u64 vb [1] ∧ But (fun k => k = rb) w w' := by
  have lb := hr.lt
  have c0 := hr.cell 0
  have c1 := hr.cell 1
  simp at c0 c1
  have HSP := Lib.hid (setP_any w S rb 0 b1 0 false neg xs h1 _ _ hr c0 c1 t1 cs1 hb1 hne hx)
  clear hr hb1 c0 c1 hx h1
  go_enter Tryz.func159, Tryz.ntmps159
  go_wp2_with fail
  refine HSP.out.mono ?_
  rintro e w1 ⟨rfl, va, kb, sa, bt⟩
  obtain ⟨Aa, ca, rfl, la, ra⟩ := sa
  have HK := Lib.hid kb
  have c3 := kb.cell 3
  have f3 := kb.frozen 3
  simp at c3
  have lb1 := kb.lt
  clear kb
  have HSW := Lib.hid (setWord_nil1 1 (by decide) w1)
  go_wp2_with (go_at_call 133; refine HSW.out.mono ?_; rintro e w' ⟨rfl, rfl⟩)
  go_ret
  have hs1 : (w1.setCell ⟨rb, 3, none⟩ (.slice (some ⟨w1.heap.size, 0, none⟩) 1 1)).heap.size = w1.heap.size := by simp [World.setCell]
  refine ⟨rfl, .slice Aa xs.length ca, .slice (some ⟨w1.heap.size, 0, none⟩) 1 1, (HK.out.set 3 _).alloc _, ?_, ?_, ?_⟩
  · exact ⟨_, _, rfl, la, (ra.keep (((Still.refl _ w1).set (p := ⟨rb, 3, none⟩) (fun k hk => by have := hk.1; simp; omega) _).alloc (fun k hk => by rw [hs1]; exact hk.2) _)).mono (fun k hk => ⟨hk.1, by have := hk.2; simp [World.setCell]; omega⟩)⟩
  · have hw := Blk.new (w1.setCell ⟨rb, 3, none⟩ (.slice (some ⟨w1.heap.size, 0, none⟩) 1 1)) 236 #[.int .u64 1]
    rw [hs1] at hw
    exact ⟨_, _, rfl, by simp, (WB.rd (o := 0) (xs := [1]) (zs := []) (show WB _ w1.heap.size [1] from hw) rfl).mono (fun k hk => by subst hk; exact ⟨bt.size, by simp [World.setCell]⟩)⟩
  · exact (bt.set (p := ⟨rb, 3, none⟩) rfl _).trans (But.of_below (below_al (Below.refl _ _) _))

/-- A word put into a nil integer anywhere in a block. -/
theorem setUP (x : Int) (h0 : 0 ≤ x) (h1 : x ≤ 18446744073709551615) (w : World) (b o : Nat) (t : TypeId) (cs : Array Value) (hb : Blk w b t cs) (u0 : Value) (c0 : w.cell? ⟨b, o, none⟩ = some u0) (c1 : w.cell? ⟨b, o + 1, none⟩ = some (.slice none 0 0)) (neg : Bool) :
    (x = 0 → PartOut b o t cs neg (wordL x) w ((w.setCell ⟨b, o + 1, none⟩ (.slice none 0 0)).setCell ⟨b, o, none⟩ (.bool neg))) ∧
    (¬ x = 0 → PartOut b o t cs neg (wordL x) w (((w.setCell ⟨b, o + 1, none⟩ (.slice (some ⟨w.heap.size, 0, none⟩) 1 1)).setCell ⟨b, o, none⟩ (.bool neg)).alloc (.cells #[.int .u64 x] 236))) := by
  refine ⟨fun h => ?_, fun h => ?_⟩
  · subst h
    exact ⟨.slice none 0 0, (hb.set (o + 1) _).set o _, SlV.nil _ _ _, (((But.refl (fun k => k = b) w).set (p := ⟨b, o + 1, none⟩) rfl (.slice none 0 0)).set (p := ⟨b, o, none⟩) rfl (.bool neg))⟩
  · have hsz : ((w.setCell ⟨b, o + 1, none⟩ (.slice (some ⟨w.heap.size, 0, none⟩) 1 1)).setCell ⟨b, o, none⟩ (.bool neg)).heap.size = w.heap.size := by simp [World.setCell]
    have hw := Blk.new ((w.setCell ⟨b, o + 1, none⟩ (.slice (some ⟨w.heap.size, 0, none⟩) 1 1)).setCell ⟨b, o, none⟩ (.bool neg)) 236 #[.int .u64 x]
    rw [hsz] at hw
    have hlt := hw.lt
    rw [show wordL x = [x] by simp [wordL, h]]
    exact ⟨_, ((hb.set (o + 1) _).set o _).alloc _, ⟨_, _, rfl, by simp, (WB.rd (o := 0) (xs := [x]) (zs := []) (show WB _ w.heap.size [x] from hw) rfl).mono (fun k hk => by subst hk; exact ⟨Nat.le_refl _, hlt⟩)⟩,
      ((((But.refl (fun k => k = b) w).set (p := ⟨b, o + 1, none⟩) rfl _).set (p := ⟨b, o, none⟩) rfl (.bool neg)).trans (But.of_below (below_al (Below.refl _ _) _)))⟩

theorem setI64P (x : Int) (h0 : -9223372036854775808 ≤ x) (h1 : x ≤ 9223372036854775807) (w : World) (b o : Nat) (t : TypeId) (cs : Array Value) (hb : Blk w b t cs) (u0 : Value) (c0 : w.cell? ⟨b, o, none⟩ = some u0) (c1 : w.cell? ⟨b, o + 1, none⟩ = some (.slice none 0 0)) :
    Calls Tryz.prog 142 #[.pointer (some ⟨b, o, none⟩), .int .i64 x] w fun e w' => e = .returned (.pointer (some ⟨b, o, none⟩)) ∧ PartOut b o t cs (decide (x < 0)) (absW x) w w' := by
  have H := Lib.hid (setUP x.natAbs (by omega) (by omega) w b o t cs hb u0 c0 c1 (decide (x < 0)))
  have f0 := hb.frozen o
  have f1 := hb.frozen (o + 1)
  have lb := hb.lt
  clear hb
  by_cases hz : x = 0
  · subst hz
    have d0 : decide ((0 : Int) < 0) = false := rfl
    go_enter Tryz.func142, Tryz.ntmps142
    go_wp2_with (go_at_call 116; refine (setUint64_nil0 _).mono ?_; rintro e w' ⟨rfl, rfl⟩)
    go_ret
    exact ⟨rfl, H.out.1 rfl⟩
  · by_cases hlt : x < 0
    · have d0 := dec_yes hlt
      have hw : Hid (IntKind.u64.wrap (wrap64 (-x)) = -x) := Lib.hid (by simp only [IntKind.wrap_u64, wrap64]; omega)
      have HN := Lib.hid (fun W => setUint64_nil1 (-x) (by omega) (by omega) (by omega) W)
      have HX := Lib.hid (H.out.2 (by omega))
      rw [d0, show (x.natAbs : Int) = -x by omega] at HX
      have HA : Hid (wordL (-x) = absW x) := Lib.hid (by simp [wordL, absW, hz, show (x.natAbs : Int) = -x by omega])
      clear hz hlt h0 h1 H
      go_enter Tryz.func142, Tryz.ntmps142
      go_wp2_with (go_at_call 116; rw [hw.out]; refine (HN.out _).mono ?_; rintro e w' ⟨rfl, rfl⟩)
      go_ret
      exact ⟨rfl, by rw [d0, ← HA.out]; exact HX.out⟩
    · have d0 := dec_no hlt
      have HN := Lib.hid (fun W => setUint64_nil1 x hz (by omega) (by omega) W)
      have HX := Lib.hid (H.out.2 (by omega))
      rw [d0, show (x.natAbs : Int) = x by omega] at HX
      have HA : Hid (wordL x = absW x) := Lib.hid (by simp [wordL, absW, hz, show (x.natAbs : Int) = x by omega])
      have hw : IntKind.u64.wrap x = x := by rw [IntKind.wrap_u64]; omega
      clear hz hlt h0 h1 H
      go_enter Tryz.func142, Tryz.ntmps142
      go_wp2_with (go_at_call 116; refine (HN.out _).mono ?_; rintro e w' ⟨rfl, rfl⟩)
      go_ret
      exact ⟨rfl, by rw [d0, ← HA.out]; exact HX.out⟩

/-- Rat.SetInt64 into a new number. -/
theorem ratI64_any (x : Int) (h0 : -9223372036854775808 ≤ x) (h1 : x ≤ 9223372036854775807) (rb : Nat) (w : World) (hr : Blk w rb 292 #[.bool false, .slice none 0 0, .bool false, .slice none 0 0]) :
    Calls Tryz.prog 160 #[.pointer (some ⟨rb, 0, none⟩), .int .i64 x] w fun e w' => e = .returned (.pointer (some ⟨rb, 0, none⟩)) ∧ ∃ va vb, Blk w' rb 292 #[.bool (decide (x < 0)), va, .bool false, vb] ∧ SlV w' (Nw w w') .u64 va (absW x) ∧ SlV w' (Nw w w') .u64 vb [1] ∧ But (fun k => k = rb) w w' := by
  have lb := hr.lt
  have c0 := hr.cell 0
  have c1 := hr.cell 1
  simp at c0 c1
  have HSP := Lib.hid (setI64P x h0 h1 w rb 0 _ _ hr _ c0 c1)
  obtain ⟨neg, hneg⟩ : ∃ neg, neg = decide (x < 0) := ⟨_, rfl⟩
  obtain ⟨xs, hxs⟩ : ∃ xs, xs = absW x := ⟨_, rfl⟩
  rw [← hneg, ← hxs] at HSP ⊢
  clear hr c0 c1 h0 h1 hneg hxs
  go_enter Tryz.func160, Tryz.ntmps160
  go_wp2_with fail
  refine HSP.out.mono ?_
  rintro e w1 ⟨rfl, va, kb, sa, bt⟩
  obtain ⟨Aa, ca, rfl, la, ra⟩ := sa
  have HK := Lib.hid kb
  have c3 := kb.cell 3
  have f3 := kb.frozen 3
  simp at c3
  have lb1 := kb.lt
  clear kb
  have HSW := Lib.hid (setWord_nil1 1 (by decide) w1)
  go_wp2_with (go_at_call 133; refine HSW.out.mono ?_; rintro e w' ⟨rfl, rfl⟩)
  go_ret
  have hs1 : (w1.setCell ⟨rb, 3, none⟩ (.slice (some ⟨w1.heap.size, 0, none⟩) 1 1)).heap.size = w1.heap.size := by simp [World.setCell]
  refine ⟨rfl, .slice Aa xs.length ca, .slice (some ⟨w1.heap.size, 0, none⟩) 1 1, (HK.out.set 3 _).alloc _, ?_, ?_, ?_⟩
  · exact ⟨_, _, rfl, la, (ra.keep (((Still.refl _ w1).set (p := ⟨rb, 3, none⟩) (fun k hk => by have := hk.1; simp; omega) _).alloc (fun k hk => by rw [hs1]; exact hk.2) _)).mono (fun k hk => ⟨hk.1, by have := hk.2; simp [World.setCell]; omega⟩)⟩
  · have hw := Blk.new (w1.setCell ⟨rb, 3, none⟩ (.slice (some ⟨w1.heap.size, 0, none⟩) 1 1)) 236 #[.int .u64 1]
    rw [hs1] at hw
    exact ⟨_, _, rfl, by simp, (WB.rd (o := 0) (xs := [1]) (zs := []) (show WB _ w1.heap.size [1] from hw) rfl).mono (fun k hk => by subst hk; exact ⟨bt.size, by simp [World.setCell]⟩)⟩
  · exact (bt.set (p := ⟨rb, 3, none⟩) rfl _).trans (But.of_below (below_al (Below.refl _ _) _))
end Go.Proofs.YtloloifngbmibaaGreatDoor
set_option linter.unusedVariables false
set_option linter.unusedSimpArgs false
set_option maxRecDepth 4000
set_option exponentiation.threshold 3000
namespace Go.Proofs.YtloloifngbmibaaGreatDoor
open Go.RowKit

def fex (u : Nat) : Nat := u / 4503599627370496 % 2048
def fm (u : Nat) : Nat := if fex u = 0 then u % 4503599627370496 else u % 4503599627370496 + 4503599627370496
def fs (u : Nat) : Int := if fex u = 0 then 1074 else 1075 - (fex u : Int)
def fneg (u : Nat) : Bool := decide (9223372036854775808 ≤ u) && decide (¬ fm u = 0)

theorem fbits_call (u : Nat) (w : World) :
    (callFunc 103 #[.float .f64 u]).run Tryz.prog w = .ok (.value (.int .u64 u)) w := by
  rw [run_callFunc_extern Tryz.func103 (by kernel_rfl) (by kernel_rfl) (by kernel_rfl) (e := Extern.MathFloatBits.float64bits) (by kernel_rfl)]
  rfl

theorem and52 (u : Nat) (hu : u < 18446744073709551616) : bits .and .u64 (u : Int) 4503599627370495 = ((u % 4503599627370496 : Nat) : Int) := by
  have h := bits_and_u64_nat u 4503599627370495 hu (by decide)
  rw [show ((4503599627370495 : Nat) : Int) = 4503599627370495 from rfl] at h
  rw [h, show (4503599627370495 : Nat) = 2 ^ 52 - 1 from rfl, Nat.and_two_pow_sub_one_eq_mod]
theorem and2047 (u : Nat) (hu : u < 18446744073709551616) : bits .and .u64 ((u : Int) / 4503599627370496) 2047 = (fex u : Int) := by
  have h := bits_and_u64_nat (u / 4503599627370496) 2047 (by omega) (by decide)
  rw [show ((2047 : Nat) : Int) = 2047 from rfl, show ((u / 4503599627370496 : Nat) : Int) = (u : Int) / 4503599627370496 by omega] at h
  rw [h, show (2047 : Nat) = 2 ^ 11 - 1 from rfl, Nat.and_two_pow_sub_one_eq_mod]
  rfl
theorem or52 (m : Nat) (hm : m < 4503599627370496) : bits .or .u64 (m : Int) 4503599627370496 = ((m + 4503599627370496 : Nat) : Int) := by
  have h := bits_or_u64_nat m 4503599627370496 (by omega) (by decide)
  rw [show ((4503599627370496 : Nat) : Int) = 4503599627370496 from rfl] at h
  rw [h]
  congr 1
  have h2 := Nat.two_pow_add_eq_or_of_lt (i := 52) (b := m) (by omega) 1
  rw [Nat.or_comm]
  simp at h2
  omega

/-- What the loop keeps: the mantissa, the shift. -/
def FltR (u M : Nat) (T : Int) : Prop := ∃ k : Nat, T = fs u - k ∧ fm u = M * 2 ^ k ∧ (0 < k → 0 ≤ T)
theorem FltR.start (u : Nat) : FltR u (fm u) (fs u) := ⟨0, by simp, by simp, by simp⟩
theorem FltR.step {u M : Nat} {T : Int} (h : FltR u M T) (h0 : M % 2 = 0) (h1 : 0 < T) : FltR u (M / 2) (T - 1) := by
  obtain ⟨k, e1, e2, e3⟩ := h
  refine ⟨k + 1, by omega, ?_, by omega⟩
  rw [e2, Nat.pow_succ, Nat.mul_comm (2 ^ k) 2, ← Nat.mul_assoc, Nat.div_mul_cancel (Nat.dvd_of_mod_eq_zero h0)]
theorem fm_lt (u : Nat) : fm u < 9007199254740992 := by
  unfold fm
  split <;> omega
theorem FltR.lt {u M : Nat} {T : Int} (h : FltR u M T) : M < 9007199254740992 := by
  obtain ⟨k, _, e2, _⟩ := h
  have := fm_lt u
  have h1 : M * 1 ≤ M * 2 ^ k := Nat.mul_le_mul_left _ (Nat.one_le_two_pow)
  omega
theorem fs_bd (u : Nat) : -972 ≤ fs u ∧ fs u ≤ 1074 := by
  unfold fs fex
  split <;> omega
theorem FltR.bd {u M : Nat} {T : Int} (h : FltR u M T) : -972 ≤ T ∧ T ≤ 1074 := by
  obtain ⟨k, e1, _, e3⟩ := h
  have := fs_bd u
  rcases Nat.eq_zero_or_pos k with h0 | h0
  · omega
  · have := e3 h0
    omega

/-- What a finite float stands for. -/
theorem read_fin (u : Nat) (hu : u < 18446744073709551616) (hf : fex u ≠ 2047) : Ieee.double.read u = .number (decide (9223372036854775808 ≤ u)) (fm u) (-(fs u)) := by
  have e1 : Ieee.double.signWeight = 9223372036854775808 := by decide +kernel
  have e2 : Ieee.double.binade = 4503599627370496 := by decide +kernel
  have e3 : Ieee.double.infRung = 9218868437227405312 := by decide +kernel
  have e4 : Ieee.double.leastPlace = -1074 := by decide +kernel
  have e5 : (u / 9223372036854775808 % 2 == 1) = decide (9223372036854775808 ≤ u) := by
    by_cases h : 9223372036854775808 ≤ u
    · rw [show u / 9223372036854775808 % 2 = 1 by omega, decide_eq_true h]
      rfl
    · rw [show u / 9223372036854775808 % 2 = 0 by omega, decide_eq_false h]
      rfl
  unfold Ieee.Format.read
  simp only [e1, e2, e3, e4, e5]
  unfold fex at hf
  by_cases hx : u / 4503599627370496 % 2048 = 0
  · have h1 : u % 9223372036854775808 < 4503599627370496 := by omega
    rw [if_pos h1]
    unfold fm fs fex
    rw [if_pos hx, if_pos hx, show u % 9223372036854775808 = u % 4503599627370496 by omega]
  · have h1 : ¬ u % 9223372036854775808 < 4503599627370496 := by omega
    have h2 : u % 9223372036854775808 < 9218868437227405312 := by omega
    rw [if_neg h1, if_pos h2]
    unfold fm fs fex
    rw [if_neg hx, if_neg hx]
    congr 1
    · omega
    · omega
/-- 'f < 0'. -/
theorem flt_neg (u : Nat) (hu : u < 18446744073709551616) (hf : fex u ≠ 2047) : (FloatKind.f64.format.order u 0 == some Ordering.lt) = fneg u := by
  show (Ieee.Datum.order (Ieee.double.read u) (Ieee.double.read 0) == some Ordering.lt) = fneg u
  rw [read_fin u hu hf, read_fin 0 (by decide) (by decide)]
  unfold Ieee.Datum.order fneg
  simp only [show fm 0 = 0 from rfl]
  obtain ⟨k, hk⟩ : ∃ k, k = (-(fs u) - min (-(fs u)) (-(fs 0))).toNat := ⟨_, rfl⟩
  obtain ⟨j, hj⟩ : ∃ j, j = (-(fs 0) - min (-(fs u)) (-(fs 0))).toNat := ⟨_, rfl⟩
  rw [← hk, ← hj]
  have h0 : Ieee.signed (decide (9223372036854775808 ≤ 0)) 0 j = 0 := by simp [Ieee.signed]
  rw [h0]
  unfold Ieee.signed
  have hp : 0 < 2 ^ k := Nat.two_pow_pos k
  rw [Nat.shiftLeft_eq]
  by_cases hs : 9223372036854775808 ≤ u
  · by_cases hm : fm u = 0
    · simp [hs, hm]
    · have : 0 < fm u * 2 ^ k := Nat.mul_pos (by omega) hp
      obtain ⟨q, hq⟩ : ∃ q, q = fm u * 2 ^ k := ⟨_, rfl⟩
      rw [← hq] at this ⊢
      simp [hs, hm]
      rw [Int.compare_eq_lt]
      omega
  · obtain ⟨q, hq⟩ : ∃ q, q = fm u * 2 ^ k := ⟨_, rfl⟩
    rw [← hq]
    simp [hs]
    intro h
    rw [Int.compare_eq_lt] at h
    omega

/-- A magnitude of one word at most: nil, or one new word. -/
def AbsAt (M : Nat) (w W : World) (va : Value) : Prop :=
  (M = 0 ∧ va = .slice none 0 0) ∨ (M ≠ 0 ∧ ∃ g, va = .slice (some ⟨g, 0, none⟩) 1 1 ∧ WB W g [(M : Int)] ∧ w.heap.size ≤ g)
theorem AbsAt.up {M : Nat} {w W W' : World} {va : Value} {rb : Nat} (h : AbsAt M w W va) (hb : But (fun k => k = rb) W W') (hr : rb < w.heap.size) : AbsAt M w W' va := by
  rcases h with ⟨h1, h2⟩ | ⟨h1, g, h2, h3, h4⟩
  · exact .inl ⟨h1, h2⟩
  · exact .inr ⟨h1, g, h2, Blk.keep h3 (hb.block g h3.lt (by omega)), h4⟩

theorem set_one (g c : Nat) (x : Int) (w : World) (hr : w.cell? ⟨g, 0, none⟩ = some (.int .u64 x)) :
    Calls Tryz.prog 132 #[.slice none 0 0, .slice (some ⟨g, 0, none⟩) 1 c] w fun e w' => e = .returned (.slice (some ⟨w.heap.size, 0, none⟩) 1 1) ∧ w.alloc (.cells #[.int .u64 x] 236) = w' := by
  have hb : g < w.heap.size := World.block_lt_of_cell? w ⟨g, 0, none⟩ hr
  have hc1 : Hid (∀ (o' : Obj) (j : Nat) (v : Value), (ints .u64 [x])[j]? = some v → (w.alloc o').cell? ((⟨g, 0, none⟩ : Addr).add j) = some v) := by
    intro o' j v hj
    have hj0 : j < 1 := by
      have := (List.getElem?_eq_some_iff.1 hj).1
      simpa [ints_length] using this
    obtain rfl : j = 0 := by omega
    have e : (⟨g, 0, none⟩ : Addr).add 0 = ⟨g, 0, none⟩ := by unfold Addr.add; rfl
    rw [e, World.cell?_alloc_lt w _ _ hb, hr]
    simpa [ints] using hj
  clear hr
  go_enter Tryz.func132, Tryz.ntmps132
  go_wp2_with (first | (go_at_call 134; refine (make_nil1 _).mono ?_; rintro e w' ⟨rfl, rfl⟩) | (refine wpList_copy_own rfl _ _ 187 187 rfl 236 Tryz.underlying187 size_word w.heap.size 0 1 1 ⟨g, 0, none⟩ 1 c rfl rfl #[.int .u64 0] 236 (heap_alloc_new w _) (ints .u64 [x]) rfl (hc1.out _) (by simp [ints]) (ints_one _ _) ?_; rw [setRow_alloc]))
  go_ret
  exact ⟨rfl, rfl⟩

/-- 'z.Set(x)', z a nil integer anywhere in a block, x of one word. -/
theorem setO_one (w : World) (b o b1 o1 : Nat) (u neg : Bool) (x : Int) (t : TypeId) (cs : Array Value) (hb : Blk w b t cs) (c0 : w.cell? ⟨b, o, none⟩ = some (.bool u)) (c1 : w.cell? ⟨b, o + 1, none⟩ = some (.slice none 0 0)) (g c : Nat) (t1 : TypeId) (cs1 : Array Value) (hb1 : Blk w b1 t1 cs1) (hne : b ≠ b1)
    (x0 : w.cell? ⟨b1, o1, none⟩ = some (.bool neg)) (x1 : w.cell? ⟨b1, o1 + 1, none⟩ = some (.slice (some ⟨g, 0, none⟩) 1 c)) (hr : w.cell? ⟨g, 0, none⟩ = some (.int .u64 x)) :
    Calls Tryz.prog 114 #[.pointer (some ⟨b, o, none⟩), .pointer (some ⟨b1, o1, none⟩)] w fun e w' => e = .returned (.pointer (some ⟨b, o, none⟩)) ∧
      Alk w' (((w.setCell ⟨b, o + 1, none⟩ (.slice (some ⟨w.heap.size, 0, none⟩) 1 1)).setCell ⟨b, o, none⟩ (.bool neg)).alloc (.cells #[.int .u64 x] 236)) := by
  have hlt := hb.lt
  have hlt1 := hb1.lt
  have f0 := hb.frozen o
  have f1 := hb.frozen (o + 1)
  have hn1 := neq_ptr_far (n := 1) w Tryz.underlying113 (by kernel_rfl) (by intro h; injection h; exact hne ‹_›) hb (a := ⟨b, o, none⟩) (b := ⟨b1, o1, none⟩) hb1
  have hr' : Hid (∀ W : World, W.heap = w.heap → W.cell? ⟨g, 0, none⟩ = some (.int .u64 x)) := fun W hW => by
    rw [← hr]
    exact World.cell?_of_block (a := ⟨g, 0, none⟩) (by rw [hW])
  clear hr
  go_enter Tryz.func114, Tryz.ntmps114
  go_wp2
  go_region_with (go_at_call 132; refine (set_one g c x _ (by exact hr'.out _ rfl)).mono ?_; rintro e w' ⟨rfl, rfl⟩)
  all_goals
    clear hn1
    go_wp2
    go_ret
    exact ⟨rfl, rfl, rfl, rfl, rfl⟩

/-- What SetFloat64 has laid ahead of norm. -/
def FltB (rb u : Nat) (w W : World) : Prop :=
  ∃ va vb ms ds, Blk W rb 292 #[.bool (fneg u), va, .bool false, vb] ∧ SlV W (Nw w W) .u64 va ms ∧ SlV W (Nw w W) .u64 vb ds ∧ (WL ms ∧ Nrm ms ∧ WL ds ∧ Nrm ds) ∧ (0 < ms.length ∧ 0 < ds.length ∧ ms.length ≤ 30 ∧ ds.length ≤ 30) ∧
    (ms.length = 1 ∨ ds.length = 1) ∧ Nat.gcd (nv ms).toNat (nv ds).toNat = 1 ∧ nv ms * 2 ^ (fs u).toNat = (fm u : Int) * nv ds * 2 ^ (-(fs u)).toNat ∧ But (fun k => k = rb) w W
/-- What SetFloat64 leaves. -/
def FltOut (rb u : Nat) (w W : World) : Prop :=
  ∃ va vb ms ds, Blk W rb 292 #[.bool (fneg u), va, .bool false, vb] ∧ SlV W (Nw w W) .u64 va ms ∧ SlV W (Nw w W) .u64 vb ds ∧ (WL ms ∧ Nrm ms ∧ WL ds ∧ Nrm ds) ∧ (0 < ds.length ∧ ms.length ≤ 30 ∧ ds.length ≤ 30) ∧
    nv ms * 2 ^ (fs u).toNat = (fm u : Int) * nv ds * 2 ^ (-(fs u)).toNat ∧ Nat.gcd (nv ms).toNat (nv ds).toNat = 1 ∧ But (fun k => k = rb) w W

theorem odd_gcd (M s : Nat) (h : M % 2 = 1) : Nat.gcd M (2 ^ s) = 1 := by
  have h2 : Nat.Coprime M 2 := by
    unfold Nat.Coprime
    rw [Nat.gcd_comm, Nat.gcd_rec, h]
    rfl
  exact Nat.Coprime.pow_right s h2

theorem flt_den {u M T : Nat} {rb g1 : Nat} {va : Value} {w w4 : World} (hlb : rb < w.heap.size) (hR : FltR u M T) (hT : 0 < T) (hM : M % 2 = 1)
    (K4 : Blk w4 rb 292 #[.bool (fneg u), va, .bool false, .slice (some ⟨g1, 0, none⟩) 1 1]) (N4 : WB w4 g1 [1]) (lg : w.heap.size ≤ g1) (A4 : AbsAt M w w4 va) (T4 : But (fun k => k = rb) w w4) :
    Calls Tryz.prog 169 #[.pointer (some ⟨rb, 2, none⟩), .pointer (some ⟨rb, 2, none⟩), .int .u64 T] w4 fun e w' => e = .returned (.pointer (some ⟨rb, 2, none⟩)) ∧ FltB rb u w w' := by
  have hb := hR.bd
  refine (intLsh_one rb 2 g1 1 T false _ _ (by omega) hT (by omega) w4 K4 (by rw [K4.cell]; rfl) (by rw [K4.cell]; rfl) (by have h := N4.cell (i := 0) (by simp); simpa using h)).mono ?_
  rintro e w' ⟨rfl, v, ps, kb, sv, hw, hn, hv, bt⟩
  refine ⟨rfl, ?_⟩
  rcases A4 with ⟨h1, _⟩ | ⟨h1, g0, rfl, wb0, lg0⟩
  · omega
  have wb0' : WB w' g0 [(M : Int)] := Blk.keep wb0 (bt.block g0 wb0.lt (by omega))
  have hML := hR.lt
  have hp : nv ps = 2 ^ T := by rw [hv]; simp
  have hpn : (nv ps).toNat = 2 ^ T := by rw [hp]; rw [show (2 : Int) ^ T = ((2 ^ T : Nat) : Int) by simp]; exact Int.toNat_natCast _
  have hpp : (0 : Int) < 2 ^ T := Int.pow_pos (by decide)
  have hlen : ps.length ≤ 30 := by
    refine len_le hw hn ?_
    have h1 : 2 ^ T < 2 ^ 1920 := Nat.pow_lt_pow_right (by decide) (by omega)
    rw [hp, show (18446744073709551616 : Int) ^ 30 = ((2 ^ 1920 : Nat) : Int) by decide +kernel, show (2 : Int) ^ T = ((2 ^ T : Nat) : Int) by simp]
    exact Int.ofNat_lt.2 h1
  have hpos : 0 < ps.length := by
    cases ps with
    | nil =>
      rw [show nv [] = 0 from rfl] at hp
      omega
    | cons a b => simp
  refine ⟨_, v, [(M : Int)], ps, kb, ⟨_, _, rfl, by simp, (WB.rd (o := 0) (xs := [(M : Int)]) (zs := []) wb0' rfl).mono (fun k hk => by subst hk; exact ⟨lg0, wb0'.lt⟩)⟩, sv.mono (fun k hk => ⟨by have := hk.1.1; have := T4.size; omega, hk.1.2⟩), ⟨WL.cons.2 ⟨by omega, WL.nil⟩, ?_, hw, hn⟩, ⟨by simp, hpos, by simp, hlen⟩, .inl rfl, ?_, ?_, T4.trans bt⟩
  · show ¬ ((M : Int) = 0)
    omega
  · rw [hpn]
    simp only [nv]
    rw [show ((M : Int) + 18446744073709551616 * 0).toNat = M by omega]
    exact odd_gcd M T hM
  · obtain ⟨k, e1, e2, e3⟩ := hR
    rw [hp, e2]
    have f1 : (fs u).toNat = T + k := by omega
    have f2 : (-(fs u)).toNat = 0 := by omega
    rw [f1, f2]
    simp only [nv]
    rw [Int.natCast_mul, show ((2 ^ k : Nat) : Int) = 2 ^ k by simp, Int.pow_add]
    have h0 : (2 : Int) ^ 0 = 1 := rfl
    rw [h0, Int.mul_one, show (M : Int) + 18446744073709551616 * 0 = M by omega, Int.mul_assoc, Int.mul_comm (2 ^ T) (2 ^ k)]

/-- The numerator shifted (a magnitude of one word, not 0). -/
theorem flt_num {u M s : Nat} {T : Int} {rb g1 : Nat} {va : Value} {w w4 : World} (hlb : rb < w.heap.size) (hR : FltR u M T) (hT : T ≤ 0) (hs : T = -(s : Int)) (hM : M ≠ 0)
    (K4 : Blk w4 rb 292 #[.bool (fneg u), va, .bool false, .slice (some ⟨g1, 0, none⟩) 1 1]) (N4 : WB w4 g1 [1]) (lg : w.heap.size ≤ g1) (A4 : AbsAt M w w4 va) (T4 : But (fun k => k = rb) w w4) :
    Calls Tryz.prog 169 #[.pointer (some ⟨rb, 0, none⟩), .pointer (some ⟨rb, 0, none⟩), .int .u64 s] w4 fun e w' => e = .returned (.pointer (some ⟨rb, 0, none⟩)) ∧ FltB rb u w w' := by
  have hb := hR.bd
  have hML := hR.lt
  rcases A4 with ⟨h1, _⟩ | ⟨h1, g0, rfl, wb0, lg0⟩
  · omega
  have lg0' := wb0.lt
  have lg1' := N4.lt
  have key : ∀ ps v w', Blk w' rb 292 #[.bool (fneg u), v, .bool false, .slice (some ⟨g1, 0, none⟩) 1 1] → SlV w' (Nw w w') .u64 v ps → WL ps → Nrm ps → nv ps = (M : Int) * 2 ^ s → But (fun k => k = rb) w4 w' → FltB rb u w w' := by
    intro ps v w' kb sv hw hn hv bt
    have wb1 : WB w' g1 [(1 : Int)] := Blk.keep N4 (bt.block g1 lg1' (by omega))
    have hpp : (0 : Int) < 2 ^ s := Int.pow_pos (by decide)
    have hpM : 0 < (M : Int) * 2 ^ s := Int.mul_pos (by omega) hpp
    have hlen : ps.length ≤ 30 := by
      refine len_le hw hn ?_
      have h1 : 2 ^ s ≤ 2 ^ 972 := Nat.pow_le_pow_right (by decide) (by omega)
      have h2 : M * 2 ^ s ≤ 9007199254740992 * 2 ^ 972 := Nat.mul_le_mul (by omega) h1
      have h3 : 9007199254740992 * 2 ^ 972 < 2 ^ 1920 := by decide +kernel
      rw [hv, show (18446744073709551616 : Int) ^ 30 = ((2 ^ 1920 : Nat) : Int) by decide +kernel, show (2 : Int) ^ s = ((2 ^ s : Nat) : Int) by simp, ← Int.natCast_mul]
      exact Int.ofNat_lt.2 (Nat.lt_of_le_of_lt h2 h3)
    have hpos : 0 < ps.length := by
      cases ps with
      | nil =>
        rw [show nv [] = 0 from rfl] at hv
        omega
      | cons a b => simp
    refine ⟨v, _, ps, [1], kb, sv, ⟨_, _, rfl, by simp, (WB.rd (o := 0) (xs := [(1 : Int)]) (zs := []) wb1 rfl).mono (fun k hk => by subst hk; exact ⟨lg, wb1.lt⟩)⟩, ⟨hw, hn, WL.one (by decide) (by decide), by show ¬ ((1 : Int) = 0); decide⟩, ⟨hpos, by simp, hlen, by simp⟩, .inr rfl, ?_, ?_, T4.trans bt⟩
    · rw [show nv [1] = 1 from rfl]
      exact Nat.gcd_one_right _
    · obtain ⟨k, e1, e2, e3⟩ := hR
      rw [hv, e2, show nv [1] = 1 from rfl, Int.mul_one]
      by_cases hk : k = 0
      · have f1 : (fs u).toNat = 0 := by omega
        have f2 : (-(fs u)).toNat = s := by omega
        rw [f1, f2, hk, show (2 : Int) ^ 0 = 1 from rfl, Nat.pow_zero, Nat.mul_one, Int.mul_one]
      · have h0 := e3 (by omega)
        have hs0 : s = 0 := by omega
        have f1 : (fs u).toNat = k := by omega
        have f2 : (-(fs u)).toNat = 0 := by omega
        rw [f1, f2, hs0, show (2 : Int) ^ 0 = 1 from rfl, Int.mul_one, Int.mul_one, Int.natCast_mul]
        simp
  by_cases hs0 : s = 0
  · subst hs0
    have HL : Calls Tryz.prog 180 #[.slice (some ⟨g0, 0, none⟩) 1 1, .slice (some ⟨g0, 0, none⟩) 1 1, .int .u64 0] w4.drew fun e w' => e = .returned (.slice (some ⟨g0, 0, none⟩) 1 1) ∧ ∃ m, w4.drewN m = w' := by
      refine (lsh_same g0 0 1 1 (by decide) w4.drew).mono ?_
      rintro e w' ⟨rfl, m, rfl⟩
      exact ⟨rfl, 1 + m, by rw [show w4.drew = w4.drewN 1 from rfl, World.drewN_drewN]⟩
    refine (intLsh_id rb 0 (fneg u) (some ⟨g0, 0, none⟩) 1 1 _ _ w4 K4 (by rw [K4.cell]; rfl) (by rw [K4.cell]; rfl) HL).mono ?_
    rintro e w' ⟨rfl, ha⟩
    have hbt := ((But.refl (fun k => k = rb) w4).set (p := ⟨rb, 0 + 1, none⟩) rfl (.slice (some ⟨g0, 0, none⟩) 1 1)).set (p := ⟨rb, 0, none⟩) rfl (.bool (fneg u))
    have wb0' : WB w' g0 [(M : Int)] := Blk.keep wb0 ((hbt.alk ha).block g0 wb0.lt (by omega))
    refine ⟨rfl, key [(M : Int)] (.slice (some ⟨g0, 0, none⟩) 1 1) w' (ha.blk ((K4.set 1 _).set 0 _)) ⟨_, _, rfl, by simp, (WB.rd (o := 0) (xs := [(M : Int)]) (zs := []) wb0' rfl).mono (fun k hk => by subst hk; exact ⟨lg0, wb0'.lt⟩)⟩ (WL.one (by omega) (by omega)) (by show ¬ ((M : Int) = 0); omega) (by simp [nv]) (hbt.alk ha)⟩
  · refine (intLsh_one rb 0 g0 M s (fneg u) _ _ (by omega) (by omega) (by omega) w4 K4 (by rw [K4.cell]; rfl) (by rw [K4.cell]; rfl) (by have h := wb0.cell (i := 0) (by simp); simpa using h)).mono ?_
    rintro e w' ⟨rfl, v, ps, kb, sv, hw, hn, hv, bt⟩
    exact ⟨rfl, key ps v w' kb (sv.mono (fun k hk => ⟨by have := hk.1.1; have := T4.size; omega, hk.1.2⟩)) hw hn hv bt⟩

theorem FltB.norm {rb u : Nat} {w w5 : World} (hlb : rb < w.heap.size) (h : FltB rb u w w5) :
    Calls Tryz.prog 170 #[.pointer (some ⟨rb, 0, none⟩)] w5 fun e w' => e = .returned (.pointer (some ⟨rb, 0, none⟩)) ∧ FltOut rb u w w' := by
  obtain ⟨va, vb, ms, ds, kb, sa, sb, ⟨h1, h2, h3, h4⟩, ⟨h5, h6, h7, h8⟩, h9, h10, h11, bt⟩ := h
  refine (norm_coprime (Nw w w5) rb (fneg u) false ms ds h5 h6 (by omega) (by omega) h1 h2 h3 h4 h9 h10 va vb w5 kb sa sb (fun k hk => ⟨hk.2, by have := hk.1; omega⟩)).mono ?_
  rintro e w' ⟨rfl, kb', bt'⟩
  have hst : Still (Nw w w5) w5 w' := bt'.still (fun k hk => ⟨hk.2, by have := hk.1; omega⟩)
  have hsz := bt'.size
  exact ⟨rfl, va, vb, ms, ds, kb', (sa.keep hst).mono (fun k hk => ⟨hk.1, by have := hk.2; omega⟩), (sb.keep hst).mono (fun k hk => ⟨hk.1, by have := hk.2; omega⟩), ⟨h1, h2, h3, h4⟩, ⟨h6, h7, h8⟩, h11, h10, bt.trans bt'⟩

/-- A zero ahead of norm. -/
def FltZ (rb u : Nat) (w W : World) : Prop :=
  ∃ g1, fm u = 0 ∧ Blk W rb 292 #[.bool (fneg u), .slice none 0 0, .bool false, .slice (some ⟨g1, 0, none⟩) 1 1] ∧ WB W g1 [1] ∧ w.heap.size ≤ g1 ∧ But (fun k => k = rb) w W
theorem flt_zero {u rb g1 : Nat} {T : Int} {va : Value} {w w4 : World} (hlb : rb < w.heap.size) (hR : FltR u 0 T) (hT : T ≤ 0)
    (K4 : Blk w4 rb 292 #[.bool (fneg u), va, .bool false, .slice (some ⟨g1, 0, none⟩) 1 1]) (N4 : WB w4 g1 [1]) (lg : w.heap.size ≤ g1) (A4 : AbsAt 0 w w4 va) (T4 : But (fun k => k = rb) w w4) :
    T = 0 ∧ Calls Tryz.prog 169 #[.pointer (some ⟨rb, 0, none⟩), .pointer (some ⟨rb, 0, none⟩), .int .u64 0] w4 fun e w' => e = .returned (.pointer (some ⟨rb, 0, none⟩)) ∧ FltZ rb u w w' := by
  have hva : va = .slice none 0 0 := by
    rcases A4 with ⟨_, h⟩ | ⟨h, _⟩
    · exact h
    · exact absurd rfl h
  subst hva
  obtain ⟨k, e1, e2, e3⟩ := hR
  have hm : fm u = 0 := by rw [e2]; simp
  have hx : fs u = 1074 := by
    unfold fm at hm
    unfold fs
    split at hm
    · rename_i h
      rw [if_pos h]
    · omega
  have hT0 : T = 0 := by
    by_cases hk : k = 0
    · omega
    · have := e3 (by omega)
      omega
  refine ⟨hT0, ?_⟩
  have HL : Calls Tryz.prog 180 #[.slice none 0 0, .slice none 0 0, .int .u64 0] w4.drew fun e w' => e = .returned (.slice none 0 0) ∧ ∃ m, w4.drewN m = w' := by
    refine (lsh_nil0 w4.drew).mono ?_
    rintro e w' ⟨rfl, m, rfl⟩
    exact ⟨rfl, 1 + m, by rw [show w4.drew = w4.drewN 1 from rfl, World.drewN_drewN]⟩
  refine (intLsh_id rb 0 (fneg u) none 0 0 _ _ w4 K4 (by rw [K4.cell]; rfl) (by rw [K4.cell]; rfl) HL).mono ?_
  rintro e w' ⟨rfl, ha⟩
  have hbt := (((But.refl (fun k => k = rb) w4).set (p := ⟨rb, 0 + 1, none⟩) rfl (.slice none 0 0)).set (p := ⟨rb, 0, none⟩) rfl (.bool (fneg u))).alk ha
  exact ⟨rfl, g1, hm, ha.blk ((K4.set 1 _).set 0 _), Blk.keep N4 (hbt.block g1 N4.lt (by omega)), lg, T4.trans hbt⟩
theorem FltZ.norm {rb u : Nat} {w w5 : World} (hlb : rb < w.heap.size) (h : FltZ rb u w w5) :
    Calls Tryz.prog 170 #[.pointer (some ⟨rb, 0, none⟩)] w5 fun e w' => e = .returned (.pointer (some ⟨rb, 0, none⟩)) ∧ FltOut rb u w w' := by
  obtain ⟨g1, hm, kb, wb, lg, bt⟩ := h
  have hn : fneg u = false := by simp [fneg, hm]
  have hlt := wb.lt
  refine (norm_zero rb g1 1 (fneg u) false none 0 (by decide) w5 kb (.int .u64 1) (by have h := wb.cell (i := 0) (by simp); simpa using h) (by exact Blk.frozen wb 0) (by omega)).mono ?_
  rintro e w' ⟨rfl, ha⟩
  have h1 : WB ((w5.setCell ⟨rb, 0, none⟩ (.bool false)).setCell ⟨g1, 0, none⟩ (.int .u64 1)) g1 [1] := by
    have h := WB.set (Blk.far (p := ⟨rb, 0, none⟩) wb (by simp; omega) (.bool false)) 0 1
    simpa using h
  have h2 : WB w' g1 [1] := ha.blk (Blk.far (p := ⟨rb, 3, none⟩) h1 (by simp; omega) _)
  have hbt : But (fun k => k = rb) w w' := by
    refine ⟨ha.os.trans bt.os, ha.tape.trans bt.tape, ha.output.trans bt.output, ?_, fun k hk hne => ?_⟩
    · rw [ha.heap]
      simp [World.setCell]
      exact bt.size
    · rw [ha.heap, Below.heap_setCell _ _ _ _ (by simp; omega), Below.heap_setCell _ _ _ _ (by simp; omega), Below.heap_setCell _ _ _ _ (by simp; omega)]
      exact bt.block k hk hne
  refine ⟨rfl, .slice none 0 0, .slice (some ⟨g1, 0, none⟩) 1 1, [], [1], ?_, SlV.nil _ _ _, ⟨_, _, rfl, by simp, (WB.rd (o := 0) (xs := [(1 : Int)]) (zs := []) h2 rfl).mono (fun k hk => by subst hk; exact ⟨lg, h2.lt⟩)⟩, ⟨WL.nil, trivial, WL.one (by decide) (by decide), by show ¬ ((1 : Int) = 0); decide⟩, ⟨by simp, by simp, by simp⟩, ?_, by simp [nv], hbt⟩
  · rw [hn]
    exact ha.blk (((kb.set 0 _).far (p := ⟨g1, 0, none⟩) (by simp; omega) _).set 3 _)
  · rw [hm]
    simp [nv]
end Go.Proofs.YtloloifngbmibaaGreatDoor
