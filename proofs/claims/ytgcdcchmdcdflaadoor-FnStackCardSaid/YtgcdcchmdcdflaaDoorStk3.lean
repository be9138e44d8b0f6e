/- Walks of At, Pop, Filename. -/
import Derived.Test.YtgcdcchmdcdflaaDoorStk2
set_option linter.unusedVariables false
namespace Go.Proofs.YtgcdcchmdcdflaaDoor
open Go.RowKit

/-- A call frame as one value. -/
@[reducible] def Fr.cagg (p : Addr) (f : Fr) : Value := .agg #[.string f.nm, .pointer (some p), .int .i32 f.ln, .int .i32 f.cl]

theorem at_idx (n i : Nat) (h : i < n) (hn : n ≤ 1000) : wrap64 ((n : Int) - 1) = (n : Int) - 1 ∧ wrap64 ((n : Int) - 1 - (i : Int)) = ((n - 1 - i : Nat) : Int) := by
  unfold wrap64
  omega

theorem at_any (p : Addr) (S : Nat → Prop) (A : Option Addr) (c : Nat) (l : List Fr) (hl : l.length ≤ 1000) (i : Nat) (hi : i < l.length) (w : World) (h : Rd w S A (cfs p l)) (hS : ∀ k, S k → k < w.heap.size) :
    Calls Tryd.prog 12 #[.slice A l.length c, .int .i64 (i : Int)] w fun e w' => ∃ f, l[l.length - 1 - i]? = some f ∧ e = .returned (f.cagg p) ∧ Below w.heap.size w w' := by
  obtain ⟨f, hf, b, o, rfl, hSb, c0, c1, c2, c3⟩ := rd_cf h (show l.length - 1 - i < l.length by omega)
  obtain ⟨e1, e2⟩ := at_idx l.length i hi hl
  have hj : ((l.length - 1 - i : Nat) : Int) < (l.length : Int) := by omega
  have hj0 : (0 : Int) ≤ ((l.length - 1 - i : Nat) : Int) := by omega
  have hbl := hS b hSb
  have hF := Lib.hid hf
  have hb := Lib.hid ((Below.refl w.heap.size w).alloc (Nat.le_refl _) (.cells #[.string f.nm, .pointer (some p), .int .i32 f.ln, .int .i32 f.cl] 42))
  clear hS
  generalize hjj : l.length - 1 - i = j at *
  clear hl hi h hf hjj
  go_enter Tryd.func12, Tryd.ntmps12
  go_wp2
  exact bodyPost_ret (v := f.cagg p) (by simp [results, Tryd.results12, go_sem]) rfl ⟨f, hF.out, rfl, hb.out⟩

theorem pop_idx (n : Nat) (h : 0 < n) (hn : n ≤ 1000) : wrap64 ((n : Int) - 1) = ((n - 1 : Nat) : Int) := by
  unfold wrap64
  omega

theorem pop_any (p : Addr) (S : Nat → Prop) (A : Option Addr) (c : Nat) (l : List Fr) (hl : l.length ≤ 1000) (h0 : 0 < l.length) (hc : l.length ≤ c) (g : Nat) (w : World) (h : Rd w S A (cfs p l)) (hS : ∀ k, S k → k < w.heap.size) (hg : Blk w g 35 #[.slice A l.length c]) :
    Calls Tryd.prog 13 #[.pointer (some ⟨g, 0, none⟩)] w fun e w' => ∃ f, l[l.length - 1]? = some f ∧ e = .returned (f.cagg p) ∧ Below w.heap.size (w.setCell ⟨g, 0, none⟩ (.slice A (l.length - 1) c)) w' := by
  obtain ⟨f, hf, b, o, rfl, hSb, c0, c1, c2, c3⟩ := rd_cf h (show l.length - 1 < l.length by omega)
  have e1 := pop_idx l.length h0 hl
  have hj : ((l.length - 1 : Nat) : Int) < (l.length : Int) := by omega
  have hj0 : (0 : Int) ≤ ((l.length - 1 : Nat) : Int) := by omega
  have hjc : ((l.length - 1 : Nat) : Int) ≤ (c : Int) := by omega
  have hbl := hS b hSb
  have hF := Lib.hid hf
  have g0 := hg.cell 0
  have f0 := hg.frozen 0
  have hlt := hg.lt
  simp at g0
  have hsz : (w.setCell ⟨g, 0, none⟩ (.slice (some ⟨b, o, none⟩) (l.length - 1) c)).heap.size = w.heap.size := by simp [World.setCell]
  have hb : Hid (∀ o1 o2, Below w.heap.size (w.setCell ⟨g, 0, none⟩ (.slice (some ⟨b, o, none⟩) (l.length - 1) c)) (((w.setCell ⟨g, 0, none⟩ (.slice (some ⟨b, o, none⟩) (l.length - 1) c)).alloc o1).alloc o2)) :=
    Lib.hid fun o1 o2 => by
      have := below_al (below_al (Below.refl (w.setCell ⟨g, 0, none⟩ (.slice (some ⟨b, o, none⟩) (l.length - 1) c)).heap.size _) o1) o2
      rwa [hsz] at this
  clear hS
  generalize hjj : l.length - 1 = j at *
  clear hl h0 h hf hjj hsz hg hc
  go_enter Tryd.func13, Tryd.ntmps13
  go_wp2
  exact bodyPost_ret (v := f.cagg p) (by simp [results, Tryd.results13, go_sem]) rfl ⟨f, hF.out, rfl, hb.out _ _⟩

theorem file_any (g : Nat) (s : ByteArray) (a b : Int) (w : World) (h : w.cell? ⟨g, 0, none⟩ = some (.string s)) (hg : g < w.heap.size) :
    Calls Tryd.prog 18 #[.agg #[.pointer (some ⟨g, 0, none⟩), .int .i32 a, .int .i32 b]] w fun e w' => e = .returned (.string s) ∧ Below w.heap.size w w' := by
  have hb := Lib.hid ((Below.refl w.heap.size w).alloc (Nat.le_refl _) (.cells #[.pointer (some ⟨g, 0, none⟩), .int .i32 a, .int .i32 b] 39))
  go_enter Tryd.func18, Tryd.ntmps18
  go_wp2
  go_ret
  exact ⟨rfl, hb.out⟩
end Go.Proofs.YtgcdcchmdcdflaaDoor
