/- Words for memory: what a slice of values reads as in a world, what a block holds, and how both are carried from world to world. No statement of the program stands here. -/
import Derived.Test.YtgcdcchmdcdflaaDoorProg
import Derived.WalkKit
import Derived.WalkSpells
import Derived.WalkLawsBesides
import Derived.KernelRfl
import Derived.RegionTactic
import Derived.ChangeAlike
import Derived.Lib.Hide
import Derived.Laws.CopyOwn
import Derived.Laws.OwnMore
import Derived.Deep.Draws
import Derived.Deep.RegionWith
import Derived.Deep.DeepCutAuto
import Derived.LaidEqlPtr
set_option linter.unusedVariables false
namespace Go.Proofs.YtgcdcchmdcdflaaDoor
open Go.RowKit

/-- Block g is just these cells, none of them frozen. -/
def Blk (w : World) (g : Nat) (t : TypeId) (cs : Array Value) : Prop := w.heap[g]? = some (.cells cs t (0, 0))

/-- The blocks that were made between two worlds. -/
def Nw (w w' : World) (k : Nat) : Prop := w.heap.size ≤ k ∧ k < w'.heap.size

/-- The blocks of a set stand in w' as in w. -/
def Still (S : Nat → Prop) (w w' : World) : Prop := ∀ k, S k → w'.heap[k]? = w.heap[k]?

section
variable {w w' w'' : World} {g : Nat} {t : TypeId} {cs : Array Value} {S S' : Nat → Prop}
theorem Blk.lt (h : Blk w g t cs) : g < w.heap.size := (Array.getElem?_eq_some_iff.1 h).1
theorem Blk.cell (h : Blk w g t cs) (i : Nat) : w.cell? ⟨g, i, none⟩ = cs[i]? := by
  unfold Blk at h
  simp [World.cell?, h]
theorem Blk.frozen (h : Blk w g t cs) (i : Nat) : w.frozen? ⟨g, i, none⟩ = false := by
  unfold Blk at h
  simp [World.frozen?, h]
theorem Blk.new (w : World) (t : TypeId) (cs : Array Value) : Blk (w.alloc (.cells cs t)) w.heap.size t cs := heap_alloc_new w _
theorem Blk.keep (h : Blk w g t cs) (hk : w'.heap[g]? = w.heap[g]?) : Blk w' g t cs := hk.trans h
theorem Blk.below {B : Nat} (h : Blk w g t cs) (hb : Below B w w') (hg : g < B) : Blk w' g t cs := h.keep (hb.block g hg)
theorem Blk.alloc (h : Blk w g t cs) (o : Obj) : Blk (w.alloc o) g t cs := h.keep (Below.heap_alloc w o g h.lt)
theorem Blk.drew (h : Blk w g t cs) : Blk w.drew g t cs := h
theorem Blk.drewN (h : Blk w g t cs) (n : Nat) : Blk (w.drewN n) g t cs := h
theorem Blk.set (h : Blk w g t cs) (i : Nat) (u : Value) : Blk (w.setCell ⟨g, i, none⟩ u) g t (cs.setIfInBounds i u) := by
  unfold Blk at h ⊢
  simp [World.setCell, Array.getElem?_modify, h]
theorem Blk.far (h : Blk w g t cs) {p : Addr} (hp : g ≠ p.block) (u : Value) : Blk (w.setCell p u) g t cs := h.keep (Below.heap_setCell w p u g hp)

theorem Still.refl (S : Nat → Prop) (w : World) : Still S w w := fun _ _ => rfl
theorem Still.trans (h : Still S w w') (h' : Still S w' w'') : Still S w w'' := fun k hk => (h' k hk).trans (h k hk)
theorem Still.mono (h : Still S' w w') (hs : ∀ k, S k → S' k) : Still S w w' := fun k hk => h k (hs k hk)
theorem Still.set (h : Still S w w') {p : Addr} (hp : ∀ k, S k → k ≠ p.block) (u : Value) : Still S w (w'.setCell p u) := fun k hk => (Below.heap_setCell w' p u k (hp k hk)).trans (h k hk)
theorem Still.alloc (h : Still S w w') (hp : ∀ k, S k → k < w'.heap.size) (o : Obj) : Still S w (w'.alloc o) := fun k hk => (Below.heap_alloc w' o k (hp k hk)).trans (h k hk)
theorem still_below {B : Nat} (h : Below B w w') (hs : ∀ k, S k → k < B) : Still S w w' := fun k hk => h.block k (hs k hk)
theorem below_drewN' {B : Nat} (h : Below B w w') (n : Nat) : Below B w (w'.drewN n) := ⟨h.os, h.tape, h.output, h.size, h.block⟩
theorem below_up (h : Below w.heap.size w w') (h' : Below w'.heap.size w' w'') : Below w.heap.size w w'' := h.trans (h'.mono h.size)
theorem below_al (h : Below w.heap.size w w') (o : Obj) : Below w.heap.size w (w'.alloc o) := h.alloc h.size o
theorem nw_up {k : Nat} (h : Below w'.heap.size w' w'') (hk : Nw w w' k) : Nw w w'' k := ⟨hk.1, Nat.lt_of_lt_of_le hk.2 h.size⟩
theorem nw_late {k : Nat} (h : Below w.heap.size w w') (hk : Nw w' w'' k) : Nw w w'' k := ⟨Nat.le_trans h.size hk.1, hk.2⟩
end

/-- Alike but for the count of draws. -/
structure Alk (w' w : World) : Prop where
  heap : w'.heap = w.heap
  os : w'.os = w.os
  tape : w'.tape = w.tape
  output : w'.output = w.output
theorem Alk.below {B : Nat} {w0 w w' : World} (h : Alk w' w) (hb : Below B w0 w) : Below B w0 w' :=
  ⟨h.os.trans hb.os, h.tape.trans hb.tape, h.output.trans hb.output, by rw [h.heap]; exact hb.size, fun k hk => by rw [h.heap]; exact hb.block k hk⟩
theorem Alk.blk {w w' : World} {g : Nat} {t : TypeId} {cs : Array Value} (h : Alk w' w) (hb : Blk w g t cs) : Blk w' g t cs := by
  unfold Blk
  rw [h.heap]
  exact hb

/-- A slice value's cells: what its address leads to, if it has any element. -/
def Rd (w : World) (S : Nat → Prop) (A : Option Addr) (xs : List Value) : Prop :=
  0 < xs.length → ∃ b o, A = some ⟨b, o, none⟩ ∧ S b ∧ ∀ j u, xs[j]? = some u → w.cell? ⟨b, o + j, none⟩ = some u

section
variable {w w' : World} {S S' : Nat → Prop} {A : Option Addr} {xs : List Value}
theorem Rd.nil (w : World) (S : Nat → Prop) (A : Option Addr) : Rd w S A [] := fun h => absurd h (by simp)
theorem Rd.keep (h : Rd w S A xs) (hk : Still S w w') : Rd w' S A xs := fun hn => by
  obtain ⟨b, o, e, hb, hc⟩ := h hn
  exact ⟨b, o, e, hb, fun j u hu => (World.cell?_of_block (a := ⟨b, o + j, none⟩) (hk b hb)).trans (hc j u hu)⟩
theorem Rd.mono (h : Rd w S A xs) (hs : ∀ k, S k → S' k) : Rd w S' A xs := fun hn => by
  obtain ⟨b, o, e, hb, hc⟩ := h hn
  exact ⟨b, o, e, hs b hb, hc⟩
theorem Rd.at_ (h : Rd w S A xs) {k : Nat} (hk : k < xs.length) : ∃ b o, A = some ⟨b, o, none⟩ ∧ S b ∧ w.cell? ⟨b, o + k, none⟩ = some xs[k] := by
  obtain ⟨b, o, e, hb, hc⟩ := h (by omega)
  exact ⟨b, o, e, hb, hc k _ (List.getElem?_eq_getElem hk)⟩
theorem Rd.of_blk {g : Nat} {t : TypeId} {ys : List Value} (h : Blk w g t (xs ++ ys).toArray) (hS : S g) : Rd w S (some ⟨g, 0, none⟩) xs := fun _ =>
  ⟨g, 0, rfl, hS, fun j u hu => by
    rw [Nat.zero_add, h.cell j]
    have hj := (List.getElem?_eq_some_iff.1 hu).1
    simpa [List.getElem?_append_left hj] using hu⟩
theorem Rd.of_blk_from {g k : Nat} {t : TypeId} {ys : List Value} (h : Blk w g t ys.toArray) (hS : S g) : Rd w S (some ⟨g, k, none⟩) (ys.drop k) := fun _ =>
  ⟨g, k, rfl, hS, fun j u hu => by
    rw [h.cell]
    simpa [List.getElem?_drop] using hu⟩
end

/-- Whole numbers of a kind as values. -/
def ints (k : IntKind) (xs : List Int) : List Value := xs.map (Value.int k)
theorem ints_length (k : IntKind) (xs : List Int) : (ints k xs).length = xs.length := by simp [ints]
theorem ints_get (k : IntKind) (xs : List Int) (j : Nat) (h : j < xs.length) : (ints k xs)[j]? = some (.int k (xs[j]?.getD 0)) := by simp [ints, h]
theorem ints_append (k : IntKind) (xs ys : List Int) : ints k (xs ++ ys) = ints k xs ++ ints k ys := by simp [ints]
theorem ints_drop (k : IntKind) (xs : List Int) (n : Nat) : ints k (xs.drop n) = (ints k xs).drop n := by simp [ints, List.map_drop]
theorem ints_one (k : IntKind) (xs : List Int) : ∀ v ∈ ints k xs, v.oneCell' = true := by
  intro v hv
  simp only [ints, List.mem_map] at hv
  obtain ⟨_, _, rfl⟩ := hv
  rfl

/-- A slice value of whole numbers. -/
def SlV (w : World) (S : Nat → Prop) (k : IntKind) (v : Value) (xs : List Int) : Prop :=
  ∃ A c, v = .slice A xs.length c ∧ xs.length ≤ c ∧ Rd w S A (ints k xs)

section
variable {w w' : World} {S S' : Nat → Prop} {k : IntKind} {v : Value} {xs : List Int}
theorem SlV.nil (w : World) (S : Nat → Prop) (k : IntKind) : SlV w S k (.slice none 0 0) [] := ⟨none, 0, rfl, Nat.le_refl _, Rd.nil _ _ _⟩
theorem SlV.keep (h : SlV w S k v xs) (hk : Still S w w') : SlV w' S k v xs := by
  obtain ⟨A, c, e, hl, hr⟩ := h
  exact ⟨A, c, e, hl, hr.keep hk⟩
theorem SlV.mono (h : SlV w S k v xs) (hs : ∀ k, S k → S' k) : SlV w S' k v xs := by
  obtain ⟨A, c, e, hl, hr⟩ := h
  exact ⟨A, c, e, hl, hr.mono hs⟩
theorem sl_done {A : Option Addr} {n c : Nat} (hr : Rd w S A (ints k xs)) (hl : xs.length ≤ c) (hn : n = xs.length) (hst : Still S w w') (hs : ∀ k, S k → S' k) : SlV w' S' k (.slice A n c) xs := by
  subst hn
  exact ⟨A, c, rfl, hl, (hr.keep hst).mono hs⟩
theorem rd_int {A : Option Addr} (h : Rd w S A (ints k xs)) {j : Nat} (hj : j < xs.length) : ∃ b o, A = some ⟨b, o, none⟩ ∧ S b ∧ w.cell? ⟨b, o + j, none⟩ = some (.int k (xs[j]?.getD 0)) := by
  obtain ⟨b, o, e, hb, hc⟩ := h.at_ (k := j) (by rw [ints_length]; exact hj)
  refine ⟨b, o, e, hb, hc.trans ?_⟩
  simp [ints, hj]
end

theorem setRow_alloc (w : World) (c c' : Array Value) (t : TypeId) : (w.alloc (.cells c t)).setRow w.heap.size c' = w.alloc (.cells c' t) := by
  unfold World.setRow World.alloc
  congr 1
  apply Array.ext_getElem?
  intro k
  simp only [Array.getElem?_modify, Array.getElem?_push]
  by_cases hk : k = w.heap.size
  · subst hk
    simp
  · simp [hk, Ne.symm hk]

theorem madeCells_one (v : Value) (n : Nat) : madeCells #[v] n = (List.replicate n v).toArray := by
  apply Array.ext_getElem?
  intro j
  by_cases hj : j < n
  · simp [madeCells, hj, Nat.mod_one]
  · simp [madeCells, hj]

theorem neq_ptr_far {P : Program} (w : World) {n : Nat} {tp te : TypeId} {a b : Addr} {ca cb : Array Value} {ta tb : TypeId} (hp : P.underlying tp = some (.pointer te)) (hte : (P.info? te).map (·.size) = some (n + 1))
    (hne : a ≠ b) (ha : Blk w a.block ta ca) (hb : Blk w b.block tb cb) :
    (binOp .neq tp (.pointer (some a)) (.pointer (some b))).run P w = .ok (.bool true) w := by
  obtain ⟨i, hi, hz⟩ := Option.map_eq_some_iff.1 hte
  have hs : i.size ≠ 0 := by omega
  have h : ∀ d : Nat, (Op.equalIn (d + 1) tp (.pointer (some a)) (.pointer (some b))).run P w = .ok false w := fun d => by
    simp [Op.equalIn, run_underlying hp, sizeOf, typeInfo, hi, hs, run_sameAddr_other w hne ha hb]
  simp only [binOp]
  simp [Op.equal, Op.maxDepth, h 9999]

theorem beq_no {a b : Int} (h : ¬ a = b) : (a == b) = false := beq_eq_false_iff_ne.2 h
theorem beq_yes {a b : Int} (h : a = b) : (a == b) = true := beq_iff_eq.2 h
theorem bne_no {a b : Int} (h : a = b) : (a != b) = false := bne_eq_false_iff_eq.2 h
theorem bne_yes {a b : Int} (h : ¬ a = b) : (a != b) = true := bne_iff_ne.2 h
theorem dec_yes {p : Prop} [Decidable p] (h : p) : decide p = true := decide_eq_true h
theorem dec_no {p : Prop} [Decidable p] (h : ¬ p) : decide p = false := decide_eq_false h
end Go.Proofs.YtgcdcchmdcdflaaDoor
