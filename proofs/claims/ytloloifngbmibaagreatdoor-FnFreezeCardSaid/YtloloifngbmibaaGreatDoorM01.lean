/- Words for memory: what a slice of values reads as in a world, what a block holds, and how both are carried from world to world. No statement of the program stands here. append onto a row of the call's own, from a source that may be nil or empty; what such a row reads as. Rows of frames: flat cells, and what a row of the call's own reads as. Numbers in words of 64 bits, the lowest first: what they are worth, when they have no zeros ahead, that a number has one such form. No program stands here. -/
import Derived.Test.YtloloifngbmibaaGreatDoorProg
import Derived.WalkKit
import Derived.WalkSpells
import Derived.WalkLawsBesides
import Derived.KernelRfl
import Derived.RegionTactic
import Derived.ChangeAlike
import Derived.Lib.Hide
import Derived.Laws.CopyOwn
import Derived.Laws.OwnMore
import Derived.Deep.Draws
import Derived.Deep.RegionWith
import Derived.Deep.DeepCutAuto
import Derived.LaidEqlPtr
import Derived.Maps.AppendAt
import Derived.Deep.AppendLies
import Derived.OwnWalk
set_option linter.unusedVariables false
namespace Go.Proofs.YtloloifngbmibaaGreatDoor
open Go.RowKit

/-- Block g is just these cells, none of them frozen. -/
def Blk (w : World) (g : Nat) (t : TypeId) (cs : Array Value) : Prop := w.heap[g]? = some (.cells cs t (0, 0))

/-- The blocks that were made between two worlds. -/
def Nw (w w' : World) (k : Nat) : Prop := w.heap.size ≤ k ∧ k < w'.heap.size

/-- The blocks of a set stand in w' as in w. -/
def Still (S : Nat → Prop) (w w' : World) : Prop := ∀ k, S k → w'.heap[k]? = w.heap[k]?

section
variable {w w' w'' : World} {g : Nat} {t : TypeId} {cs : Array Value} {S S' : Nat → Prop}
theorem Blk.lt (h : Blk w g t cs) : g < w.heap.size := (Array.getElem?_eq_some_iff.1 h).1
theorem Blk.cell (h : Blk w g t cs) (i : Nat) : w.cell? ⟨g, i, none⟩ = cs[i]? := by
  unfold Blk at h
  simp [World.cell?, h]
theorem Blk.frozen (h : Blk w g t cs) (i : Nat) : w.frozen? ⟨g, i, none⟩ = false := by
  unfold Blk at h
  simp [World.frozen?, h]
theorem Blk.new (w : World) (t : TypeId) (cs : Array Value) : Blk (w.alloc (.cells cs t)) w.heap.size t cs := heap_alloc_new w _
theorem Blk.keep (h : Blk w g t cs) (hk : w'.heap[g]? = w.heap[g]?) : Blk w' g t cs := hk.trans h
theorem Blk.below {B : Nat} (h : Blk w g t cs) (hb : Below B w w') (hg : g < B) : Blk w' g t cs := h.keep (hb.block g hg)
theorem Blk.alloc (h : Blk w g t cs) (o : Obj) : Blk (w.alloc o) g t cs := h.keep (Below.heap_alloc w o g h.lt)
theorem Blk.drew (h : Blk w g t cs) : Blk w.drew g t cs := h
theorem Blk.drewN (h : Blk w g t cs) (n : Nat) : Blk (w.drewN n) g t cs := h
theorem Blk.set (h : Blk w g t cs) (i : Nat) (u : Value) : Blk (w.setCell ⟨g, i, none⟩ u) g t (cs.setIfInBounds i u) := by
  unfold Blk at h ⊢
  simp [World.setCell, Array.getElem?_modify, h]
theorem Blk.far (h : Blk w g t cs) {p : Addr} (hp : g ≠ p.block) (u : Value) : Blk (w.setCell p u) g t cs := h.keep (Below.heap_setCell w p u g hp)

theorem Still.refl (S : Nat → Prop) (w : World) : Still S w w := fun _ _ => rfl
theorem Still.trans (h : Still S w w') (h' : Still S w' w'') : Still S w w'' := fun k hk => (h' k hk).trans (h k hk)
theorem Still.mono (h : Still S' w w') (hs : ∀ k, S k → S' k) : Still S w w' := fun k hk => h k (hs k hk)
theorem Still.set (h : Still S w w') {p : Addr} (hp : ∀ k, S k → k ≠ p.block) (u : Value) : Still S w (w'.setCell p u) := fun k hk => (Below.heap_setCell w' p u k (hp k hk)).trans (h k hk)
theorem Still.alloc (h : Still S w w') (hp : ∀ k, S k → k < w'.heap.size) (o : Obj) : Still S w (w'.alloc o) := fun k hk => (Below.heap_alloc w' o k (hp k hk)).trans (h k hk)
theorem still_below {B : Nat} (h : Below B w w') (hs : ∀ k, S k → k < B) : Still S w w' := fun k hk => h.block k (hs k hk)
theorem below_drewN' {B : Nat} (h : Below B w w') (n : Nat) : Below B w (w'.drewN n) := ⟨h.os, h.tape, h.output, h.size, h.block⟩
theorem below_up (h : Below w.heap.size w w') (h' : Below w'.heap.size w' w'') : Below w.heap.size w w'' := h.trans (h'.mono h.size)
theorem below_al (h : Below w.heap.size w w') (o : Obj) : Below w.heap.size w (w'.alloc o) := h.alloc h.size o
theorem nw_up {k : Nat} (h : Below w'.heap.size w' w'') (hk : Nw w w' k) : Nw w w'' k := ⟨hk.1, Nat.lt_of_lt_of_le hk.2 h.size⟩
theorem nw_late {k : Nat} (h : Below w.heap.size w w') (hk : Nw w' w'' k) : Nw w w'' k := ⟨Nat.le_trans h.size hk.1, hk.2⟩
end

/-- Alike but for the count of draws. -/
structure Alk (w' w : World) : Prop where
  heap : w'.heap = w.heap
  os : w'.os = w.os
  tape : w'.tape = w.tape
  output : w'.output = w.output
theorem Alk.below {B : Nat} {w0 w w' : World} (h : Alk w' w) (hb : Below B w0 w) : Below B w0 w' :=
  ⟨h.os.trans hb.os, h.tape.trans hb.tape, h.output.trans hb.output, by rw [h.heap]; exact hb.size, fun k hk => by rw [h.heap]; exact hb.block k hk⟩
theorem Alk.blk {w w' : World} {g : Nat} {t : TypeId} {cs : Array Value} (h : Alk w' w) (hb : Blk w g t cs) : Blk w' g t cs := by
  unfold Blk
  rw [h.heap]
  exact hb

/-- A slice value's cells: what its address leads to, if it has any element. -/
def Rd (w : World) (S : Nat → Prop) (A : Option Addr) (xs : List Value) : Prop :=
  0 < xs.length → ∃ b o, A = some ⟨b, o, none⟩ ∧ S b ∧ ∀ j u, xs[j]? = some u → w.cell? ⟨b, o + j, none⟩ = some u

section
variable {w w' : World} {S S' : Nat → Prop} {A : Option Addr} {xs : List Value}
theorem Rd.nil (w : World) (S : Nat → Prop) (A : Option Addr) : Rd w S A [] := fun h => absurd h (by simp)
theorem Rd.keep (h : Rd w S A xs) (hk : Still S w w') : Rd w' S A xs := fun hn => by
  obtain ⟨b, o, e, hb, hc⟩ := h hn
  exact ⟨b, o, e, hb, fun j u hu => (World.cell?_of_block (a := ⟨b, o + j, none⟩) (hk b hb)).trans (hc j u hu)⟩
theorem Rd.mono (h : Rd w S A xs) (hs : ∀ k, S k → S' k) : Rd w S' A xs := fun hn => by
  obtain ⟨b, o, e, hb, hc⟩ := h hn
  exact ⟨b, o, e, hs b hb, hc⟩
theorem Rd.at_ (h : Rd w S A xs) {k : Nat} (hk : k < xs.length) : ∃ b o, A = some ⟨b, o, none⟩ ∧ S b ∧ w.cell? ⟨b, o + k, none⟩ = some xs[k] := by
  obtain ⟨b, o, e, hb, hc⟩ := h (by omega)
  exact ⟨b, o, e, hb, hc k _ (List.getElem?_eq_getElem hk)⟩
theorem Rd.of_blk {g : Nat} {t : TypeId} {ys : List Value} (h : Blk w g t (xs ++ ys).toArray) (hS : S g) : Rd w S (some ⟨g, 0, none⟩) xs := fun _ =>
  ⟨g, 0, rfl, hS, fun j u hu => by
    rw [Nat.zero_add, h.cell j]
    have hj := (List.getElem?_eq_some_iff.1 hu).1
    simpa [List.getElem?_append_left hj] using hu⟩
theorem Rd.of_blk_from {g k : Nat} {t : TypeId} {ys : List Value} (h : Blk w g t ys.toArray) (hS : S g) : Rd w S (some ⟨g, k, none⟩) (ys.drop k) := fun _ =>
  ⟨g, k, rfl, hS, fun j u hu => by
    rw [h.cell]
    simpa [List.getElem?_drop] using hu⟩
end

/-- Whole numbers of a kind as values. -/
def ints (k : IntKind) (xs : List Int) : List Value := xs.map (Value.int k)
theorem ints_length (k : IntKind) (xs : List Int) : (ints k xs).length = xs.length := by simp [ints]
theorem ints_get (k : IntKind) (xs : List Int) (j : Nat) (h : j < xs.length) : (ints k xs)[j]? = some (.int k (xs[j]?.getD 0)) := by simp [ints, h]
theorem ints_append (k : IntKind) (xs ys : List Int) : ints k (xs ++ ys) = ints k xs ++ ints k ys := by simp [ints]
theorem ints_drop (k : IntKind) (xs : List Int) (n : Nat) : ints k (xs.drop n) = (ints k xs).drop n := by simp [ints, List.map_drop]
theorem ints_one (k : IntKind) (xs : List Int) : ∀ v ∈ ints k xs, v.oneCell' = true := by
  intro v hv
  simp only [ints, List.mem_map] at hv
  obtain ⟨_, _, rfl⟩ := hv
  rfl

/-- A slice value of whole numbers. -/
def SlV (w : World) (S : Nat → Prop) (k : IntKind) (v : Value) (xs : List Int) : Prop :=
  ∃ A c, v = .slice A xs.length c ∧ xs.length ≤ c ∧ Rd w S A (ints k xs)

section
variable {w w' : World} {S S' : Nat → Prop} {k : IntKind} {v : Value} {xs : List Int}
theorem SlV.nil (w : World) (S : Nat → Prop) (k : IntKind) : SlV w S k (.slice none 0 0) [] := ⟨none, 0, rfl, Nat.le_refl _, Rd.nil _ _ _⟩
theorem SlV.keep (h : SlV w S k v xs) (hk : Still S w w') : SlV w' S k v xs := by
  obtain ⟨A, c, e, hl, hr⟩ := h
  exact ⟨A, c, e, hl, hr.keep hk⟩
theorem SlV.mono (h : SlV w S k v xs) (hs : ∀ k, S k → S' k) : SlV w S' k v xs := by
  obtain ⟨A, c, e, hl, hr⟩ := h
  exact ⟨A, c, e, hl, hr.mono hs⟩
theorem sl_done {A : Option Addr} {n c : Nat} (hr : Rd w S A (ints k xs)) (hl : xs.length ≤ c) (hn : n = xs.length) (hst : Still S w w') (hs : ∀ k, S k → S' k) : SlV w' S' k (.slice A n c) xs := by
  subst hn
  exact ⟨A, c, rfl, hl, (hr.keep hst).mono hs⟩
theorem rd_int {A : Option Addr} (h : Rd w S A (ints k xs)) {j : Nat} (hj : j < xs.length) : ∃ b o, A = some ⟨b, o, none⟩ ∧ S b ∧ w.cell? ⟨b, o + j, none⟩ = some (.int k (xs[j]?.getD 0)) := by
  obtain ⟨b, o, e, hb, hc⟩ := h.at_ (k := j) (by rw [ints_length]; exact hj)
  refine ⟨b, o, e, hb, hc.trans ?_⟩
  simp [ints, hj]
end

theorem setRow_alloc (w : World) (c c' : Array Value) (t : TypeId) : (w.alloc (.cells c t)).setRow w.heap.size c' = w.alloc (.cells c' t) := by
  unfold World.setRow World.alloc
  congr 1
  apply Array.ext_getElem?
  intro k
  simp only [Array.getElem?_modify, Array.getElem?_push]
  by_cases hk : k = w.heap.size
  · subst hk
    simp
  · simp [hk, Ne.symm hk]

theorem madeCells_one (v : Value) (n : Nat) : madeCells #[v] n = (List.replicate n v).toArray := by
  apply Array.ext_getElem?
  intro j
  by_cases hj : j < n
  · simp [madeCells, hj, Nat.mod_one]
  · simp [madeCells, hj]

theorem neq_ptr_far {P : Program} (w : World) {n : Nat} {tp te : TypeId} {a b : Addr} {ca cb : Array Value} {ta tb : TypeId} (hp : P.underlying tp = some (.pointer te)) (hte : (P.info? te).map (·.size) = some (n + 1))
    (hne : a ≠ b) (ha : Blk w a.block ta ca) (hb : Blk w b.block tb cb) :
    (binOp .neq tp (.pointer (some a)) (.pointer (some b))).run P w = .ok (.bool true) w := by
  obtain ⟨i, hi, hz⟩ := Option.map_eq_some_iff.1 hte
  have hs : i.size ≠ 0 := by omega
  have h : ∀ d : Nat, (Op.equalIn (d + 1) tp (.pointer (some a)) (.pointer (some b))).run P w = .ok false w := fun d => by
    simp [Op.equalIn, run_underlying hp, sizeOf, typeInfo, hi, hs, run_sameAddr_other w hne ha hb]
  simp only [binOp]
  simp [Op.equal, Op.maxDepth, h 9999]

theorem beq_no {a b : Int} (h : ¬ a = b) : (a == b) = false := beq_eq_false_iff_ne.2 h
theorem beq_yes {a b : Int} (h : a = b) : (a == b) = true := beq_iff_eq.2 h
theorem bne_no {a b : Int} (h : a = b) : (a != b) = false := bne_eq_false_iff_eq.2 h
theorem bne_yes {a b : Int} (h : ¬ a = b) : (a != b) = true := bne_iff_ne.2 h
theorem dec_yes {p : Prop} [Decidable p] (h : p) : decide p = true := decide_eq_true h
theorem dec_no {p : Prop} [Decidable p] (h : ¬ p) : decide p = false := decide_eq_false h
end Go.Proofs.YtloloifngbmibaaGreatDoor
set_option linter.unusedVariables false
set_option maxRecDepth 4000
namespace Go.Proofs.YtloloifngbmibaaGreatDoor
open Go.RowKit

theorem own_sl {w : World} {base n : Nat} {e : TypeId} {k : IntKind} {v : Value} {xs : List Int} (h : w.ownsRow base e 1 v n (ints k xs)) : SlV w (fun j => base ≤ j ∧ j < w.heap.size) k v xs := by
  have hl : xs.length = n := by have := h.1; simpa [ints_length] using this
  subst hl
  rcases h.2 with ⟨rfl, h0⟩ | ⟨g, cap, cur, rfl, hb, hh, hnc, _, _, ht⟩
  · have : xs = [] := List.eq_nil_of_length_eq_zero h0
    subst this
    exact SlV.nil _ _ _
  · refine ⟨_, _, rfl, hnc, ?_⟩
    rw [← ht, Nat.mul_one]
    have : Blk w g e ((cur.toList.take xs.length) ++ (cur.toList.drop xs.length)).toArray := by
      rw [List.take_append_drop]
      exact hh
    exact Rd.of_blk this ⟨hb, (Array.getElem?_eq_some_iff.1 hh).1⟩

section
variable {P : Program}
theorem run_append_zero (w : World) (base : Nat) (t ty e : TypeId) (i : TypeInfo) (size : Nat) (ht : P.underlying t = some (.slice e)) (hi : P.info? e = some i)
    (v : Value) (n : Nat) (xs : List Value) (hown : w.ownsRow base e size v n xs) (c : Nat) : (Builtin.append_ #[t, t] ty #[v, .slice none 0 c]).run P w = .ok v w := by
  rcases hown.2 with ⟨rfl, rfl⟩ | ⟨g, cap, cur, rfl, _, _, hnc, _⟩
  · simp [Builtin.append_, run_underlying ht, sizeOf, typeInfo, hi, Builtin.lenOf, Builtin.firstCells]
  · simp [Builtin.append_, run_underlying ht, sizeOf, typeInfo, hi, Builtin.lenOf, Builtin.firstCells, hnc, storeCells]

theorem run_append_rd (w : World) (base : Nat) (t ty e : TypeId) (z : Value) (size bytes : Nat) (ht : P.underlying t = some (.slice e)) (hinfo : (P.info? e).map (fun i => (i.zero, i.size, i.bytes)) = some (some z, size, bytes))
    (hzs : z.cells.size = size) (hsz : 0 < size) (v : Value) (n : Nat) (xs : List Value) (hown : w.ownsRow base e size v n xs)
    (S : Nat → Prop) (A : Option Addr) (m c : Nat) (news : List Value) (hm : news.length = m * size) (hr : Rd w S A news) (h1 : ∀ u ∈ news, u.oneCell' = true)
    (h63 : n + m ≤ maxLen) (hbytes : (n + m) * bytes ≤ 140737488355328) (hbase : base ≤ w.heap.size) :
    ∃ v' w', (Builtin.append_ #[t, t] ty #[v, .slice A m c]).run P w = .ok v' w' ∧ w'.ownsRow base e size v' (n + m) (xs ++ news) ∧ w.grownBy w' v.ownBlock ∧ (v'.ownBlock = v.ownBlock ∨ v'.ownBlock = some w.heap.size) := by
  obtain ⟨i, hi, hz0, hz1, hz2⟩ := info_parts hinfo
  rcases Nat.eq_zero_or_pos m with h0 | h0
  · subst h0
    have hn : news = [] := List.eq_nil_of_length_eq_zero (by simpa using hm)
    subst hn
    rcases A with _ | ad
    · exact ⟨v, w, run_append_zero w base t ty e i size ht hi v n xs hown c, by simpa using hown, World.grownBy.refl w _, .inl rfl⟩
    · obtain ⟨v', w', hrun, h2, h3, _, h5⟩ := run_append_own_at (P := P) w base t ty e i z size bytes ht hi hz0 hz1 hz2 hzs hsz v n xs hown ad 0 c [] (by simp) (by simp) h1 h63 hbytes hbase
      exact ⟨v', w', hrun, h2, h3, h5⟩
  · obtain ⟨b, o, rfl, _, hc⟩ := hr (by rw [hm]; exact Nat.mul_pos h0 hsz)
    have hcells : ∀ j u, news[j]? = some u → w.cell? ((⟨b, o, none⟩ : Addr).add j) = some u := fun j u hu => by
      have e : (⟨b, o, none⟩ : Addr).add j = ⟨b, o + j, none⟩ := by unfold Addr.add; split <;> simp_all
      rw [e]
      exact hc j u hu
    obtain ⟨v', w', hrun, h2, h3, _, h5⟩ := run_append_own_at (P := P) w base t ty e i z size bytes ht hi hz0 hz1 hz2 hzs hsz v n xs hown ⟨b, o, none⟩ m c news hm hcells h1 h63 hbytes hbase
    exact ⟨v', w', hrun, h2, h3, h5⟩

theorem wp_append_rd (w : World) {o : Oper} {a : Act} {K : Act → World → Prop} {Q : Exit → Act → World → Prop} (s x : Operand) (t : TypeId)
    (ho : o.op = .call { callee := .builtin .append, args := #[s, x], argTypes := #[t, t] })
    (base : Nat) (e : TypeId) (z : Value) (size bytes : Nat) (ht : P.underlying t = some (.slice e)) (hinfo : (P.info? e).map (fun i => (i.zero, i.size, i.bytes)) = some (some z, size, bytes))
    (hzs : z.cells.size = size) (hsz : 0 < size) (v : Value) (n : Nat) (xs : List Value) (hs : a.eval s = v) (hown : w.ownsRow base e size v n xs)
    (S : Nat → Prop) (A : Option Addr) (m c : Nat) (news : List Value) (hx : a.eval x = .slice A m c) (hm : news.length = m * size) (hr : Rd w S A news) (h1 : ∀ u ∈ news, u.oneCell' = true)
    (h63 : n + m ≤ maxLen) (hbytes : (n + m) * bytes ≤ 140737488355328) (hbase : base ≤ w.heap.size)
    (h : ∀ v' w', w'.ownsRow base e size v' (n + m) (xs ++ news) → w.grownBy w' v.ownBlock → (v'.ownBlock = v.ownBlock ∨ v'.ownBlock = some w.heap.size) → K (a.put o.dst v') w') : o.wp P a w K Q := by
  obtain ⟨v', w', hrun, h2, h3, h4⟩ := run_append_rd (P := P) w base t o.type e z size bytes ht hinfo hzs hsz v n xs hown S A m c news hm hr h1 h63 hbytes hbase
  unfold Oper.wp execOp
  simp only [ho, resolve, invoke, builtin, Sem.run_bind, Sem.run_pure, Result.andThen_ok, List.map_toArray, List.map_cons, List.map_nil, hs, hx, hrun]
  exact h v' w' h2 h3 h4

theorem wpList_append_rd (w : World) {ops : Array Oper} {rest : List Oper} {o : Oper} {a : Act} {Q : Exit → Act → World → Prop} (hgd : o.guard = none) (s x : Operand) (t : TypeId)
    (ho : o.op = .call { callee := .builtin .append, args := #[s, x], argTypes := #[t, t] })
    (base : Nat) (e : TypeId) (z : Value) (size bytes : Nat) (ht : P.underlying t = some (.slice e)) (hinfo : (P.info? e).map (fun i => (i.zero, i.size, i.bytes)) = some (some z, size, bytes))
    (hzs : z.cells.size = size) (hsz : 0 < size) (v : Value) (n : Nat) (xs : List Value) (hs : a.eval s = v) (hown : w.ownsRow base e size v n xs)
    (S : Nat → Prop) (A : Option Addr) (m c : Nat) (news : List Value) (hx : a.eval x = .slice A m c) (hm : news.length = m * size) (hr : Rd w S A news) (h1 : ∀ u ∈ news, u.oneCell' = true)
    (h63 : n + m ≤ maxLen) (hbytes : (n + m) * bytes ≤ 140737488355328) (hbase : base ≤ w.heap.size)
    (h : ∀ v' w', w'.ownsRow base e size v' (n + m) (xs ++ news) → w.grownBy w' v.ownBlock → (v'.ownBlock = v.ownBlock ∨ v'.ownBlock = some w.heap.size) → wpList P ops Q rest (a.put o.dst v') w') : wpList P ops Q (o :: rest) a w :=
  wpList_plain hgd fun _ hK => wp_append_rd w s x t ho base e z size bytes ht hinfo hzs hsz v n xs hs hown S A m c news hx hm hr h1 h63 hbytes hbase fun v' w' h2 h3 h4 => hK _ _ (h v' w' h2 h3 h4)

theorem step_append_rd (w : World) {ops : Array Oper} {o : Oper} {a : Act} {K : Act → World → Prop} {Q : Exit → Act → World → Prop} {E : Prop} (hgd : o.guard = none) (s x : Operand) (t : TypeId)
    (ho : o.op = .call { callee := .builtin .append, args := #[s, x], argTypes := #[t, t] })
    (base : Nat) (e : TypeId) (z : Value) (size bytes : Nat) (ht : P.underlying t = some (.slice e)) (hinfo : (P.info? e).map (fun i => (i.zero, i.size, i.bytes)) = some (some z, size, bytes))
    (hzs : z.cells.size = size) (hsz : 0 < size) (v : Value) (n : Nat) (xs : List Value) (hs : a.eval s = v) (hown : w.ownsRow base e size v n xs)
    (S : Nat → Prop) (A : Option Addr) (m c : Nat) (news : List Value) (hx : a.eval x = .slice A m c) (hm : news.length = m * size) (hr : Rd w S A news) (h1 : ∀ u ∈ news, u.oneCell' = true)
    (h63 : n + m ≤ maxLen) (hbytes : (n + m) * bytes ≤ 140737488355328) (hbase : base ≤ w.heap.size)
    (h : ∀ v' w', w'.ownsRow base e size v' (n + m) (xs ++ news) → w.grownBy w' v.ownBlock → (v'.ownBlock = v.ownBlock ∨ v'.ownBlock = some w.heap.size) → K (a.put o.dst v') w') : if Region.wanted o (yielded ops a.tmps) = true then o.wp P a w K Q else E := by
  rw [if_pos (by simp [Region.wanted, hgd])]
  exact wp_append_rd w s x t ho base e z size bytes ht hinfo hzs hsz v n xs hs hown S A m c news hx hm hr h1 h63 hbytes hbase h
end
end Go.Proofs.YtloloifngbmibaaGreatDoor
set_option linter.unusedVariables false
namespace Go.Proofs.YtloloifngbmibaaGreatDoor
open Go.RowKit

/-- A frame: name, line, column. -/
structure Fr where
  nm : ByteArray
  ln : Int
  cl : Int
@[reducible] def Fr.cells (f : Fr) : List Value := [.string f.nm, .int .i64 f.ln, .int .i64 f.cl]
@[reducible] def Fr.agg (f : Fr) : Value := .agg #[.string f.nm, .int .i64 f.ln, .int .i64 f.cl]
/-- The cells of a call frame whose file name lies at p. -/
@[reducible] def Fr.call (p : Addr) (f : Fr) : List Value := [.string f.nm, .pointer (some p), .int .i32 f.ln, .int .i32 f.cl]
def frs (l : List Fr) : List Value := l.flatMap Fr.cells
def cfs (p : Addr) (l : List Fr) : List Value := l.flatMap (Fr.call p)
def nms (l : List Fr) : List Value := l.map (fun f => Value.string f.nm)
/-- What the law's own frames are. -/
def Fr.Ok (f : Fr) : Prop := f.nm.size ≤ 16 ∧ 1 ≤ f.ln ∧ f.ln ≤ 100000 ∧ 1 ≤ f.cl ∧ f.cl ≤ 100000

theorem flat_get {α : Type} (c : α → List Value) (k : Nat) (hk : ∀ a, (c a).length = k) (l : List α) (i j : Nat) (hi : i < l.length) (hj : j < k) : (l.flatMap c)[i * k + j]? = (c l[i])[j]? := by
  induction l generalizing i with
  | nil => simp at hi
  | cons x xs ih =>
    rw [List.flatMap_cons]
    cases i with
    | zero =>
      rw [List.getElem?_append_left (by rw [hk]; omega)]
      simp
    | succ i =>
      have hi' : i < xs.length := by simpa using hi
      rw [List.getElem?_append_right (by rw [hk, Nat.succ_mul]; omega), hk, show (i + 1) * k + j - k = i * k + j by rw [Nat.succ_mul]; omega, ih i hi']
      simp
theorem flat_len {α : Type} (c : α → List Value) (k : Nat) (hk : ∀ a, (c a).length = k) (l : List α) : (l.flatMap c).length = l.length * k := by
  induction l with
  | nil => simp
  | cons x xs ih => rw [List.flatMap_cons, List.length_append, hk, ih, List.length_cons, Nat.succ_mul]; omega
theorem frs_len (l : List Fr) : (frs l).length = l.length * 3 := flat_len _ 3 (fun _ => rfl) l
theorem cfs_len (p : Addr) (l : List Fr) : (cfs p l).length = l.length * 4 := flat_len _ 4 (fun _ => rfl) l
theorem nms_len (l : List Fr) : (nms l).length = l.length := by simp [nms]
theorem frs_app (l m : List Fr) : frs (l ++ m) = frs l ++ frs m := by simp [frs]
theorem cfs_app (p : Addr) (l m : List Fr) : cfs p (l ++ m) = cfs p l ++ cfs p m := by simp [cfs]
theorem nms_app (l m : List Fr) : nms (l ++ m) = nms l ++ nms m := by simp [nms]
theorem frs_one (l : List Fr) : ∀ v ∈ frs l, v.oneCell' = true := by
  intro v hv
  simp only [frs, List.mem_flatMap] at hv
  obtain ⟨f, _, hv⟩ := hv
  simp at hv
  rcases hv with rfl | rfl | rfl <;> rfl
theorem cfs_one (p : Addr) (l : List Fr) : ∀ v ∈ cfs p l, v.oneCell' = true := by
  intro v hv
  simp only [cfs, List.mem_flatMap] at hv
  obtain ⟨f, _, hv⟩ := hv
  simp at hv
  rcases hv with rfl | rfl | rfl | rfl <;> rfl
theorem nms_one (l : List Fr) : ∀ v ∈ nms l, v.oneCell' = true := by
  intro v hv
  simp only [nms, List.mem_map] at hv
  obtain ⟨f, _, rfl⟩ := hv
  rfl

section
variable {w w' : World} {S S' : Nat → Prop} {A : Option Addr}
/-- The three cells of frame i. -/
theorem rd_fr {l : List Fr} (h : Rd w S A (frs l)) {i : Nat} (hi : i < l.length) : ∃ f, l[i]? = some f ∧ ∃ b o, A = some ⟨b, o, none⟩ ∧ S b ∧ w.cell? ⟨b, o + i * 3, none⟩ = some (.string f.nm) ∧ w.cell? ⟨b, o + i * 3 + 1, none⟩ = some (.int .i64 f.ln) ∧ w.cell? ⟨b, o + i * 3 + 2, none⟩ = some (.int .i64 f.cl) := by
  obtain ⟨b, o, e, hb, hc⟩ := h (by rw [frs_len]; omega)
  have q := fun j (hj : j < 3) => flat_get Fr.cells 3 (fun _ => rfl) l i j hi hj
  exact ⟨l[i], List.getElem?_eq_getElem hi, b, o, e, hb, hc _ _ (q 0 (by decide)), hc _ _ (q 1 (by decide)), hc _ _ (q 2 (by decide))⟩
theorem rd_cf {p : Addr} {l : List Fr} (h : Rd w S A (cfs p l)) {i : Nat} (hi : i < l.length) : ∃ f, l[i]? = some f ∧ ∃ b o, A = some ⟨b, o, none⟩ ∧ S b ∧ w.cell? ⟨b, o + i * 4, none⟩ = some (.string f.nm) ∧ w.cell? ⟨b, o + i * 4 + 1, none⟩ = some (.pointer (some p)) ∧ w.cell? ⟨b, o + i * 4 + 2, none⟩ = some (.int .i32 f.ln) ∧ w.cell? ⟨b, o + i * 4 + 3, none⟩ = some (.int .i32 f.cl) := by
  obtain ⟨b, o, e, hb, hc⟩ := h (by rw [cfs_len]; omega)
  have q := fun j (hj : j < 4) => flat_get (Fr.call p) 4 (fun _ => rfl) l i j hi hj
  exact ⟨l[i], List.getElem?_eq_getElem hi, b, o, e, hb, hc _ _ (q 0 (by decide)), hc _ _ (q 1 (by decide)), hc _ _ (q 2 (by decide)), hc _ _ (q 3 (by decide))⟩
theorem rd_nm {l : List Fr} (h : Rd w S A (nms l)) {i : Nat} (hi : i < l.length) : ∃ f, l[i]? = some f ∧ ∃ b o, A = some ⟨b, o, none⟩ ∧ S b ∧ w.cell? ⟨b, o + i, none⟩ = some (.string f.nm) := by
  obtain ⟨b, o, e, hb, hc⟩ := h (by rw [nms_len]; omega)
  exact ⟨l[i], List.getElem?_eq_getElem hi, b, o, e, hb, hc _ _ (by simp [nms, hi])⟩

/-- What a row of the call's own reads as. -/
theorem own_rd {base n size : Nat} {e : TypeId} {v : Value} {xs : List Value} (h : w.ownsRow base e size v n xs) : ∃ A c, v = .slice A n c ∧ n ≤ c ∧ Rd w (fun j => base ≤ j ∧ j < w.heap.size) A xs ∧ (A = none ∨ ∃ g, A = some ⟨g, 0, none⟩ ∧ base ≤ g ∧ ∃ cur, Blk w g e cur) := by
  have hl := h.1
  rcases h.2 with ⟨rfl, h0⟩ | ⟨g, cap, cur, rfl, hb, hh, hnc, _, _, ht⟩
  · subst h0
    have : xs = [] := List.eq_nil_of_length_eq_zero (by simpa using hl)
    subst this
    exact ⟨none, 0, rfl, Nat.le_refl _, Rd.nil _ _ _, .inl rfl⟩
  · refine ⟨_, _, rfl, hnc, ?_, .inr ⟨g, rfl, hb, cur, hh⟩⟩
    have : Blk w g e (xs ++ (cur.toList.drop (n * size))).toArray := by
      rw [← ht, List.take_append_drop]
      exact hh
    exact Rd.of_blk this ⟨hb, (Array.getElem?_eq_some_iff.1 hh).1⟩
/-- A row of the call's own stands as long as its own block does. -/
theorem own_keep {base n size : Nat} {e : TypeId} {v : Value} {xs : List Value} (h : w.ownsRow base e size v n xs) (hk : ∀ g cs, v.ownBlock = some g → Blk w g e cs → w'.heap[g]? = w.heap[g]?) : w'.ownsRow base e size v n xs := by
  refine ⟨h.1, ?_⟩
  rcases h.2 with h1 | ⟨g, cap, cur, h1, h2, h3, h4⟩
  · exact .inl h1
  · exact .inr ⟨g, cap, cur, h1, h2, (hk g cur (by rw [h1]; rfl) h3).trans h3, h4⟩
theorem own_below {base n size : Nat} {e : TypeId} {v : Value} {xs : List Value} (h : w.ownsRow base e size v n xs) (hb : Below w.heap.size w w') : w'.ownsRow base e size v n xs :=
  own_keep h fun g cs _ h3 => hb.block g (Blk.lt h3)
theorem own_set {base n size : Nat} {e : TypeId} {v : Value} {xs : List Value} (h : w.ownsRow base e size v n xs) {p : Addr} {t : TypeId} {cs : Array Value} (hp : Blk w p.block t cs) (hne : t ≠ e) (u : Value) : (w.setCell p u).ownsRow base e size v n xs :=
  own_keep h fun g cs' _ h3 => Below.heap_setCell w p u g (by
    rintro rfl
    have h3' : Blk w p.block e cs' := h3
    unfold Blk at hp h3'
    rw [hp] at h3'
    injection h3' with h3'
    injection h3' with _ h3'
    exact hne h3')
theorem own_grown {base n size : Nat} {e : TypeId} {v : Value} {xs : List Value} (h : w.ownsRow base e size v n xs) {k : Option Nat} (hg : w.grownBy w' k) (hk : ∀ g cs, v.ownBlock = some g → Blk w g e cs → some g ≠ k) : w'.ownsRow base e size v n xs :=
  own_keep h fun g cs h1 h3 => hg.block g (Blk.lt h3) (fun h => hk g cs h1 h3 (by first | exact h | exact h.symm))
theorem Blk.grown {g : Nat} {t : TypeId} {cs : Array Value} {k : Option Nat} (h : Blk w g t cs) (hg : w.grownBy w' k) (hk : some g ≠ k) : Blk w' g t cs :=
  h.keep (hg.block g h.lt (fun e => hk (by first | exact e | exact e.symm)))
/-- A row's own block is of the row's type. -/
theorem own_ne {base n size : Nat} {e t : TypeId} {v : Value} {xs : List Value} (h : w.ownsRow base e size v n xs) {g : Nat} {cs : Array Value} (hb : Blk w g t cs) (hne : t ≠ e) : some g ≠ v.ownBlock := by
  rcases h.2 with ⟨rfl, _⟩ | ⟨g', cap, cur, rfl, _, h3, _⟩
  · intro h; cases h
  · intro h
    have h : some g = some g' := h
    injection h with h
    subst h
    unfold Blk at hb
    rw [hb] at h3
    injection h3 with h3
    injection h3 with _ h3
    exact hne h3
theorem own_lt {base n size : Nat} {e : TypeId} {v : Value} {xs : List Value} (h : w.ownsRow base e size v n xs) {g : Nat} (hg : v.ownBlock = some g) : base ≤ g ∧ g < w.heap.size := by
  rcases h.2 with ⟨rfl, _⟩ | ⟨g', cap, cur, rfl, h2, h3, _⟩
  · cases hg
  · have hg : some g' = some g := hg
    injection hg with hg
    subst hg
    exact ⟨h2, (Array.getElem?_eq_some_iff.1 h3).1⟩
end
end Go.Proofs.YtloloifngbmibaaGreatDoor
set_option linter.unusedVariables false
namespace Go.Proofs.YtloloifngbmibaaGreatDoor

/-- Words, the lowest first. -/
def nv : List Int → Int
  | [] => 0
  | x :: xs => x + 18446744073709551616 * nv xs
def WL (xs : List Int) : Prop := ∀ x ∈ xs, 0 ≤ x ∧ x < 18446744073709551616
theorem WL.nil : WL [] := fun x hx => by cases hx
theorem WL.cons {x : Int} {xs : List Int} : WL (x :: xs) ↔ (0 ≤ x ∧ x < 18446744073709551616) ∧ WL xs := by
  constructor
  · intro h
    exact ⟨h x (by simp), fun y hy => h y (by simp [hy])⟩
  · rintro ⟨h1, h2⟩ y hy
    rcases List.mem_cons.1 hy with rfl | hy
    · exact h1
    · exact h2 y hy
theorem WL.one {x : Int} (h0 : 0 ≤ x) (h1 : x < 18446744073709551616) : WL [x] := WL.cons.2 ⟨⟨h0, h1⟩, WL.nil⟩
theorem WL.app {xs ys : List Int} (h : WL xs) (h' : WL ys) : WL (xs ++ ys) := fun x hx => by
  rcases List.mem_append.1 hx with hx | hx
  · exact h x hx
  · exact h' x hx
theorem WL.take {xs : List Int} (h : WL xs) (n : Nat) : WL (xs.take n) := fun x hx => h x (List.mem_of_mem_take hx)
theorem WL.drop {xs : List Int} (h : WL xs) (n : Nat) : WL (xs.drop n) := fun x hx => h x (List.mem_of_mem_drop hx)
theorem WL.at_ {xs : List Int} (h : WL xs) (k : Nat) : 0 ≤ xs[k]?.getD 0 ∧ xs[k]?.getD 0 < 18446744073709551616 := by
  cases hk : xs[k]? with
  | none => simp
  | some x => simpa using h x (List.mem_of_getElem? hk)
theorem WL.zeros (n : Nat) : WL (List.replicate n 0) := fun x hx => by
  have := (List.mem_replicate.1 hx).2
  omega
theorem WL.set {xs : List Int} (h : WL xs) (k : Nat) {x : Int} (h0 : 0 ≤ x) (h1 : x < 18446744073709551616) : WL (xs.set k x) := fun y hy => by
  rcases List.mem_or_eq_of_mem_set hy with hy | rfl
  · exact h y hy
  · exact ⟨h0, h1⟩
theorem nv_nonneg : ∀ {xs : List Int}, WL xs → 0 ≤ nv xs
  | [], _ => Int.le_refl _
  | x :: xs, h => by
    have h1 := (WL.cons.1 h).1
    have h2 := nv_nonneg (WL.cons.1 h).2
    simp only [nv]
    omega
theorem nv_zeros : ∀ (n : Nat), nv (List.replicate n 0) = 0
  | 0 => rfl
  | n + 1 => by simp [List.replicate_succ, nv, nv_zeros n]

/-- No zero stands at the high end. -/
def Nrm : List Int → Prop
  | [] => True
  | [x] => ¬ x = 0
  | _ :: y :: ys => Nrm (y :: ys)
theorem Nrm.tail : ∀ {x : Int} {xs : List Int}, Nrm (x :: xs) → Nrm xs
  | _, [], _ => trivial
  | _, _ :: _, h => h
theorem nrm_zero : ∀ {xs : List Int}, WL xs → Nrm xs → nv xs = 0 → xs = []
  | [], _, _, _ => rfl
  | [x], h, hn, hv => by
    have hn' : ¬ x = 0 := hn
    simp only [nv] at hv
    omega
  | x :: y :: ys, h, hn, hv => by
    have h1 := (WL.cons.1 h).1
    have h2 := nv_nonneg (WL.cons.1 h).2
    have hz : nv (y :: ys) = 0 := by
      have : nv (x :: y :: ys) = x + 18446744073709551616 * nv (y :: ys) := rfl
      omega
    have := nrm_zero (WL.cons.1 h).2 hn hz
    cases this
/-- A number has one such form. -/
theorem nv_inj : ∀ {xs ys : List Int}, WL xs → WL ys → Nrm xs → Nrm ys → nv xs = nv ys → xs = ys
  | [], ys, _, hy, _, hny, h => (nrm_zero hy hny h.symm).symm
  | x :: xs, [], hx, _, hnx, _, h => nrm_zero hx hnx h
  | x :: xs, y :: ys, hx, hy, hnx, hny, h => by
    have h1 := (WL.cons.1 hx).1
    have h2 := (WL.cons.1 hy).1
    simp only [nv] at h
    have e1 : x = y := by omega
    have e2 : nv xs = nv ys := by omega
    rw [e1, nv_inj (WL.cons.1 hx).2 (WL.cons.1 hy).2 hnx.tail hny.tail e2]

/-- Without the zeros at the high end. -/
def nrm : List Int → List Int
  | [] => []
  | x :: xs => if x = 0 ∧ nrm xs = [] then [] else x :: nrm xs
theorem nv_nrm : ∀ (xs : List Int), nv (nrm xs) = nv xs
  | [] => rfl
  | x :: xs => by
    have ih := nv_nrm xs
    simp only [nrm]
    split
    · rename_i h
      rw [h.2] at ih
      simp only [nv] at ih ⊢
      omega
    · simp only [nv]
      omega
theorem nrm_nrm : ∀ (xs : List Int), Nrm (nrm xs)
  | [] => trivial
  | x :: xs => by
    have ih := nrm_nrm xs
    simp only [nrm]
    split
    · trivial
    · rename_i h
      cases hn : nrm xs with
      | nil =>
        intro hx
        exact h ⟨hx, hn⟩
      | cons y ys =>
        rw [hn] at ih
        exact ih
theorem nrm_of : ∀ {xs : List Int}, Nrm xs → nrm xs = xs
  | [], _ => rfl
  | [x], h => by
    have : ¬ x = 0 := h
    simp [nrm, this]
  | x :: y :: ys, h => by
    have ih := nrm_of (xs := y :: ys) h
    have e : nrm (x :: y :: ys) = if x = 0 ∧ nrm (y :: ys) = [] then [] else x :: nrm (y :: ys) := rfl
    rw [e, ih]
    simp
theorem nrm_snoc0 : ∀ (xs : List Int), nrm (xs ++ [0]) = nrm xs
  | [] => by simp [nrm]
  | x :: xs => by
    have ih := nrm_snoc0 xs
    simp only [List.cons_append, nrm, ih]
theorem nrm_snoc : ∀ (xs : List Int) {x : Int}, ¬ x = 0 → Nrm (xs ++ [x])
  | [], _, h => h
  | [y], _, h => h
  | y :: z :: ys, x, h => nrm_snoc (z :: ys) h
theorem nrm_le (xs : List Int) : (nrm xs).length ≤ xs.length := by
  induction xs with
  | nil => exact Nat.le_refl _
  | cons x xs ih =>
    simp only [nrm]
    split
    · simp
    · simpa using ih
theorem nrm_pre : ∀ (xs : List Int), nrm xs = xs.take (nrm xs).length
  | [] => rfl
  | x :: xs => by
    have ih := nrm_pre xs
    simp only [nrm]
    split
    · rfl
    · simp only [List.length_cons, List.take_succ_cons]
      rw [← ih]
theorem WL.nrm {xs : List Int} (h : WL xs) : WL (nrm xs) := by
  rw [nrm_pre]
  exact h.take _
/-- A walk down from the high end has come to k. -/
def Nat_ (xs : List Int) (k : Nat) : Prop := nrm (xs.take k) = nrm xs
theorem nat0 (xs : List Int) : Nat_ xs xs.length := by simp [Nat_]
theorem nat_succ {xs : List Int} {k : Nat} (hk : k + 1 ≤ xs.length) (h : Nat_ xs (k + 1)) (hz : xs[k]?.getD 0 = 0) : Nat_ xs k := by
  have hlt : k < xs.length := by omega
  have e : xs.take (k + 1) = xs.take k ++ [0] := by
    rw [List.take_succ_eq_append_getElem hlt]
    simp [hlt] at hz
    rw [hz]
  unfold Nat_ at h ⊢
  rw [← h, e, nrm_snoc0]
theorem nat_end {xs : List Int} {k : Nat} (hk : k ≤ xs.length) (h : Nat_ xs k) (hz : 0 < k → ¬ xs[k - 1]?.getD 0 = 0) : nrm xs = xs.take k := by
  unfold Nat_ at h
  rw [← h]
  cases k with
  | zero => rfl
  | succ k =>
    have hlt : k < xs.length := by omega
    have hz' := hz (by omega)
    simp only [Nat.add_sub_cancel] at hz'
    simp [hlt] at hz'
    rw [List.take_succ_eq_append_getElem hlt]
    exact nrm_of (nrm_snoc _ hz')

theorem nv_app : ∀ (xs ys : List Int), nv (xs ++ ys) = nv xs + 18446744073709551616 ^ xs.length * nv ys
  | [], ys => by simp [nv]
  | x :: xs, ys => by
    have ih := nv_app xs ys
    simp only [List.cons_append, nv, ih, List.length_cons, Int.pow_succ]
    rw [Int.mul_add, Int.mul_comm ((18446744073709551616 : Int) ^ xs.length) 18446744073709551616, Int.mul_assoc]
    omega
end Go.Proofs.YtloloifngbmibaaGreatDoor
