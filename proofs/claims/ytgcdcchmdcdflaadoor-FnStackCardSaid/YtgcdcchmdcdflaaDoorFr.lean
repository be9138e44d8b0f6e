/- Rows of frames: flat cells, and what a row of the call's own reads as. -/
import Derived.Test.YtgcdcchmdcdflaaDoorApp
set_option linter.unusedVariables false
namespace Go.Proofs.YtgcdcchmdcdflaaDoor
open Go.RowKit

/-- A frame: name, line, column. -/
structure Fr where
  nm : ByteArray
  ln : Int
  cl : Int
@[reducible] def Fr.cells (f : Fr) : List Value := [.string f.nm, .int .i64 f.ln, .int .i64 f.cl]
@[reducible] def Fr.agg (f : Fr) : Value := .agg #[.string f.nm, .int .i64 f.ln, .int .i64 f.cl]
/-- The cells of a call frame whose file name lies at p. -/
@[reducible] def Fr.call (p : Addr) (f : Fr) : List Value := [.string f.nm, .pointer (some p), .int .i32 f.ln, .int .i32 f.cl]
def frs (l : List Fr) : List Value := l.flatMap Fr.cells
def cfs (p : Addr) (l : List Fr) : List Value := l.flatMap (Fr.call p)
def nms (l : List Fr) : List Value := l.map (fun f => Value.string f.nm)
/-- What the law's own frames are. -/
def Fr.Ok (f : Fr) : Prop := f.nm.size ≤ 16 ∧ 1 ≤ f.ln ∧ f.ln ≤ 100000 ∧ 1 ≤ f.cl ∧ f.cl ≤ 100000

theorem flat_get {α : Type} (c : α → List Value) (k : Nat) (hk : ∀ a, (c a).length = k) (l : List α) (i j : Nat) (hi : i < l.length) (hj : j < k) : (l.flatMap c)[i * k + j]? = (c l[i])[j]? := by
  induction l generalizing i with
  | nil => simp at hi
  | cons x xs ih =>
    rw [List.flatMap_cons]
    cases i with
    | zero =>
      rw [List.getElem?_append_left (by rw [hk]; omega)]
      simp
    | succ i =>
      have hi' : i < xs.length := by simpa using hi
      rw [List.getElem?_append_right (by rw [hk, Nat.succ_mul]; omega), hk, show (i + 1) * k + j - k = i * k + j by rw [Nat.succ_mul]; omega, ih i hi']
      simp
theorem flat_len {α : Type} (c : α → List Value) (k : Nat) (hk : ∀ a, (c a).length = k) (l : List α) : (l.flatMap c).length = l.length * k := by
  induction l with
  | nil => simp
  | cons x xs ih => rw [List.flatMap_cons, List.length_append, hk, ih, List.length_cons, Nat.succ_mul]; omega
theorem frs_len (l : List Fr) : (frs l).length = l.length * 3 := flat_len _ 3 (fun _ => rfl) l
theorem cfs_len (p : Addr) (l : List Fr) : (cfs p l).length = l.length * 4 := flat_len _ 4 (fun _ => rfl) l
theorem nms_len (l : List Fr) : (nms l).length = l.length := by simp [nms]
theorem frs_app (l m : List Fr) : frs (l ++ m) = frs l ++ frs m := by simp [frs]
theorem cfs_app (p : Addr) (l m : List Fr) : cfs p (l ++ m) = cfs p l ++ cfs p m := by simp [cfs]
theorem nms_app (l m : List Fr) : nms (l ++ m) = nms l ++ nms m := by simp [nms]
theorem frs_one (l : List Fr) : ∀ v ∈ frs l, v.oneCell' = true := by
  intro v hv
  simp only [frs, List.mem_flatMap] at hv
  obtain ⟨f, _, hv⟩ := hv
  simp at hv
  rcases hv with rfl | rfl | rfl <;> rfl
theorem cfs_one (p : Addr) (l : List Fr) : ∀ v ∈ cfs p l, v.oneCell' = true := by
  intro v hv
  simp only [cfs, List.mem_flatMap] at hv
  obtain ⟨f, _, hv⟩ := hv
  simp at hv
  rcases hv with rfl | rfl | rfl | rfl <;> rfl
theorem nms_one (l : List Fr) : ∀ v ∈ nms l, v.oneCell' = true := by
  intro v hv
  simp only [nms, List.mem_map] at hv
  obtain ⟨f, _, rfl⟩ := hv
  rfl

section
variable {w w' : World} {S S' : Nat → Prop} {A : Option Addr}
/-- The three cells of frame i. -/
theorem rd_fr {l : List Fr} (h : Rd w S A (frs l)) {i : Nat} (hi : i < l.length) : ∃ f, l[i]? = some f ∧ ∃ b o, A = some ⟨b, o, none⟩ ∧ S b ∧ w.cell? ⟨b, o + i * 3, none⟩ = some (.string f.nm) ∧ w.cell? ⟨b, o + i * 3 + 1, none⟩ = some (.int .i64 f.ln) ∧ w.cell? ⟨b, o + i * 3 + 2, none⟩ = some (.int .i64 f.cl) := by
  obtain ⟨b, o, e, hb, hc⟩ := h (by rw [frs_len]; omega)
  have q := fun j (hj : j < 3) => flat_get Fr.cells 3 (fun _ => rfl) l i j hi hj
  exact ⟨l[i], List.getElem?_eq_getElem hi, b, o, e, hb, hc _ _ (q 0 (by decide)), hc _ _ (q 1 (by decide)), hc _ _ (q 2 (by decide))⟩
theorem rd_cf {p : Addr} {l : List Fr} (h : Rd w S A (cfs p l)) {i : Nat} (hi : i < l.length) : ∃ f, l[i]? = some f ∧ ∃ b o, A = some ⟨b, o, none⟩ ∧ S b ∧ w.cell? ⟨b, o + i * 4, none⟩ = some (.string f.nm) ∧ w.cell? ⟨b, o + i * 4 + 1, none⟩ = some (.pointer (some p)) ∧ w.cell? ⟨b, o + i * 4 + 2, none⟩ = some (.int .i32 f.ln) ∧ w.cell? ⟨b, o + i * 4 + 3, none⟩ = some (.int .i32 f.cl) := by
  obtain ⟨b, o, e, hb, hc⟩ := h (by rw [cfs_len]; omega)
  have q := fun j (hj : j < 4) => flat_get (Fr.call p) 4 (fun _ => rfl) l i j hi hj
  exact ⟨l[i], List.getElem?_eq_getElem hi, b, o, e, hb, hc _ _ (q 0 (by decide)), hc _ _ (q 1 (by decide)), hc _ _ (q 2 (by decide)), hc _ _ (q 3 (by decide))⟩
theorem rd_nm {l : List Fr} (h : Rd w S A (nms l)) {i : Nat} (hi : i < l.length) : ∃ f, l[i]? = some f ∧ ∃ b o, A = some ⟨b, o, none⟩ ∧ S b ∧ w.cell? ⟨b, o + i, none⟩ = some (.string f.nm) := by
  obtain ⟨b, o, e, hb, hc⟩ := h (by rw [nms_len]; omega)
  exact ⟨l[i], List.getElem?_eq_getElem hi, b, o, e, hb, hc _ _ (by simp [nms, hi])⟩

/-- What a row of the call's own reads as. -/
theorem own_rd {base n size : Nat} {e : TypeId} {v : Value} {xs : List Value} (h : w.ownsRow base e size v n xs) : ∃ A c, v = .slice A n c ∧ n ≤ c ∧ Rd w (fun j => base ≤ j ∧ j < w.heap.size) A xs ∧ (A = none ∨ ∃ g, A = some ⟨g, 0, none⟩ ∧ base ≤ g ∧ ∃ cur, Blk w g e cur) := by
  have hl := h.1
  rcases h.2 with ⟨rfl, h0⟩ | ⟨g, cap, cur, rfl, hb, hh, hnc, _, _, ht⟩
  · subst h0
    have : xs = [] := List.eq_nil_of_length_eq_zero (by simpa using hl)
    subst this
    exact ⟨none, 0, rfl, Nat.le_refl _, Rd.nil _ _ _, .inl rfl⟩
  · refine ⟨_, _, rfl, hnc, ?_, .inr ⟨g, rfl, hb, cur, hh⟩⟩
    have : Blk w g e (xs ++ (cur.toList.drop (n * size))).toArray := by
      rw [← ht, List.take_append_drop]
      exact hh
    exact Rd.of_blk this ⟨hb, (Array.getElem?_eq_some_iff.1 hh).1⟩
/-- A row of the call's own stands as long as its own block does. -/
theorem own_keep {base n size : Nat} {e : TypeId} {v : Value} {xs : List Value} (h : w.ownsRow base e size v n xs) (hk : ∀ g cs, v.ownBlock = some g → Blk w g e cs → w'.heap[g]? = w.heap[g]?) : w'.ownsRow base e size v n xs := by
  refine ⟨h.1, ?_⟩
  rcases h.2 with h1 | ⟨g, cap, cur, h1, h2, h3, h4⟩
  · exact .inl h1
  · exact .inr ⟨g, cap, cur, h1, h2, (hk g cur (by rw [h1]; rfl) h3).trans h3, h4⟩
theorem own_below {base n size : Nat} {e : TypeId} {v : Value} {xs : List Value} (h : w.ownsRow base e size v n xs) (hb : Below w.heap.size w w') : w'.ownsRow base e size v n xs :=
  own_keep h fun g cs _ h3 => hb.block g (Blk.lt h3)
theorem own_set {base n size : Nat} {e : TypeId} {v : Value} {xs : List Value} (h : w.ownsRow base e size v n xs) {p : Addr} {t : TypeId} {cs : Array Value} (hp : Blk w p.block t cs) (hne : t ≠ e) (u : Value) : (w.setCell p u).ownsRow base e size v n xs :=
  own_keep h fun g cs' _ h3 => Below.heap_setCell w p u g (by
    rintro rfl
    have h3' : Blk w p.block e cs' := h3
    unfold Blk at hp h3'
    rw [hp] at h3'
    injection h3' with h3'
    injection h3' with _ h3'
    exact hne h3')
theorem own_grown {base n size : Nat} {e : TypeId} {v : Value} {xs : List Value} (h : w.ownsRow base e size v n xs) {k : Option Nat} (hg : w.grownBy w' k) (hk : ∀ g cs, v.ownBlock = some g → Blk w g e cs → some g ≠ k) : w'.ownsRow base e size v n xs :=
  own_keep h fun g cs h1 h3 => hg.block g (Blk.lt h3) (fun h => hk g cs h1 h3 (by first | exact h | exact h.symm))
theorem Blk.grown {g : Nat} {t : TypeId} {cs : Array Value} {k : Option Nat} (h : Blk w g t cs) (hg : w.grownBy w' k) (hk : some g ≠ k) : Blk w' g t cs :=
  h.keep (hg.block g h.lt (fun e => hk (by first | exact e | exact e.symm)))
/-- A row's own block is of the row's type. -/
theorem own_ne {base n size : Nat} {e t : TypeId} {v : Value} {xs : List Value} (h : w.ownsRow base e size v n xs) {g : Nat} {cs : Array Value} (hb : Blk w g t cs) (hne : t ≠ e) : some g ≠ v.ownBlock := by
  rcases h.2 with ⟨rfl, _⟩ | ⟨g', cap, cur, rfl, _, h3, _⟩
  · intro h; cases h
  · intro h
    have h : some g = some g' := h
    injection h with h
    subst h
    unfold Blk at hb
    rw [hb] at h3
    injection h3 with h3
    injection h3 with _ h3
    exact hne h3
theorem own_lt {base n size : Nat} {e : TypeId} {v : Value} {xs : List Value} (h : w.ownsRow base e size v n xs) {g : Nat} (hg : v.ownBlock = some g) : base ≤ g ∧ g < w.heap.size := by
  rcases h.2 with ⟨rfl, _⟩ | ⟨g', cap, cur, rfl, h2, h3, _⟩
  · cases hg
  · have hg : some g' = some g := hg
    injection hg with hg
    subst hg
    exact ⟨h2, (Array.getElem?_eq_some_iff.1 h3).1⟩
end
end Go.Proofs.YtgcdcchmdcdflaaDoor
