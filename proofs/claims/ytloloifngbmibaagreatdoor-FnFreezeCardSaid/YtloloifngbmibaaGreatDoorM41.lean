/- A Val that comes in, opened down to a depth; what a listed variable reads as. The listed variables: read behind a call as before; what two of them hold. Tries that come in, opened. The row's last step for a call of which 'Below' alone is known. -/
import Derived.Test.YtloloifngbmibaaGreatDoorM01
import Derived.Test.YtloloifngbmibaaGreatDoorRows
import Derived.Test.YtloloifngbmibaaGreatDoorM23
import Derived.Deep.Slices
import Derived.Deep.Strs
import Derived.Lib.LaidTab
import Derived.ProofKit
import Derived.OpenShut
import Derived.Test.YtloloifngbmibaaGreatDoorM20
import Derived.Carry
import Derived.ChangeOld
import Derived.LaidSub
import Derived.Test.YtloloifngbmibaaGreatDoorM37
import Derived.Below
import Derived.ChangeSame
set_option linter.unusedVariables false
set_option linter.unusedSimpArgs false
set_option maxRecDepth 4000
namespace Go.Proofs.YtloloifngbmibaaGreatDoor
open Go.RowKit Go.ChangeShapes Go.WideShapes Go.ChangeAt

instance : Inhabited Vc := ⟨⟨0, false, .slice none 0 0, 0, ⟨#[]⟩, .slice none 0 0⟩⟩
theorem cellsOf_val : Tryz.prog.cellsOf 26 = 6 := by kernel_rfl
theorem cellsOf_1i : Tryz.prog.cellsOf 3 = 1 := by kernel_rfl
theorem cellsOf_1b : Tryz.prog.cellsOf 4 = 1 := by kernel_rfl
theorem cellsOf_1m : Tryz.prog.cellsOf 22 = 1 := by kernel_rfl
theorem cellsOf_1u : Tryz.prog.cellsOf 23 = 1 := by kernel_rfl
theorem cellsOf_1s : Tryz.prog.cellsOf 9 = 1 := by kernel_rfl
theorem cellsOf_1k : Tryz.prog.cellsOf 24 = 1 := by kernel_rfl
theorem cellsOf_1y : Tryz.prog.cellsOf 5 = 1 := by kernel_rfl

theorem take_at (cs : List Value) (i : Nat) (v : Value) (h : (cs.drop i).take 1 = [v]) : cs[i]? = some v := by
  have := congrArg (·[0]?) h
  simpa [List.getElem?_take, List.getElem?_drop] using this
theorem cells_at {W : World} {base k : Nat} {a : Addr} {cs : List Value} (h : W.cells? base a k = some cs) {j : Nat} (hj : j < k) : W.cell? (a.add j) = cs[j]? := by
  unfold World.cells? at h
  split at h
  · obtain ⟨b, h0, g0⟩ := Lib.mapM_at h j j (show (List.range k)[j]? = some j by simp [hj])
    rw [h0]
    exact g0
  · cases h
theorem add_add (b o i j : Nat) : ((⟨b, o, none⟩ : Addr).add i).add j = ⟨b, o + (i + j), none⟩ := by
  unfold Addr.add
  by_cases hk : i = 0 <;> by_cases hr : j = 0 <;> simp [hk, hr, Nat.add_assoc]
theorem rd_of_cells {W : World} {a : Addr} {n k : Nat} (hk : 0 < k) (c : Nat → List Value) (hc : ∀ i, (c i).length = k) (h : ∀ i, i < n → ∀ j, j < k → W.cell? ((a.add (i * k)).add j) = (c i)[j]?) : Rd W (fun k => k < W.heap.size) (some a) ((List.range n).flatMap c) := by
  intro hn
  have hlen := flat_len c k hc (List.range n)
  rw [List.length_range] at hlen
  have h0 : 0 < n := by
    rcases Nat.eq_zero_or_pos n with h | h
    · subst h
      simp at hn
    · exact h
  have hx : ∃ v, (c 0)[0]? = some v := ⟨(c 0)[0]'(by rw [hc]; exact hk), List.getElem?_eq_getElem (by rw [hc]; exact hk)⟩
  obtain ⟨v, hv⟩ := hx
  have h00 := h 0 h0 0 hk
  rw [hv, Nat.zero_mul] at h00
  obtain ⟨b, o, sp⟩ := a
  have hsp : sp = none := by
    cases sp with
    | none => rfl
    | some x =>
      exfalso
      simp [Addr.add, World.cell?] at h00
      split at h00 <;> simp at h00
  subst hsp
  have h01 : W.cell? ⟨b, o, none⟩ = some v := by simpa [Addr.add] using h00
  refine ⟨b, o, rfl, World.block_lt_of_cell? W _ h01, fun j u hu => ?_⟩
  have hj : j < n * k := by
    have := (List.getElem?_eq_some_iff.1 hu).1
    rwa [hlen] at this
  have hi : j / k < n := Nat.div_lt_of_lt_mul (by rw [Nat.mul_comm]; exact hj)
  have hdm := Nat.div_add_mod j k
  have hq := flat_get c k hc (List.range n) (j / k) (j % k) (by simpa using hi) (Nat.mod_lt _ hk)
  rw [List.getElem_range, show j / k * k + j % k = j by rw [Nat.mul_comm]; exact hdm] at hq
  rw [hq] at hu
  have h2 := h (j / k) hi (j % k) (Nat.mod_lt _ hk)
  rw [add_add, show j / k * k + j % k = j by rw [Nat.mul_comm]; exact hdm] at h2
  rw [h2, hu]

section
variable {H : Type} {enc : TypeId × Value → H} {W : World}
theorem trod_struct6 {P : Program} {base : Nat} {spare : Nat → Bool} {held : Bool} {t : TypeId} {f0 f1 f2 f3 f4 f5 : Field} {fuel : Nat} {cs : List Value} {x : DataW H × List MemPlace} (ht : P.underlying t = some (.struct #[f0, f1, f2, f3, f4, f5])) (h : DataW.trod enc P W base spare held fuel t cs = some x) :
    ∃ y0 y1 y2 y3 y4 y5 n, cs.length = P.cellsOf t ∧ DataW.trod enc P W base spare held n f0.type ((cs.drop f0.offset).take (P.cellsOf f0.type)) = some y0 ∧
      DataW.trod enc P W base spare held n f1.type ((cs.drop f1.offset).take (P.cellsOf f1.type)) = some y1 ∧ DataW.trod enc P W base spare held n f2.type ((cs.drop f2.offset).take (P.cellsOf f2.type)) = some y2 ∧
      DataW.trod enc P W base spare held n f3.type ((cs.drop f3.offset).take (P.cellsOf f3.type)) = some y3 ∧ DataW.trod enc P W base spare held n f4.type ((cs.drop f4.offset).take (P.cellsOf f4.type)) = some y4 ∧
      DataW.trod enc P W base spare held n f5.type ((cs.drop f5.offset).take (P.cellsOf f5.type)) = some y5 := by
  obtain ⟨xs, n, _, rfl, hl, hlen, hf⟩ := DataW.trod_struct ht h
  match xs, hlen with
  | [y0, y1, y2, y3, y4, y5], _ => exact ⟨y0, y1, y2, y3, y4, y5, n, hl, by simpa using hf 0 f0 rfl, by simpa using hf 1 f1 rfl, by simpa using hf 2 f2 rfl, by simpa using hf 3 f3 rfl, by simpa using hf 4 f4 rfl, by simpa using hf 5 f5 rfl⟩

theorem open_bytes {fuel : Nat} {v : Value} {x : DataW H × List MemPlace} (h : DataW.trod enc Tryz.prog W 0 (fun _ => true) true fuel 22 [v] = some x) :
    ∃ l : List Int, SlV W (fun k => k < W.heap.size) .u8 v l ∧ ByL l ∧ l.length ≤ 9223372036854775807 := by
  rcases Deep.open_slice1 Tryz.underlying22 cellsOf_1y h with ⟨hcs, _⟩ | ⟨a, len, cap, m, n, V, D, Pl, hcs, hb, hl, hm, hmm, hx, hel⟩
  · simp at hcs
    subst hcs
    exact ⟨[], SlV.nil _ _ _, ByL.nil, by decide⟩
  · simp at hcs
    subst hcs
    simp only [if_true] at hmm
    subst hmm
    have each : ∀ i, i < len → ∃ z : Int, V i = .int .u8 z ∧ 0 ≤ z ∧ z < 256 := by
      intro i hi
      obtain ⟨z, e1, _, e2⟩ := DataW.trod_int Tryz.underlying5 (hel i (by omega)).2
      simp at e1
      have := bounds_u8 e2
      exact ⟨z, e1, by omega, by omega⟩
    obtain ⟨F, hF⟩ := Deep.choose_lt each
    refine ⟨(List.range len).map F, ⟨some a, m, by simp, by simpa using hl, ?_⟩, ?_, by simp; unfold maxLen at hm; omega⟩
    · have hr := rd_of_cells (W := W) (a := a) (n := len) (k := 1) (by decide) (fun i => [.int .u8 (F i)]) (fun _ => rfl) (fun i hi j hj => by
        have hj0 : j = 0 := by omega
        subst hj0
        have h1 := (hel i (by omega)).1
        rw [(hF i hi).1] at h1
        rw [Nat.mul_one]
        simpa [Addr.add] using h1)
      have e : (List.range len).flatMap (fun i => [Value.int .u8 (F i)]) = ints .u8 ((List.range len).map F) := by
        unfold ints
        rw [List.map_map]
        induction List.range len with
        | nil => rfl
        | cons y ys ih => simp [ih]
      rw [e] at hr
      exact hr
    · intro z hz
      obtain ⟨i, hi, rfl⟩ := List.mem_map.1 hz
      exact (hF i (by simpa using hi)).2

theorem open_val : ∀ (d : Nat) {fuel : Nat} {cs : List Value} {x : DataW H × List MemPlace}, DataW.trod enc Tryz.prog W 0 (fun _ => true) true fuel 26 cs = some x →
    ∃ (t : Tr) (y : Vc), cs = y.cells ∧ IsV d W (fun k => k < W.heap.size) t y ∧ InT d t := by
  have step : ∀ (d : Nat), (∀ d', d = d' + 1 → ∀ {fuel : Nat} {cs : List Value} {x : DataW H × List MemPlace}, DataW.trod enc Tryz.prog W 0 (fun _ => true) true fuel 26 cs = some x → ∃ (t : Tr) (y : Vc), cs = y.cells ∧ IsV d' W (fun k => k < W.heap.size) t y ∧ InT d' t) →
      ∀ {fuel : Nat} {cs : List Value} {x : DataW H × List MemPlace}, DataW.trod enc Tryz.prog W 0 (fun _ => true) true fuel 26 cs = some x → ∃ (t : Tr) (y : Vc), cs = y.cells ∧ IsV d W (fun k => k < W.heap.size) t y ∧ InT d t := by
    intro d IH fuel cs x h
    obtain ⟨_, _, _, _, _, _, n, hlen, z0, z1, z2, z3, z4, z5⟩ := trod_struct6 Tryz.underlying26 h
    rw [show (Tryz.prog.cellsOf 3) = 1 from cellsOf_1i] at z0
    rw [show (Tryz.prog.cellsOf 4) = 1 from cellsOf_1b] at z1
    rw [show (Tryz.prog.cellsOf 22) = 1 from cellsOf_1m] at z2
    rw [show (Tryz.prog.cellsOf 23) = 1 from cellsOf_1u] at z3
    rw [show (Tryz.prog.cellsOf 9) = 1 from cellsOf_1s] at z4
    rw [show (Tryz.prog.cellsOf 24) = 1 from cellsOf_1k] at z5
    rw [cellsOf_val] at hlen
    obtain ⟨c0, c1, c2, c3, c4, c5, rfl⟩ : ∃ c0 c1 c2 c3 c4 c5, cs = [c0, c1, c2, c3, c4, c5] := by
      match cs, hlen with
      | [c0, c1, c2, c3, c4, c5], _ => exact ⟨c0, c1, c2, c3, c4, c5, rfl⟩
    simp only [List.drop_zero, List.drop_succ_cons, List.take_succ_cons, List.take_zero] at z0 z1 z2 z3 z4 z5
    obtain ⟨k, e0, _⟩ := DataW.trod_int Tryz.underlying3 z0
    obtain ⟨ng, e1, _⟩ := DataW.trod_bool Tryz.underlying4 z1
    obtain ⟨mg, hsl, hby, hml⟩ := open_bytes z2
    obtain ⟨bt, e3, _, w3⟩ := DataW.trod_int Tryz.underlying23 z3
    obtain ⟨s, e4, _, w4⟩ := DataW.trod_string Tryz.underlying9 z4
    simp at e0 e1 e3 e4
    subst e0 e1 e3 e4
    have hbt := bounds_u64 w3
    have hin : ∀ kids : List Tr, kids.length ≤ 9223372036854775807 → InH ⟨k, ng, mg, bt, s, kids⟩ := fun kids hk => ⟨hby, hml, ⟨by show 0 ≤ bt; omega, by show bt < 18446744073709551616; omega⟩, hk, by show s.size ≤ 9223372036854775807; unfold maxLen at w4; omega⟩
    have hish : ∀ (kids : List Tr) (q : Value), IsH W (fun k => k < W.heap.size) ⟨k, ng, mg, bt, s, kids⟩ ⟨k, ng, c2, bt, s, q⟩ := fun kids q => ⟨rfl, rfl, rfl, rfl, hsl⟩
    rcases Deep.open_slice Tryz.underlying24 z5 with ⟨hcs, _⟩ | ⟨a, len, cap, m, n', D, Pl, hcs, hb, hl, hm, hmm, hx, hel⟩
    · simp at hcs
      subst hcs
      refine ⟨⟨k, ng, mg, bt, s, []⟩, ⟨k, ng, c2, bt, s, .slice none 0 0⟩, rfl, ?_, ?_⟩
      · cases d with
        | zero => exact ⟨hish _ _, none, 0, 0, rfl, Nat.le_refl _⟩
        | succ d => exact ⟨hish _ _, none, 0, [], rfl, Nat.le_refl _, rfl, Rd.nil _ _ _, fun i y u hy hu => by simp at hy⟩
      · cases d with
        | zero => exact hin _ (by decide)
        | succ d => exact ⟨hin _ (by decide), fun u hu => by cases hu⟩
    · simp at hcs
      subst hcs
      simp only [if_true] at hmm
      subst hmm
      cases d with
      | zero => exact ⟨⟨k, ng, mg, bt, s, []⟩, ⟨k, ng, c2, bt, s, .slice (some a) len m⟩, rfl, ⟨hish _ _, some a, len, m, rfl, hl⟩, hin _ (by decide)⟩
      | succ d =>
        have each : ∀ i, i < len → ∃ p : Tr × Vc, (∀ j, j < 6 → W.cell? ((a.add (i * 6)).add j) = (p.2.cells)[j]?) ∧ IsV d W (fun k => k < W.heap.size) p.1 p.2 ∧ InT d p.1 := by
          intro i hi
          obtain ⟨cs', h1, h2⟩ := hel i (by omega)
          rw [cellsOf_val] at h1
          obtain ⟨t', y', rfl, h3, h4⟩ := IH d rfl h2
          exact ⟨(t', y'), fun j hj => cells_at h1 hj, h3, h4⟩
        obtain ⟨F, hF⟩ := Deep.choose_lt each
        refine ⟨⟨k, ng, mg, bt, s, (List.range len).map (fun i => (F i).1)⟩, ⟨k, ng, c2, bt, s, .slice (some a) len m⟩, rfl, ⟨hish _ _, some a, m, (List.range len).map (fun i => (F i).2), ?_, ?_, ?_, ?_, ?_⟩, ?_, ?_⟩
        · simp [Tr.kids]
        · simpa [Tr.kids] using hl
        · simp [Tr.kids]
        · have hr := rd_of_cells (W := W) (a := a) (n := len) (k := 6) (by decide) (fun i => (F i).2.cells) (fun _ => rfl) (fun i hi j hj => (hF i hi).1 j hj)
          have e : (List.range len).flatMap (fun i => (F i).2.cells) = vcs ((List.range len).map fun i => (F i).2) := by
            unfold vcs
            rw [List.flatMap_map]
          rw [e] at hr
          exact hr
        · intro i y u hy hu
          have hi : i < len := by have := (List.getElem?_eq_some_iff.1 hy).1; simpa using this
          simp [Tr.kids, hi] at hy hu
          rw [← hy, ← hu]
          exact (hF i hi).2.1
        · refine hin _ ?_
          simp
          unfold maxLen at hm
          omega
        · intro u hu
          obtain ⟨i, hi, rfl⟩ := List.mem_map.1 hu
          exact (hF i (by simpa using hi)).2.2
  intro d
  induction d with
  | zero => exact fun h => step 0 (fun d' h => by omega) h
  | succ d ih => exact fun h => step (d + 1) (fun d' hd => (by have e : d = d' := (by omega); subst e; exact @ih)) h

theorem open_valV {r : Reach} {b0 : Nat} {v : Value} {d : DataW H} {ps : List MemPlace} (dp : Nat) (hval : Value.okWide Tryz.prog W r b0 26 v) (hd : DataW.Trod enc Tryz.prog W 0 (fun _ => true) true 26 v d ps) :
    ∃ t y, v = Vc.agg y ∧ HV dp t y W ∧ InT dp t := by
  obtain ⟨cs, rfl, hsz⟩ := okWide_struct Tryz.underlying26 hval
  obtain ⟨fuel, hf⟩ := hd
  obtain ⟨t, y, he, h1, h2⟩ := open_val dp hf
  refine ⟨t, y, ?_, ⟨_, h1, fun k hk => hk⟩, h2⟩
  have he2 : cs.toList = y.cells := he
  have : cs = y.cells.toArray := by rw [← he2]
  rw [this]
end
end Go.Proofs.YtloloifngbmibaaGreatDoor
set_option linter.unusedVariables false
set_option maxRecDepth 4000
namespace Go.Proofs.YtloloifngbmibaaGreatDoor
open Go.RowKit Go.WideElems

/-- The named variables' types can be read, and are rows of the table. -/
def varsOk (P : Program) (ns : List String) : Bool := ns.all fun n => ((P.globalNamed n).bind (P.globals[·]?)).all fun gl => P.readableRec gl.type && decide (gl.type < P.types.size)
theorem vars_stay {H : Type} {enc : TypeId × Value → H} {P : Program} (hl : laidOutB P = true) {W W' : World} (hb : Below W.heap.size W W') {sp : Nat → Bool} :
    ∀ {ns : List String} {gs : List (DataW H)} {ps : List MemPlace}, varsOk P ns = true → (∀ p ∈ ps, sp p.block = true) → DataW.TrodVars enc P W (fun _ => true) ns gs ps → DataW.TrodVars enc P W' sp ns gs ps
  | [], [], _, _, _, h => h
  | [], _ :: _, _, _, _, h => h.elim
  | _ :: _, [], _, _, _, h => h.elim
  | n :: ns, d :: ds, ps, hv, hsp, h => by
    have hlt := h.lt
    obtain ⟨g, t, cs, fuel, p, q, h1, h2, h3, h4, hs, e⟩ := h
    simp only [varsOk, List.all_cons, Bool.and_eq_true] at hv
    have ht : P.readableRec t = true ∧ t < P.types.size := by
      have := hv.1
      rw [h1] at this
      cases hg : P.globals[g]? with
      | none => rw [hg] at h2; cases h2
      | some gl =>
        rw [hg] at h2
        obtain rfl : gl.type = t := Option.some.inj h2
        simpa [hg] using this
    have hp : ∀ x ∈ p, x.block < W.heap.size := fun x hx => hlt x (by rw [e]; simp [hx])
    have h3' : W'.var? P n = some cs := by
      unfold World.var? at h3 ⊢
      rw [h1] at h3 ⊢
      simp only [Option.bind_some] at h3 ⊢
      have hg : g < W.heap.size := by
        cases hh : W.heap[g]? with
        | none => rw [hh] at h3; cases h3
        | some o => exact (Array.getElem?_eq_some_iff.1 hh).1
      rw [hb.block g hg]
      exact h3
    exact ⟨g, t, cs, fuel, p, q, h1, h2, h3', DataW.trod_stays (kids_book hl ht.1) (book_sized ht.1) (fun h => by cases h) ⟨ht.2, book_self t⟩ h4 (fun x hx => hb.same (hp x hx)) (fun x hx => hsp x (by rw [e]; simp [hx])),
      vars_stay hl hb (by simpa [varsOk] using hv.2) (fun x hx => hsp x (by rw [e]; simp [hx])) hs, e⟩
theorem vars_len {H : Type} {enc : TypeId × Value → H} {P : Program} {W : World} {sp : Nat → Bool} : ∀ {ns : List String} {gs : List (DataW H)} {ps : List MemPlace}, DataW.TrodVars enc P W sp ns gs ps → gs.length = ns.length
  | [], [], _, _ => rfl
  | [], _ :: _, _, h => h.elim
  | _ :: _, [], _, h => h.elim
  | n :: ns, d :: ds, ps, h => by
    obtain ⟨g, t, cs, fuel, p, q, h1, h2, h3, h4, hs, e⟩ := h
    simp [vars_len hs]

/-- A listed whole number is there. -/
theorem laid_int {P : Program} {W : World} {name : String} {k : IntKind} {z : Int} {rest : List (String × DataW Unit)} {g : Nat} {t : TypeId} (hg : P.globalNamed name = some g) (hty : (P.globals[g]?).map (·.type) = some t) (ht : P.underlying t = some (.int k))
    (h : laidMet P ((name, .lit (.int k z)) :: rest) W) : W.cell? ⟨g, 0, none⟩ = some (.int k z) := by
  obtain ⟨ps, ⟨g', t', cs, fuel, p, q, hg', ht', hvar, hd, _, _⟩, _⟩ := h
  obtain rfl := Option.some.inj (hg.symm.trans hg')
  obtain rfl := Option.some.inj (hty.symm.trans ht')
  obtain ⟨n, e1, e2, _⟩ := DataW.trod_int ht hd
  have e3 : n = z := by
    have := congrArg Prod.fst e2
    injection this with this
    injection this with _ this
    exact this.symm
  subst e3
  have hcs : cs = #[.int k n] := by
    cases cs
    simp at e1
    rw [e1]
  subst hcs
  unfold World.var? at hvar
  rw [hg] at hvar
  simp only [Option.bind_some] at hvar
  cases hh : W.heap[g]? with
  | none => rw [hh] at hvar; cases hvar
  | some o =>
    rw [hh] at hvar
    cases o with
    | cells cs elem fz =>
      have e4 : cs = #[.int k n] := Option.some.inj hvar
      subst e4
      simp [World.cell?, hh]
    | _ => cases hvar
end Go.Proofs.YtloloifngbmibaaGreatDoor
set_option linter.unusedVariables false
set_option linter.unusedSimpArgs false
set_option maxRecDepth 4000
namespace Go.Proofs.YtloloifngbmibaaGreatDoor
open Go.RowKit Go.ChangeShapes Go.WideShapes Go.ChangeAt

instance : Inhabited Vt := ⟨⟨0, 0, default⟩⟩
instance : Inhabited Tr := ⟨⟨0, false, [], 0, ⟨#[]⟩, []⟩⟩
theorem cellsOf_try : Tryz.prog.cellsOf 44 = 8 := by kernel_rfl
section
variable {H : Type} {enc : TypeId × Value → H} {W : World}
theorem open_try {fuel : Nat} {cs : List Value} {x : DataW H × List MemPlace} (h : DataW.trod enc Tryz.prog W 0 (fun _ => true) true fuel 44 cs = some x) :
    ∃ (t : Tr) (y : Vt), cs = y.cells ∧ IsV 1 W (fun k => k < W.heap.size) t y.v ∧ InT 1 t := by
  obtain ⟨y0, y1, y2, n, _, hlen, z0, z1, z2⟩ := Deep.trod_struct3 Tryz.underlying44 h
  rw [show (Tryz.prog.cellsOf 3) = 1 from cellsOf_1i] at z0 z1
  rw [show (Tryz.prog.cellsOf 26) = 6 from cellsOf_val] at z2
  rw [cellsOf_try] at hlen
  obtain ⟨c0, c1, c2, c3, c4, c5, c6, c7, rfl⟩ : ∃ c0 c1 c2 c3 c4 c5 c6 c7, cs = [c0, c1, c2, c3, c4, c5, c6, c7] := by
    match cs, hlen with
    | [c0, c1, c2, c3, c4, c5, c6, c7], _ => exact ⟨c0, c1, c2, c3, c4, c5, c6, c7, rfl⟩
  simp only [List.drop_zero, List.drop_succ_cons, List.take_succ_cons, List.take_zero] at z0 z1 z2
  obtain ⟨p, e0, _⟩ := DataW.trod_int Tryz.underlying3 z0
  obtain ⟨q, e1, _⟩ := DataW.trod_int Tryz.underlying3 z1
  obtain ⟨t, y, e2, h1, h2⟩ := open_val 1 z2
  simp at e0 e1
  subst e0 e1
  refine ⟨t, ⟨p, q, y⟩, ?_, h1, h2⟩
  simp only [Vc.cells, List.cons.injEq, and_true] at e2
  obtain ⟨rfl, rfl, rfl, rfl, rfl, rfl⟩ := e2
  rfl

theorem open_tries {r : Reach} {b0 : Nat} {v : Value} {d : DataW H} {ps : List MemPlace} (hval : Value.okWide Tryz.prog W r b0 42 v) (hd : DataW.Trod enc Tryz.prog W 0 (fun _ => true) true 42 v d ps) :
    ∃ A n c, v = .slice A n c ∧ n ≤ c ∧ n ≤ 9223372036854775807 ∧ HTs (InT 1) 1 n A W := by
  obtain ⟨a0, len, cap, rfl⟩ := okWide_slice Tryz.underlying42 hval
  obtain ⟨fuel, hf⟩ := hd
  rcases Deep.open_slice Tryz.underlying42 hf with ⟨hcs, _⟩ | ⟨a, len', cap', m, n, D, Pl, hcs, hb, hl, hm, hmm, hx, hel⟩
  · simp [Value.cells] at hcs
    obtain ⟨rfl, rfl, rfl⟩ := hcs
    exact ⟨none, 0, 0, rfl, Nat.le_refl _, by decide, fun k => k < W.heap.size, [], rfl, Rd.nil _ _ _, fun x hx => by simp at hx, fun k hk => hk⟩
  · simp [Value.cells] at hcs
    obtain ⟨rfl, rfl, rfl⟩ := hcs
    simp only [if_true] at hmm
    subst hmm
    have each : ∀ i, i < len → ∃ p : Tr × Vt, (∀ j, j < 8 → W.cell? ((a.add (i * 8)).add j) = (p.2.cells)[j]?) ∧ IsV 1 W (fun k => k < W.heap.size) p.1 p.2.v ∧ InT 1 p.1 := by
      intro i hi
      obtain ⟨cs', h1, h2⟩ := hel i (by omega)
      rw [cellsOf_try] at h1
      obtain ⟨t', y', rfl, h3, h4⟩ := open_try h2
      exact ⟨(t', y'), fun j hj => cells_at h1 hj, h3, h4⟩
    obtain ⟨F, hF⟩ := Deep.choose_lt each
    refine ⟨some a, len, m, rfl, hl, by unfold maxLen at hm; omega, fun k => k < W.heap.size, (List.range len).map (fun i => (F i).2), by simp, ?_, ?_, fun k hk => hk⟩
    · have hr := rd_of_cells (W := W) (a := a) (n := len) (k := 8) (by decide) (fun i => (F i).2.cells) (fun _ => rfl) (fun i hi j hj => (hF i hi).1 j hj)
      have e : (List.range len).flatMap (fun i => (F i).2.cells) = vts ((List.range len).map fun i => (F i).2) := by
        unfold vts
        rw [List.flatMap_map]
      rw [e] at hr
      exact hr
    · intro x hx
      obtain ⟨i, hi, rfl⟩ := List.mem_map.1 hx
      exact ⟨(F i).1, (hF i (by simpa using hi)).2⟩

theorem open_tryV {r : Reach} {b0 : Nat} {v : Value} {d : DataW H} {ps : List MemPlace} (hval : Value.okWide Tryz.prog W r b0 44 v) (hd : DataW.Trod enc Tryz.prog W 0 (fun _ => true) true 44 v d ps) :
    ∃ (t : Tr) (y : Vt), v = .agg y.cells.toArray ∧ HV 1 t y.v W ∧ InT 1 t := by
  obtain ⟨cs, rfl, hsz⟩ := okWide_struct Tryz.underlying44 hval
  obtain ⟨fuel, hf⟩ := hd
  obtain ⟨t, y, he, h1, h2⟩ := open_try hf
  refine ⟨t, y, ?_, ⟨_, h1, fun k hk => hk⟩, h2⟩
  have he2 : cs.toList = y.cells := he
  have : cs = y.cells.toArray := by rw [← he2]
  rw [this]
end
end Go.Proofs.YtloloifngbmibaaGreatDoor
namespace Go.Proofs.YtloloifngbmibaaGreatDoor
open Go.RowKit Go.WideShapes Go.ChangeShapes
section
variable {H : Type} {enc : TypeId × Value → H} {P : Program}
theorem post_of_below {f : Func} {s : ChangeSpec} {apart fresh handsOn again : Bool} {W W' : World} {args : Array Value} {v : Value} {ds gs : List (DataW H)} {before pa pv : List MemPlace}
    (hW : DataW.Whole enc P f.params.toList s.vars apart W args.toList ds gs before)
    (hres : ∀ (b : Nat) (sp : Nat → Bool) (hd : Bool), DataW.TrodAll enc P W' b sp hd f.resultTypes.toList (v.resultList f.resultTypes.size) (s.fn H (ds ++ gs)).results [])
    (hargs : ∀ sp : Nat → Bool, (∀ p ∈ before, sp p.block = true) → DataW.TrodAll enc P W' 0 sp true f.params.toList args.toList (s.fn H (ds ++ gs)).args pa)
    (hvars : ∀ sp : Nat → Bool, (∀ p ∈ before, sp p.block = true) → DataW.TrodVars enc P W' sp s.vars (s.fn H (ds ++ gs)).vars pv)
    (hps : before = pa ++ pv) (hb : Below W.heap.size W W')
    (hok : ∀ (j : Nat) (t : TypeId) (r : Value), f.resultTypes[j]? = some t → (v.resultList f.resultTypes.size)[j]? = some r → Value.okWide P W' .any 0 t r) :
    s.post enc P f apart fresh handsOn again W args v W' := by
  have hlt : ∀ p ∈ before, p.block < W.heap.size := fun p hp => hW.lt p hp
  have hold : ∀ p ∈ before, (fun b => decide (b < W.heap.size)) p.block = true := fun p hp => by simpa using hlt p hp
  refine ⟨ds, gs, before, [], pa, pv, hW, hres _ _ _, hargs _ hold, hvars _ hold, World.keptBut_mono (fun p hp => ⟨hp, ?_⟩) (hb.frame (· ∈ before)), fun _ => ?_⟩
  · rw [hps, List.mem_append] at hp
    exact Or.inr hp
  · obtain ⟨_, _, _, _, _, hz, hn⟩ := hW
    refine ⟨hok, _, _, ([] ++ pa) ++ pv, ⟨[] ++ pa, pv, trodAll_append (hargs _ (fun _ _ => rfl)) (hres _ _ _), hvars _ (fun _ _ => rfl), rfl, ?_, ?_⟩, ?_⟩
    · intro b off hp
      have hin : MemPlace.cell b off ∈ before := by rw [hps]; simpa using hp
      rw [hb.frozen (hlt _ hin)]
      exact hz b off hin
    · intro ha
      have := hn ha
      rw [hps] at this
      simpa using this
    · intro p hp _
      rw [hps]
      simpa using hp
end
end Go.Proofs.YtloloifngbmibaaGreatDoor
