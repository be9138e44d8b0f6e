/- A slice of frames that comes in, opened. -/
import Derived.Test.YtgcdcchmdcdflaaDoorFr
import Derived.Test.YtgcdcchmdcdflaaDoorRows
import Derived.Deep.Slices
import Derived.Deep.Strs
import Derived.Lib.LaidTab
import Derived.ProofKit
import Derived.OpenShut
set_option linter.unusedVariables false
namespace Go.Proofs.YtgcdcchmdcdflaaDoor
open Go.RowKit Go.ChangeShapes Go.WideShapes Go.ChangeAt

instance : Inhabited Fr := ⟨⟨ByteArray.empty, 0, 0⟩⟩
theorem cellsOf_fr : Tryd.prog.cellsOf 30 = 3 := by kernel_rfl
theorem cellsOf_s : Tryd.prog.cellsOf 9 = 1 := by kernel_rfl
theorem cellsOf_i : Tryd.prog.cellsOf 3 = 1 := by kernel_rfl

theorem take_one (cs : List Value) (i : Nat) (v : Value) (h : (cs.drop i).take 1 = [v]) : cs[i]? = some v := by
  have := congrArg (·[0]?) h
  simpa [List.getElem?_take, List.getElem?_drop] using this
theorem cells3 {W : World} {base : Nat} {a : Addr} {cs : List Value} (h : W.cells? base a 3 = some cs) : W.cell? a = cs[0]? ∧ W.cell? (a.add 1) = cs[1]? ∧ W.cell? (a.add 2) = cs[2]? := by
  unfold World.cells? at h
  split at h
  · have q := fun (i : Nat) (hi : i < 3) => Lib.mapM_at h i i (show (List.range 3)[i]? = some i by simp [hi])
    obtain ⟨b0, h0, g0⟩ := q 0 (by decide)
    obtain ⟨b1, h1, g1⟩ := q 1 (by decide)
    obtain ⟨b2, h2, g2⟩ := q 2 (by decide)
    exact ⟨by rw [h0]; exact g0, by rw [h1]; exact g1, by rw [h2]; exact g2⟩
  · cases h

theorem open_frames {H : Type} {enc : TypeId × Value → H} {W : World} {r : Reach} {b0 : Nat} {v : Value} {d : DataW H} {ps : List MemPlace} (hval : Value.okWide Tryd.prog W r b0 22 v) (hd : DataW.Trod enc Tryd.prog W 0 (fun _ => true) true 22 v d ps) :
    ∃ A c, ∃ l : List Fr, v = .slice A l.length c ∧ l.length ≤ c ∧ l.length ≤ 9223372036854775807 ∧ Rd W (fun k => k < W.heap.size) A (frs l) := by
  obtain ⟨a0, len, cap, rfl⟩ := okWide_slice Tryd.underlying22 hval
  obtain ⟨fuel, hf⟩ := hd
  rcases Deep.open_slice Tryd.underlying22 hf with ⟨hcs, _⟩ | ⟨a, len', cap', m, n, D, Pl, hcs, hb, hl, hm, hmm, hx, hel⟩
  · simp [Value.cells] at hcs
    obtain ⟨rfl, rfl, rfl⟩ := hcs
    exact ⟨none, 0, [], rfl, Nat.le_refl _, by decide, Rd.nil _ _ _⟩
  · simp [Value.cells] at hcs
    obtain ⟨rfl, rfl, rfl⟩ := hcs
    simp only [if_true] at hmm
    subst hmm
    have each : ∀ i, i < len → ∃ f : Fr, W.cell? (a.add (i * 3)) = some (.string f.nm) ∧ W.cell? ((a.add (i * 3)).add 1) = some (.int .i64 f.ln) ∧ W.cell? ((a.add (i * 3)).add 2) = some (.int .i64 f.cl) := by
      intro i hi
      obtain ⟨cs', h1, h2⟩ := hel i (by omega)
      rw [cellsOf_fr] at h1
      obtain ⟨y0, y1, y2, n', _, _, z0, z1, z2⟩ := Deep.trod_struct3 Tryd.underlying30 h2
      rw [show (Tryd.prog.cellsOf 9) = 1 from cellsOf_s] at z0
      rw [show (Tryd.prog.cellsOf 3) = 1 from cellsOf_i] at z1 z2
      obtain ⟨s, e0, _⟩ := DataW.trod_string Tryd.underlying9 z0
      obtain ⟨p, e1, _⟩ := DataW.trod_int Tryd.underlying3 z1
      obtain ⟨q, e2, _⟩ := DataW.trod_int Tryd.underlying3 z2
      obtain ⟨g0, g1, g2⟩ := cells3 h1
      refine ⟨⟨s, p, q⟩, g0.trans ?_, g1.trans ?_, g2.trans ?_⟩
      · exact take_one cs' 0 _ e0
      · exact take_one cs' 1 _ e1
      · exact take_one cs' 2 _ e2
    obtain ⟨F, hF⟩ := Deep.choose_lt each
    refine ⟨some a, m, (List.range len).map F, by simp, by simpa using hl, by simp; unfold maxLen at hm; omega, fun hn => ?_⟩
    have h0 : 0 < len := by
      rw [frs_len] at hn
      simp at hn
      omega
    obtain ⟨b, o, sp⟩ := a
    have hsp : sp = none := by
      have := (hF 0 h0).1
      cases sp with
      | none => rfl
      | some x =>
        exfalso
        simp [Addr.add, World.cell?] at this
        split at this <;> simp at this
    subst hsp
    refine ⟨b, o, rfl, World.block_lt_of_cell? W _ (hF 0 h0).1, fun j u hu => ?_⟩
    have hj : j < len * 3 := by
      have := (List.getElem?_eq_some_iff.1 hu).1
      rw [frs_len] at this
      simpa using this
    have hdiv := Nat.div_add_mod j 3
    have hi : j / 3 < ((List.range len).map F).length := by simp; omega
    have hq := flat_get Fr.cells 3 (fun _ => rfl) ((List.range len).map F) (j / 3) (j % 3) hi (Nat.mod_lt _ (by decide))
    rw [show j / 3 * 3 + j % 3 = j by omega] at hq
    have hu' : (Fr.cells (F (j / 3)))[j % 3]? = some u := by
      rw [← hu]
      show _ = (((List.range len).map F).flatMap Fr.cells)[j]?
      rw [hq]
      simp
    have hl' : j / 3 < len := by simpa using hi
    obtain ⟨t0, t1, t2⟩ := hF (j / 3) hl'
    have add0 : ∀ (k r : Nat), ((⟨b, o, none⟩ : Addr).add k).add r = ⟨b, o + (k + r), none⟩ := fun k r => by
      unfold Addr.add
      by_cases hk : k = 0 <;> by_cases hr : r = 0 <;> simp [hk, hr, Nat.add_assoc]
    have e0 : (⟨b, o, none⟩ : Addr).add (j / 3 * 3) = ⟨b, o + (j / 3 * 3 + 0), none⟩ := by
      rw [← add0]
      simp [Addr.add]
    rw [e0] at t0
    rw [add0] at t1 t2
    have hc : j % 3 = 0 ∨ j % 3 = 1 ∨ j % 3 = 2 := by omega
    rcases hc with hc | hc | hc
    · rw [hc] at hu'
      have : j = j / 3 * 3 + 0 := by omega
      rw [← this] at t0
      rw [t0]
      exact hu'
    · rw [hc] at hu'
      have : j = j / 3 * 3 + 1 := by omega
      rw [← this] at t1
      rw [t1]
      exact hu'
    · rw [hc] at hu'
      have : j = j / 3 * 3 + 2 := by omega
      rw [← this] at t2
      rw [t2]
      exact hu'
end Go.Proofs.YtgcdcchmdcdflaaDoor
