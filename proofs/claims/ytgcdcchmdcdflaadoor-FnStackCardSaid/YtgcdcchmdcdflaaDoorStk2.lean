/- Walk of stackFrames. -/
import Derived.Test.YtgcdcchmdcdflaaDoorStk1
import Derived.Laws.Runes
set_option linter.unusedVariables false
namespace Go.Proofs.YtgcdcchmdcdflaaDoor
open Go.RowKit

theorem info_fr : (Tryd.prog.info? 30).map (fun i => (i.zero, i.size, i.bytes)) = some (some (.agg #[.string { data := #[] }, .int .i64 0, .int .i64 0]), 3, 32) := by kernel_rfl

theorem rem_fr (x : Int) : 0 ≤ (IntKind.u64.wrap x).tmod 100000 ∧ (IntKind.u64.wrap x).tmod 100000 < 100000 := by
  have : 0 ≤ IntKind.u64.wrap x := by simp only [IntKind.wrap_u64]; omega
  constructor
  · exact Int.tmod_nonneg _ this
  · exact Int.tmod_lt_of_pos _ (by omega)
theorem ln_fr (x : Int) : ∃ y : Int, wrap64 (1 + wrap64 ((IntKind.u64.wrap x).tmod 100000)) = y ∧ 1 ≤ y ∧ y ≤ 100000 := by
  have := rem_fr x
  refine ⟨_, rfl, ?_⟩
  simp only [wrap64] at *
  omega
theorem Fr.ok_mk {s : ByteArray} {a b : Int} (h : s.size ≤ 16) (ha : 1 ≤ a ∧ a ≤ 100000) (hb : 1 ≤ b ∧ b ≤ 100000) : Fr.Ok ⟨s, a, b⟩ := ⟨h, ha.1, ha.2, hb.1, hb.2⟩
theorem ok_snoc {l : List Fr} {g : Fr} (h : ∀ f ∈ l, f.Ok) (hg : g.Ok) : ∀ f ∈ l ++ [g], f.Ok := fun f hf => by
  rcases List.mem_append.1 hf with hf | hf
  · exact h f hf
  · rw [List.mem_singleton.1 hf]
    exact hg
theorem meas_lt {m k : Nat} (h : k < m) : ((m : Int) - intOf (.int .i64 ((k : Int) + 1))).toNat < ((m : Int) - intOf (.int .i64 (k : Int))).toNat := by
  simp only [intOf]
  omega
theorem rd_one_fr (w : World) (t : TypeId) (s : ByteArray) (a b : Int) (g : Nat) (hg : g = w.heap.size) : Rd (w.alloc (.cells #[.string s, .int .i64 a, .int .i64 b] t)) (fun k => k = g) (some ⟨g, 0, none⟩) (frs [⟨s, a, b⟩]) := by
  subst hg
  exact Rd.of_blk (ys := []) (Blk.new w t #[.string s, .int .i64 a, .int .i64 b]) rfl
theorem sum_fr (k : Nat) (hk : k < 20) : IntKind.i64.wrap (97 + (k : Int)) = 97 + (k : Int) ∧ IntKind.i32.wrap (97 + (k : Int)) = 97 + (k : Int) := by
  simp only [IntKind.wrap_i64, IntKind.wrap_i32]
  omega
theorem rune_fr (k : Nat) (hk : k < 20) : ∃ s : ByteArray, (∀ w, (convert 21 9 (.int .i32 (97 + (k : Int)))).run Tryd.prog w = .ok (.string s) w) ∧ 1 + s.size ≤ 9223372036854775807 ∧ (({ data := #[102] } : ByteArray) ++ s).size ≤ 16 := by
  have : ∀ k : Fin 20, (Utf8.encode (97 + ((k : Nat) : Int))).size = 1 := by decide
  have h1 := this ⟨k, hk⟩
  refine ⟨_, fun w => run_convert_int_string w _ _ _ _ (by rfl) Tryd.underlying9, ?_, ?_⟩
  · show 1 + (Utf8.encode (97 + (((⟨k, hk⟩ : Fin 20) : Nat) : Int))).size ≤ _
    omega
  · rw [ByteArray.size_append]
    show ({ data := #[102] } : ByteArray).size + (Utf8.encode (97 + (((⟨k, hk⟩ : Fin 20) : Nat) : Int))).size ≤ _
    rw [h1]
    decide

set_option maxHeartbeats 1000000 in
set_option maxRecDepth 100000 in
theorem stackFrames_any (S : Nat → Prop) (A : Option Addr) (c : Nat) (l : List Fr) (hlen : l.length ≤ 9223372036854775807) (hc : l.length ≤ c) (w : World) (h : Rd w S A (frs l)) (hS : ∀ k, S k → k < w.heap.size) :
    Calls Tryd.prog 5 #[.slice A l.length c] w fun e w' => ∃ v fs, e = .returned v ∧ fs.length ≤ 20 ∧ (∀ f ∈ fs, f.Ok) ∧ w'.ownsRow w.heap.size 30 3 v fs.length (frs fs) ∧ Below w.heap.size w w' := by
  have H : Hid (∀ W : World, Below w.heap.size w W → Rd W S A (frs l)) := fun W hW => h.keep (still_below hW hS)
  have h0 := Lib.hid (Below.refl w.heap.size w)
  have hm : ∃ m : Nat, m ≤ l.length ∧ m ≤ 20 ∧ m ≤ c ∧ (((l.length : Int) ≤ 20 ∧ m = l.length) ∨ ((20 : Int) < (l.length : Int) ∧ m = 20)) := by
    rcases Nat.lt_or_ge 20 l.length with hq | hq
    · exact ⟨20, by omega, by omega, by omega, .inr ⟨by omega, rfl⟩⟩
    · exact ⟨l.length, by omega, by omega, by omega, .inl ⟨by omega, rfl⟩⟩
  obtain ⟨m, hm1, hm2, hmc, hm3⟩ := hm
  have hown0 := Lib.hid (World.ownsRow_nil w w.heap.size 30 3)
  have HN := Lib.hid hlen
  have HML := Lib.hid hm1
  have HM20 := Lib.hid hm2
  clear h hS hlen hc
  go_enter Tryd.func5, Tryd.ntmps5
  rcases hm3 with ⟨hq, hme⟩ | ⟨hq, hme⟩
  all_goals
    skip
    go_wp2
    clear hm1 hm2 hmc hq
    go_loopw [2, 11] (fun v i wr => ∃ (k : Nat) (fs : List Fr), i = .int .i64 (k : Int) ∧ k ≤ m ∧ Hid (fs.length = k) ∧ Hid (∀ f ∈ fs, f.Ok) ∧ Hid (wr.ownsRow w.heap.size 30 3 v fs.length (frs fs)) ∧ Hid (Below w.heap.size w wr)) (fun _ i _ => ((m : Int) - intOf i).toNat)
    case atStart => exact ⟨0, [], rfl, by omega, rfl, Lib.hid (fun f hf => absurd hf (by simp)), hown0, h0⟩
    case round =>
      obtain ⟨k, fs, rfl, hk, hfl, hfo, how, hbe⟩ := hrel
      by_cases hlt : k < m
      · obtain ⟨f, hf, b, o, rfl, hSb, c0, c1, c2⟩ := rd_fr (H.out _ hbe.out) (show k < l.length by have := HML.out; omega)
        have hk20 : k < 20 := by have := HM20.out; omega
        obtain ⟨e1, e2⟩ := sum_fr k hk20
        obtain ⟨s, es, hs1, hs2⟩ := rune_fr k hk20
        obtain ⟨y1, ey1, hy1⟩ := ln_fr f.ln
        obtain ⟨y2, ey2, hy2⟩ := ln_fr f.cl
        have HY := Lib.hid (And.intro hy1 hy2)
        have HS := Lib.hid hs2
        have hk2 := Lib.hid hk20
        clear hs2 hk20 hk hy1 hy2
        go_wp2_with (at_builtin; refine wpList_append_rd _ rfl _ _ 22 rfl w.heap.size 30 (.agg #[.string { data := #[] }, .int .i64 0, .int .i64 0]) 3 32 Tryd.underlying22 info_fr rfl (by decide) u2 fs.length (frs fs) rfl ?own (fun k => k = wr.heap.size + 1) (some ⟨wr.heap.size + 1, 0, none⟩) 1 1 (frs [⟨{ data := #[102] } ++ s, y1, y2⟩]) rfl rfl ?rd (frs_one _) ?h63 ?hb ?base ?_)
        case own => exact own_below (own_below how.out (below_al (Below.refl _ _) _)) (below_al (Below.refl _ _) _)
        case rd => exact rd_one_fr _ _ _ _ _ _ (by simp)
        case h63 => have := hfl.out; have := hk2.out; unfold maxLen; omega
        case hb => have := hfl.out; have := hk2.out; omega
        case base => have := hbe.out.size; simp; omega
        intro v2 w2 ho hg _
        have hb2 : Below w.heap.size w w2 := (below_al (below_al hbe.out _) _).grown hg (by have := hbe.out.size; simp; omega) (fun g hg => (own_lt how.out hg).1)
        have ho2 := Lib.hid ho
        have hb3 := Lib.hid hb2
        clear hg ho hb2 c0 c1 c2 es hs1 e1 e2 ey1 ey2
        have e3 : wrap64 ((k : Int) + 1) = (k : Int) + 1 := by have := hk2.out; unfold wrap64; omega
        go_wp2
        go_roundw
        case rel =>
          refine ⟨k + 1, fs ++ [⟨{ data := #[102] } ++ s, y1, y2⟩], by simp [e3], by omega, ?_, ?_, ?_, hb3⟩
          · have := hfl.out; exact Lib.hid (by simp [this])
          · exact Lib.hid (ok_snoc hfo.out (Fr.ok_mk HS.out HY.out.1 HY.out.2))
          · refine Lib.hid ?_
            rw [frs_app, List.length_append]
            exact ho2.out
        case measure => first | exact meas_lt hlt | (rw [e3]; exact meas_lt hlt)
      · have : k = m := by omega
        subst this
        go_wp2
        go_ret
        exact ⟨_, fs, rfl, by have := hfl.out; have := HM20.out; omega, hfo.out, how.out, hbe.out⟩
end Go.Proofs.YtgcdcchmdcdflaaDoor
