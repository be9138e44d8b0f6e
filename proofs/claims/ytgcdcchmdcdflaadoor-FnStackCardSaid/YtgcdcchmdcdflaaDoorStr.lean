/- Walk of CallStack.String. -/
import Derived.Test.YtgcdcchmdcdflaaDoorPos
import Derived.Test.YtgcdcchmdcdflaaDoorOrd
set_option linter.unusedVariables false
namespace Go.Proofs.YtgcdcchmdcdflaaDoor
open Go.RowKit

/-- A line of the trace. -/
abbrev lineT (f : Fr) : ByteArray := ({ data := #[32, 32] } ++ posT f.ln f.cl ++ { data := #[58, 32, 105, 110, 32] } ++ f.nm) ++ { data := #[10] }
theorem lineT_size (f : Fr) (h : f.Ok) : (lineT f).size ≤ 100 := by
  have := posT_size f.ln f.cl ⟨h.2.1, h.2.2.1⟩ h.2.2.2
  have h1 := h.1
  unfold lineT
  simp only [ByteArray.size_append]
  show 2 + (posT f.ln f.cl).size + 5 + f.nm.size + 1 ≤ 100
  omega
theorem lineT_list (f : Fr) : ∃ a b, (lineT f).data.toList = a ++ f.nm.data.toList ++ b :=
  ⟨[32, 32] ++ (posT f.ln f.cl).data.toList ++ [58, 32, 105, 110, 32], [10], by
    simp only [ByteArray.data_append, Array.toList_append]⟩
theorem cells_bytes (s : ByteArray) : Lib.strCells s = Lib.byteCells s.data.toList := rfl
theorem bytes_app (a b : List UInt8) : Lib.byteCells (a ++ b) = Lib.byteCells a ++ Lib.byteCells b := by simp [Lib.byteCells]

/-- What the loop holds when k frames have been told. -/
structure Told (w : World) (b : Nat) (l : List Fr) (k : Nat) (L : List UInt8) (W : World) : Prop where
  bld : Lib.IsBuilder 51 5 w.heap.size b (Lib.byteCells L) W
  below : Below w.heap.size w W
  em : Em ((l.take k).map (·.nm.data.toList)) L
  len : L.length ≤ 100 + 100 * k

theorem bld_up {B b : Nat} {bs : List Value} {W W' : World} (h : Lib.IsBuilder 51 5 B b bs W) (hb : Below W.heap.size W W') : Lib.IsBuilder 51 5 B b bs W' := by
  rcases h with ⟨h1, v, h2, h3, h4⟩ | ⟨h1, v, h2, h3, h4⟩
  · exact .inl ⟨h1, v, (hb.block b (Blk.lt h2)).trans h2, own_below h3 hb, h4⟩
  · exact .inr ⟨h1, v, (hb.block b (Blk.lt h2)).trans h2, own_below h3 hb, h4⟩
/-- What the region reads. -/
abbrev RowS (w : World) (g p : Nat) (f : Fr) (W : World) : Prop := Below w.heap.size w W ∧ W.cell? ⟨g, 0, none⟩ = some (.string f.nm) ∧ W.cell? ⟨g, 1, none⟩ = some (.pointer (some ⟨p, 0, none⟩)) ∧ W.cell? ⟨g, 2, none⟩ = some (.int .i32 f.ln) ∧ W.cell? ⟨g, 3, none⟩ = some (.int .i32 f.cl)
theorem RowS.up {w W W' : World} {g p : Nat} {f : Fr} (hb : Below W.heap.size W W') (h : RowS w g p f W) : RowS w g p f W' :=
  ⟨below_up h.1 hb, cell_up hb h.2.1, cell_up hb h.2.2.1, cell_up hb h.2.2.2.1, cell_up hb h.2.2.2.2⟩
theorem Told.next {w W W' : World} {b : Nat} {l : List Fr} {k : Nat} {L : List UInt8} {f : Fr} (h : Told w b l k L W) (hf : l[k]? = some f) (hs : (lineT f).size ≤ 100) (hb : Lib.BuilderAt 51 5 w.heap.size b (.pointer (some ⟨b, 0, none⟩)) (Lib.byteCells L ++ Lib.strCells (lineT f)) W') (hB : Below w.heap.size w W') : Told w b l (k + 1) (L ++ (lineT f).data.toList) W' := by
  refine ⟨.inr ?_, hB, ?_, ?_⟩
  · rw [bytes_app]
    exact hb
  · have hk : k < l.length := (List.getElem?_eq_some_iff.1 hf).1
    have e : l[k] = f := (List.getElem?_eq_some_iff.1 hf).2
    rw [List.take_succ_eq_append_getElem hk, e, List.map_append]
    obtain ⟨a, c, hac⟩ := lineT_list f
    rw [hac]
    exact h.em.snoc a _ c
  · have := h.len
    rw [List.length_append]
    show L.length + (lineT f).size ≤ _
    omega

theorem str_loop (p : Nat) (S : Nat → Prop) (A : Option Addr) (c : Nat) (l : List Fr) (hl : l.length ≤ 1000) (h0 : 0 < l.length) (hok : ∀ f ∈ l, f.Ok) (w : World) (h : Rd w S A (cfs ⟨p, 0, none⟩ l)) (hS : ∀ k, S k → k < w.heap.size)
    (hp : w.cell? ⟨p, 0, none⟩ = some (.string { data := #[102] })) (hpl : p < w.heap.size) (ht : Tab w) :
    Calls Tryd.prog 10 #[.slice A l.length c] w fun e w' => ∃ L, e = .returned (.string ⟨L.toArray⟩) ∧ Em (l.map (·.nm.data.toList)) L ∧ L.length ≤ 1000000 ∧ Below w.heap.size w w' := by
  have H : Hid (∀ W : World, Below w.heap.size w W → Rd W S A (cfs ⟨p, 0, none⟩ l)) := fun W hW => h.keep (still_below hW hS)
  have HP : Hid (∀ W : World, Below w.heap.size w W → W.cell? ⟨p, 0, none⟩ = some (.string { data := #[102] }) ∧ p < W.heap.size ∧ Tab W) := Lib.hid fun W hW => ⟨cell_up hW hp, Nat.lt_of_lt_of_le hpl hW.size, tab_up ht hW⟩
  have HN := Lib.hid hl
  have HO := Lib.hid hok
  have H0 := Lib.hid h0
  have hbl := Lib.hid (Lib.fresh_isBuilder 51 5 w)
  have hbe := Lib.hid ((Below.refl w.heap.size w).alloc (Nat.le_refl _) (.cells #[.pointer none, .slice none 0 0] 51))
  have d0 : (0 : Int) < (l.length : Int) := by omega
  clear h hS hp hpl ht hl hok h0
  go_enter Tryd.func10, Tryd.ntmps10
  go_wp2_with fail
  refine (writeString_any w.heap.size w.heap.size [] _ _ hbl.out (by decide) (by simp)).mono ?_
  rintro e w1 ⟨rfl, hb1, hbe1, hk1⟩
  clear hk1
  have hB : Hid (Told w w.heap.size l 0 [84, 114, 97, 99, 101, 98, 97, 99, 107, 32, 40, 109, 111, 115, 116, 32, 114, 101, 99, 101, 110, 116, 32, 99, 97, 108, 108, 32, 108, 97, 115, 116, 41, 58, 10] w1) :=
    Lib.hid ⟨.inr hb1, hbe.out.trans hbe1, trivial, by decide⟩
  clear hb1 hbe1
  go_wp2
  go_loopw [14] (fun i wr => ∃ (k : Nat) (L : List UInt8), i = .int .i64 (k : Int) ∧ k ≤ l.length ∧ Hid (Told w w.heap.size l k L wr)) (fun i _ => ((l.length : Int) - intOf i).toNat)
  case atStart => exact ⟨0, _, rfl, by omega, hB⟩
  case round =>
    obtain ⟨k, L, rfl, hk, hT⟩ := hrel
    by_cases hlt : k < l.length
    · obtain ⟨f, hf, b, o, rfl, hSb, c0, c1, c2, c3⟩ := rd_cf (H.out _ hT.out.below) hlt
      have hfo : Hid f.Ok := Lib.hid (HO.out f (List.mem_of_getElem? hf))
      have hbg := below_al (Below.refl wr.heap.size wr) (.cells #[.string f.nm, .pointer (some ⟨p, 0, none⟩), .int .i32 f.ln, .int .i32 f.cl] 42)
      have hnw := Blk.new wr 42 #[.string f.nm, .pointer (some ⟨p, 0, none⟩), .int .i32 f.ln, .int .i32 f.cl]
      obtain ⟨W, hW⟩ : ∃ W, W = (wr.alloc (.cells #[.string f.nm, .pointer (some ⟨p, 0, none⟩), .int .i32 f.ln, .int .i32 f.cl] 42)) := ⟨_, rfl⟩
      rw [← hW] at hbg hnw
      have h0 : Hid (RowS w wr.heap.size p f W.drew) := Lib.hid ⟨(below_up hT.out.below hbg).drew, hnw.cell 0, hnw.cell 1, hnw.cell 2, hnw.cell 3⟩
      have hbld0 : Hid (Lib.IsBuilder 51 5 w.heap.size w.heap.size (Lib.byteCells L) W.drew) := Lib.hid (bld_up hT.out.bld hbg.drew)
      have hstep : Hid (∀ W1 W2 : World, Below W1.heap.size W1 W2 → RowS w wr.heap.size p f W1 → RowS w wr.heap.size p f W2) := Lib.hid fun W1 W2 => RowS.up
      have HPOS : Hid (∀ W1 : World, Below w.heap.size w W1 → Calls Tryd.prog 15 #[.agg #[.pointer (some ⟨p, 0, none⟩), .int .i32 f.ln, .int .i32 f.cl]] W1 fun e w' => e = .returned (.string (posT f.ln f.cl)) ∧ Below W1.heap.size W1 w') :=
        Lib.hid fun W1 h1 => pos_any p f.ln f.cl ⟨hfo.out.2.1, hfo.out.2.2.1⟩ hfo.out.2.2.2 W1 (HP.out W1 h1).1 (HP.out W1 h1).2.1 (HP.out W1 h1).2.2
      have hgb : Hid (wr.heap.size ≠ w.heap.size) := Lib.hid (by rcases hT.out.bld with h1 | h1 <;> exact Nat.ne_of_gt h1.lt)
      have HWR : Hid (∀ W1 : World, Below W.drew.heap.size W.drew W1 → Calls Tryd.prog 14 #[.pointer (some ⟨w.heap.size, 0, none⟩), .string (lineT f)] W1 fun e w' => e = .returned (.tuple #[.int .i64 (lineT f).size, .nilIface]) ∧ Told w w.heap.size l (k + 1) (L ++ (lineT f).data.toList) w' ∧ RowS w wr.heap.size p f w') := Lib.hid fun W1 h1 => by
        have hb1 := bld_up hbld0.out h1
        have hr1 := RowS.up h1 h0.out
        have hs := lineT_size f hfo.out
        refine (writeString_any w.heap.size w.heap.size (Lib.byteCells L) (lineT f) W1 hb1 (by have := hT.out.len; have := HN.out; rw [Lib.byteCells_length]; omega) hr1.1.size).mono ?_
        rintro e w' ⟨rfl, hb, hbe, hk⟩
        have hrow := hk wr.heap.size _ _ ((hnw.drew).below h1 hnw.lt) (by decide) hgb.out
        exact ⟨rfl, hT.out.next hf hs hb (hr1.1.trans hbe), hr1.1.trans hbe, hrow.cell 0, hrow.cell 1, hrow.cell 2, hrow.cell 3⟩
      have z0 := posT_size f.ln f.cl ⟨hfo.out.2.1, hfo.out.2.2.1⟩ hfo.out.2.2.2
      have z00 := hfo.out.1
      have z1 : ¬ 9223372036854775807 < 2 + (posT f.ln f.cl).size := by omega
      have z2 : ¬ 9223372036854775807 < 2 + (posT f.ln f.cl).size + 5 := by omega
      have z3 : ¬ 9223372036854775807 < 2 + (posT f.ln f.cl).size + 5 + f.nm.size := by omega
      have z4 : ¬ 9223372036854775807 < 2 + (posT f.ln f.cl).size + 5 + f.nm.size + 1 := by omega
      have HK := Lib.hid hlt
      clear z0 z00 hbg hnw
      go_upto_region 7 with fail
      rw [← hW]
      clear hW c0 c1 c2 c3 hf hSb
      go_region_held3 (fun W => Below w.heap.size w W ∧ W.cell? ⟨wr.heap.size, 0, none⟩ = some (.string f.nm) ∧ W.cell? ⟨wr.heap.size, 1, none⟩ = some (.pointer (some ⟨p, 0, none⟩)) ∧ W.cell? ⟨wr.heap.size, 2, none⟩ = some (.int .i32 f.ln) ∧ W.cell? ⟨wr.heap.size, 3, none⟩ = some (.int .i32 f.cl)) (first | assumption | exact h0.out | exact hstep.out _ _ ‹Below _ _ _› h0.out)
        (first | (go_at_call 15; (with_reducible refine (HPOS.out _ ?_).mono ?_); (first | exact h0.out.1 | exact (‹Below w.heap.size w _ ∧ _›).1); rintro e w' ⟨rfl, hb⟩) | (go_at_call 14; (with_reducible refine (HWR.out _ ?_).mono ?_); (first | assumption); rintro e w'' ⟨rfl, hb2, hb3⟩))
      have HB2 := Lib.hid hb2
      have HM := Lib.hid (meas_lt HK.out)
      have w1k : wrap64 ((k : Int) + 1) = (k : Int) + 1 := by have := HN.out; have := HK.out; unfold wrap64; omega
      clear hb hb2 hb3 h0 hbld0 hstep HPOS HWR z1 z2 z3 z4 hgb
      clear ‹Below w.heap.size w w'' ∧ _›
      go_wp2
      go_roundw
      case rel => exact ⟨k + 1, _, by first | rfl | (rw [w1k]; rfl), HK.out, HB2⟩
      case measure => first | exact HM.out | (rw [w1k]; exact HM.out)
    · have : k = l.length := by omega
      subst this
      go_wp2_with fail
      refine (Tryd.Builder_String_any w.heap.size w.heap.size L _ hT.out.bld hT.out.below.size).mono ?_
      rintro e w2 ⟨rfl, hb2⟩
      go_wp2
      go_ret
      refine ⟨L, rfl, ?_, ?_, hT.out.below.trans hb2⟩
      · have := hT.out.em
        rwa [List.take_length] at this
      · have := hT.out.len
        have := HN.out
        omega

theorem str_nil (A : Option Addr) (c : Nat) (w : World) :
    Calls Tryd.prog 10 #[.slice A 0 c] w fun e w' => e = .returned (.string ⟨#[]⟩) ∧ Below w.heap.size w w' := by
  have hbl := Lib.hid (Lib.fresh_isBuilder 51 5 w)
  have hbe := Lib.hid ((Below.refl w.heap.size w).alloc (Nat.le_refl _) (.cells #[.pointer none, .slice none 0 0] 51))
  go_enter Tryd.func10, Tryd.ntmps10
  go_wp2
  go_loop [14] (fun i => i = .int .i64 0) (fun i => 0)
  case atStart => rfl
  case round =>
    subst hrel
    go_wp2_with fail
    refine (Tryd.Builder_String_any w.heap.size w.heap.size [] _ hbl.out (by simp)).mono ?_
    rintro e w2 ⟨rfl, hb2⟩
    go_wp2
    go_ret
    exact ⟨rfl, hbe.out.trans hb2⟩

theorem str_any (p : Nat) (S : Nat → Prop) (A : Option Addr) (c : Nat) (l : List Fr) (hl : l.length ≤ 1000) (hok : ∀ f ∈ l, f.Ok) (w : World) (h : Rd w S A (cfs ⟨p, 0, none⟩ l)) (hS : ∀ k, S k → k < w.heap.size)
    (hp : w.cell? ⟨p, 0, none⟩ = some (.string { data := #[102] })) (hpl : p < w.heap.size) (ht : Tab w) :
    Calls Tryd.prog 10 #[.slice A l.length c] w fun e w' => ∃ T : ByteArray, e = .returned (.string T) ∧ Emb T 0 (l.map (·.nm)) ∧ T.size ≤ 1000000000 ∧ Below w.heap.size w w' := by
  by_cases h0 : 0 < l.length
  · refine (str_loop p S A c l hl h0 hok w h hS hp hpl ht).mono ?_
    rintro e w' ⟨L, rfl, hE, hL, hb⟩
    refine ⟨⟨L.toArray⟩, rfl, Em.emb (Nat.zero_le _) ?_, ?_, hb⟩
    · simpa [List.map_map, Function.comp_def] using hE
    · show L.toArray.size ≤ _
      simp
      omega
  · have : l = [] := List.eq_nil_of_length_eq_zero (by omega)
    subst this
    refine (str_nil A c w).mono ?_
    rintro e w' ⟨rfl, hb⟩
    exact ⟨_, rfl, trivial, by decide, hb⟩
end Go.Proofs.YtgcdcchmdcdflaaDoor
