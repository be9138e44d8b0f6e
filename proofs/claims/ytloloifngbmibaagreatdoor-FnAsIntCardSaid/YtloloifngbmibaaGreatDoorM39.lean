/- The thin package's set. The reference's Hashable, to the letter. The reference's Makes. -/
import Derived.Test.YtloloifngbmibaaGreatDoorM38
import Derived.Test.YtloloifngbmibaaGreatDoorM33
set_option linter.unusedVariables false
set_option linter.unusedSimpArgs false
set_option maxRecDepth 4000
namespace Go.Proofs.YtloloifngbmibaaGreatDoor
open Go.RowKit

/-- The set under way. -/
structure SetR (w : World) (ys : List Value) (i : Nat) (es : List En) (W : World) : Prop where
  blk : Blk W w.heap.size 175 (htC w.heap.size es false).toArray
  low : Below w.heap.size w W
  hz : HzE es
  hv : ∀ e ∈ es, e.v = noneV
  fl : es.map En.k = ys.take i
  ln : i = es.length
theorem SetR.step {w : World} {ys : List Value} {i : Nat} {es : List En} {W W' : World} (h : SetR w ys i es W) {y : Value} (hy : ys[i]? = some y) (ho : ∃ h, h ≠ 0 ∧ Blk W' w.heap.size 175 (htC w.heap.size (es ++ [⟨h, y, noneV⟩]) false).toArray ∧ But (fun k => k = w.heap.size) W W') : ∃ es', SetR w ys (i + 1) es' W' := by
  obtain ⟨hh, h1, h2, h3⟩ := ho
  refine ⟨_, h2, h.low.trans (h3.below h.low.size (fun k hk => by subst hk; exact Nat.le_refl _)), ?_, ?_, ?_, ?_⟩
  · intro e he
    rcases List.mem_append.1 he with he | he
    · exact h.hz e he
    · rw [List.mem_singleton.1 he]
      exact h1
  · intro e he
    rcases List.mem_append.1 he with he | he
    · exact h.hv e he
    · rw [List.mem_singleton.1 he]
  · rw [List.map_append, h.fl, List.take_add_one, hy]
    rfl
  · rw [List.length_append, h.ln]
    rfl

theorem set_any (S : Nat → Prop) (A : Option Addr) (n c : Nat) (ys : List Value) (hl : ys.length = n) (hn : n ≤ 8) (w : World) (hr : Rd w S A ys) (hS : ∀ k, S k → k < w.heap.size) (hk : KeysOk 1 ys w) :
    Calls Tryz.prog 58 #[.slice A n c] w fun e w' => e = .returned (.tuple #[.pointer (some ⟨w.heap.size, 0, none⟩), .bool true]) ∧ ∃ es, SetR w ys n es w' := by
  have HK := Lib.hid hk
  have HR := Lib.hid hr
  have HS := Lib.hid hS
  have HL := Lib.hid hl
  have h0 : Hid (SetR w ys 0 [] (w.alloc (.cells (htZ false).toArray 175))) := Lib.hid ⟨Blk.new _ _ _, below_al (Below.refl _ _) _, (fun e h => by cases h), (fun e h => by cases h), by simp, rfl⟩
  clear hk hr hS hl
  go_enter Tryz.func58, Tryz.ntmps58
  go_wp2
  go_loopw [10] (fun iv wr => ∃ (i : Nat) (es : List En), iv = .int .i64 i ∧ i ≤ n ∧ Hid (SetR w ys i es wr)) (fun iv _ => n - (intOf iv).toNat)
  case atStart => exact ⟨0, [], rfl, Nat.zero_le _, h0⟩
  case round =>
    obtain ⟨i, es, rfl, hi, HD⟩ := hrel
    clear h0
    by_cases hlt : i < n
    · have hyl := HL.out
      have t1 : ys[i]? = some ys[i] := List.getElem?_eq_getElem (by omega)
      obtain ⟨b, o, rfl, hSb, q1⟩ := HR.out.at_ (k := i) (by omega)
      have hbn : b ≠ w.heap.size := Nat.ne_of_lt (HS.out b hSb)
      have hst : wr.heap[b]? = w.heap[b]? := HD.out.low.block b (HS.out b hSb)
      replace q1 := (World.cell?_of_block (a := ⟨b, o + i, none⟩) hst).trans q1
      obtain ⟨TK, xk, hyk⟩ := HK.out.ifc ys[i] (List.getElem_mem _)
      have hmk : ∀ e ∈ es, ∃ j, j < i ∧ ys[j]? = some e.k := fun e he => by
        obtain ⟨j, hj⟩ := List.getElem?_of_mem (List.mem_map.2 ⟨e, he, rfl⟩ : e.k ∈ es.map En.k)
        rw [HD.out.fl] at hj
        have hjl := (List.getElem?_eq_some_iff.1 hj).1
        rw [List.length_take] at hjl
        rw [List.getElem?_take, if_pos (by omega)] at hj
        exact ⟨j, by omega, hj⟩
      have hdr := HD.out
      have HC := Lib.hid (setInsert_any w.heap.size es (by have := HD.out.ln; omega) TK xk wr hdr.blk hdr.hz (fun e he => by
          obtain ⟨j, _, j3⟩ := hmk e he
          obtain ⟨T, x, hx⟩ := HK.out.ifc e.k (List.mem_of_getElem? j3)
          rw [hx]
          rfl) ((HK.out.hash i _ (Nat.mod_one _) (by rw [t1, hyk])).mono (fun W hW => hdr.low.trans (hW.below hdr.low.size (fun k hk => by subst hk; exact Nat.le_refl _)))) (fun e he W hW => by
          obtain ⟨j, j1, j3⟩ := hmk e he
          exact HK.out.apart i j _ _ j1 (Nat.mod_one _) (Nat.mod_one _) (by rw [t1, hyk]) j3 W (hdr.low.trans (hW.below hdr.low.size (fun k hk => by subst hk; exact Nat.le_refl _)))))
      have HST := Lib.hid (fun W' ho => hdr.step (W' := W') (by rw [t1, hyk]) ho)
      rw [hyk] at q1
      have HME := Lib.hid (ms_lt hlt)
      have HSI := Lib.hid (Nat.succ_le_of_lt hlt)
      have l0 : (i : Int) < (n : Int) := by omega
      have l2 : (0 : Int) ≤ (i : Int) := by omega
      clear hst hyk t1 hmk hdr hyl
      go_wp2_with fail
      refine HC.out.mono ?_
      rintro e w3 ⟨rfl, ho⟩
      have HO := Lib.hid (HST.out _ ho)
      clear ho HST HC HD q1
      go_wp2_with fail
      obtain ⟨es', hd'⟩ := HO.out
      exact ⟨⟨i + 1, es', rfl, HSI.out, Lib.hid hd'⟩, HME.out⟩
    · have hin : i = n := by omega
      subst hin
      have hc := ht_len HD.out.blk
      have HC := Lib.hid (setLen_any w.heap.size es.length (by have := HD.out.ln; omega) wr hc)
      have HN := HD.out.ln
      rw [← HN] at HC hc
      clear HN hc
      go_wp2_with fail
      refine HC.out.mono ?_
      rintro e w3 ⟨rfl, rfl⟩
      go_wp2
      go_ret2
      exact ⟨rfl, es, HD.out⟩
end Go.Proofs.YtloloifngbmibaaGreatDoor
set_option linter.unusedVariables false
set_option linter.unusedSimpArgs false
set_option maxRecDepth 4000
namespace Go.Proofs.YtloloifngbmibaaGreatDoor
open Go.RowKit

def hashB : Nat → Tr → Bool
  | 0, t => decide (t.k < 6) || decide (t.k = 7)
  | d + 1, t => decide (t.k < 6) || (decide (t.k = 7) && t.kids.all (hashB d))
theorem hashB_key : ∀ {d : Nat} {t : Tr}, hashB d t = true → KeyT d t
  | 0, t, h => by simpa [hashB, KeyT] using h
  | d + 1, t, h => by
    simp only [hashB, Bool.or_eq_true, decide_eq_true_eq, Bool.and_eq_true, List.all_eq_true] at h
    rcases h with h | ⟨h1, h2⟩
    · exact .inl h
    · exact .inr ⟨h1, fun u hu => hashB_key (h2 u hu)⟩

theorem key_hashB : ∀ {d : Nat} {t : Tr}, KeyT d t → hashB d t = true
  | 0, t, h => by simpa [hashB, KeyT] using h
  | d + 1, t, h => by
    simp only [hashB, Bool.or_eq_true, decide_eq_true_eq, Bool.and_eq_true, List.all_eq_true]
    rcases h with h | ⟨h1, h2⟩
    · exact .inl h
    · exact .inr ⟨h1, fun u hu => key_hashB (h2 u hu)⟩

theorem hashx_core (B : Bool) (R : Nat → Bool) (A : Option Addr) (n c : Nat) (k : Int) (ng : Bool) (m : Value) (bt : Int) (s : ByteArray) (w : World) (hn : n ≤ 1000) (hB : B = true ↔ (k < 6 ∨ (k = 7 ∧ ∀ i, i < n → R i = true)))
    (HK : k = 7 → ∀ i, i < n → ∀ W, Below w.heap.size w W → ∃ y, KidAt W A i y ∧ Calls Tryz.prog 50 #[y.agg] W fun e w' => e = .returned (.bool (R i)) ∧ Below W.heap.size W w') :
    Calls Tryz.prog 50 #[.agg #[.int .i64 k, .bool ng, m, .int .u64 bt, .string s, .slice A n c]] w fun e w' => e = .returned (.bool B) ∧ Below w.heap.size w w' := by
  have HH := Lib.hid HK
  have HBB := Lib.hid hB
  have h0 := Lib.hid (Blk.new w 26 #[.int .i64 k, .bool ng, m, .int .u64 bt, .string s, .slice A n c])
  have h1 := Lib.hid ((Below.refl w.heap.size w).alloc (Nat.le_refl _) (.cells #[.int .i64 k, .bool ng, m, .int .u64 bt, .string s, .slice A n c] 26))
  clear HK hB
  by_cases h7 : k = 7
  · have HK := Lib.hid (HH.out h7)
    clear HH
    subst h7
    go_enter Tryz.func50, Tryz.ntmps50
    go_wp2
    go_loopw [3] (fun iv wr => ∃ (i : Nat), iv = .int .i64 i ∧ i ≤ n ∧ Hid (∀ j, j < i → R j = true) ∧ Hid (Blk wr w.heap.size 26 #[.int .i64 7, .bool ng, m, .int .u64 bt, .string s, .slice A n c]) ∧ Hid (Below w.heap.size w wr)) (fun iv _ => n - (intOf iv).toNat)
    case atStart => exact ⟨0, rfl, Nat.zero_le _, Lib.hid (fun j hj => by omega), h0, h1⟩
    case round =>
      obtain ⟨i, rfl, hi, hP, hB, hL⟩ := hrel
      have b5 := hB.out.cell 5
      have lb := hB.out.lt
      simp at b5
      by_cases hlt : i < n
      · obtain ⟨y, ⟨b, o, rfl, y0, y1, y2, y3, y4, y5⟩, hc⟩ := HK.out i hlt wr hL.out
        have HC := Lib.hid hc
        have HME := Lib.hid (ms_lt hlt)
        have HSI := Lib.hid hlt
        have w1k := Lib.hid (wr_suc i (Nat.le_trans hi (Nat.le_trans hn (by decide))))
        obtain ⟨ri, hri⟩ : ∃ ri, ri = R i := ⟨_, rfl⟩
        have HRI := Lib.hid hri
        rw [← hri] at HC
        clear hc hri
        go_wp2_with fail
        refine HC.out.mono ?_
        rintro e w1 ⟨rfl, hb⟩
        have hB1 := Lib.hid (hB.out.below hb lb)
        have hL1 := Lib.hid (below_up hL.out hb)
        clear hB hL hb y0 y1 y2 y3 y4 y5 b5
        cases ri with
        | true =>
          go_wp2
          go_roundw
          case rel => exact ⟨i + 1, by first | rfl | (rw [w1k.out]; rfl), HSI.out, Lib.hid (fun j hj => by rcases Nat.lt_succ_iff_lt_or_eq.1 hj with h | h; exact hP.out j h; subst h; exact HRI.out.symm), hB1, hL1⟩
          case measure => first | exact HME.out | (rw [w1k.out]; exact HME.out)
        | false =>
          have hbf : Hid (B = false) := Lib.hid (by
            cases hb : B with
            | false => rfl
            | true =>
              rcases HBB.out.1 hb with h | ⟨_, h⟩
              · omega
              · have h1 := h i HSI.out
                rw [← HRI.out] at h1
                cases h1)
          go_wp2
          go_ret
          exact ⟨by rw [hbf.out]; rfl, hL1.out⟩
      · have hin : i = n := by omega
        subst hin
        have hbt : Hid (B = true) := Lib.hid (HBB.out.2 (.inr ⟨by first | rfl | trivial, hP.out⟩))
        go_wp2
        go_ret
        exact ⟨by rw [hbt.out]; rfl, hL.out⟩
  · have e7 := beq_no h7
    by_cases h6 : k < 6
    · have d6 := dec_yes h6
      have hbt : Hid (B = true) := Lib.hid (HBB.out.2 (.inl h6))
      clear h6 h7 HH HBB
      go_enter Tryz.func50, Tryz.ntmps50
      go_wp2
      go_ret
      exact ⟨by rw [hbt.out]; rfl, h1.out⟩
    · have d6 := dec_no h6
      have hbf : Hid (B = false) := Lib.hid (by
        cases hb : B with
        | false => rfl
        | true => rcases HBB.out.1 hb with h | ⟨h, _⟩ <;> contradiction)
      clear h6 h7 HH HBB
      go_enter Tryz.func50, Tryz.ntmps50
      go_wp2
      go_ret
      exact ⟨by rw [hbf.out]; rfl, h1.out⟩

theorem hashx_any : ∀ (d : Nat) {t : Tr} {x : Vc} {w : World}, HV (d + 1) t x w → Good d t → Calls Tryz.prog 50 #[x.agg] w fun e w' => e = .returned (.bool (hashB d t)) ∧ Below w.heap.size w w' := by
  intro d
  induction d with
  | zero =>
    intro t x w h g
    obtain ⟨A, c, hq, hc, _⟩ := h.kids
    have e1 : x.k = t.k := by obtain ⟨S, h1, _⟩ := h; exact h1.head.k
    obtain ⟨k, n, m, b, s, q⟩ := x
    simp only at e1 hq
    subst e1 hq
    refine hashx_core _ (fun _ => true) A t.kids.length c t.k n m b s w (by have := g.head.kl; omega) ?_ (fun h7 => by have := g.2.1; omega)
    simp [hashB]
  | succ d ih =>
    intro t x w h g
    obtain ⟨A, c, hq, hc, hk⟩ := h.kids
    have e1 : x.k = t.k := by obtain ⟨S, h1, _⟩ := h; exact h1.head.k
    obtain ⟨k, n, m, b, s, q⟩ := x
    simp only at e1 hq
    subst e1 hq
    refine hashx_core _ (fun i => match t.kids[i]? with | some u => hashB d u | none => true) A t.kids.length c t.k n m b s w (by have := g.head.kl; omega) ?_ ?_
    · simp only [hashB, Bool.or_eq_true, decide_eq_true_eq, Bool.and_eq_true, List.all_eq_true]
      constructor
      · rintro (h | ⟨h1, h2⟩)
        · exact .inl h
        · exact .inr ⟨h1, fun i hi => by rw [List.getElem?_eq_getElem hi]; exact h2 _ (List.getElem_mem hi)⟩
      · rintro (h | ⟨h1, h2⟩)
        · exact .inl h
        · refine .inr ⟨h1, fun u hu => ?_⟩
          obtain ⟨i, hi⟩ := List.getElem?_of_mem hu
          have hil := (List.getElem?_eq_some_iff.1 hi).1
          have := h2 i hil
          rw [hi] at this
          exact this
    · intro _ i hi W hW
      obtain ⟨y, u, hu, hy, hya⟩ := (hk.up hW).at_ hi
      refine ⟨y, hya, ?_⟩
      rw [hu]
      exact ih hy (g.2.2.1 u (List.mem_of_getElem? hu))
end Go.Proofs.YtloloifngbmibaaGreatDoor
set_option linter.unusedVariables false
set_option linter.unusedSimpArgs false
set_option maxRecDepth 4000
namespace Go.Proofs.YtloloifngbmibaaGreatDoor
open Go.RowKit

def MakesOut (P : Prop) (w : World) (e : Ending) (w' : World) : Prop := ∃ r : Bool, e = .returned (.bool r) ∧ (r = true → P) ∧ Below w.heap.size w w'
theorem makes_false {P : Prop} {w w' : World} (h : Below w.heap.size w w') : MakesOut P w (.returned (.bool false)) w' := ⟨false, rfl, (fun h => nomatch h), h⟩
theorem makes_true {P : Prop} {w w' : World} (hp : P) (h : Below w.heap.size w w') : MakesOut P w (.returned (.bool true)) w' := ⟨true, rfl, fun _ => hp, h⟩

set_option maxHeartbeats 1000000 in
theorem makesA (P1 : Nat → Prop) (P3 : Nat → Nat → Prop) (k : Int) (ng : Bool) (Am : Option Addr) (nm cm : Nat) (b : Int) (s : ByteArray) (A : Option Addr) (n c : Nat) (hn : n ≤ 1000) (hnc : n ≤ c) (hk : k ≠ 8 ∧ k ≠ 9) (h0 : 0 ≤ k) (h9 : k ≤ 9) (w : World)
    (H1 : ∀ i, i < n → ∀ W, Below w.heap.size w W → ∃ u : Vc, KidAt W A i u ∧ Calls Tryz.prog 20 #[u.agg] W (MakesOut (P1 i) W)) :
    Calls Tryz.prog 20 #[.agg #[.int .i64 k, .bool ng, .slice Am nm cm, .int .u64 b, .string s, .slice A n c]] w (MakesOut (∀ i, i < n → P1 i) w) := by
  have HH1 := Lib.hid H1
  clear H1
  have hs := Lib.hid (Bv1.start w ⟨k, ng, .slice Am nm cm, b, s, .slice A n c⟩)
  have e8 := beq_no hk.1
  have e9 := beq_no hk.2
  have d0 : ¬ k < 0 := by omega
  have d9 : ¬ 9 < k := by omega
  clear hk h0 h9
  go_enter Tryz.func20, Tryz.ntmps20
  go_wp2
  go_loopw [3] (fun iv wr => ∃ (i : Nat), iv = .int .i64 i ∧ i ≤ n ∧ Hid (∀ j, j < i → P1 j) ∧ Hid (Bv1 w ⟨k, ng, .slice Am nm cm, b, s, .slice A n c⟩ wr)) (fun iv _ => n - (intOf iv).toNat)
  case atStart => exact ⟨0, rfl, Nat.zero_le _, Lib.hid (fun j hj => by omega), hs⟩
  case round =>
    obtain ⟨i, rfl, hi, hP, hB⟩ := hrel
    have b5 := hB.out.2.cell 5
    have b0 := hB.out.2.cell 0
    simp at b5 b0
    by_cases hlt : i < n
    · obtain ⟨u, ⟨b1, o1, rfl, u0, u1, u2, u3, u4, u5⟩, hc⟩ := HH1.out i hlt wr hB.out.lo
      have HC := Lib.hid hc
      have HME := Lib.hid (ms_lt hlt)
      have HSI := Lib.hid (Nat.succ_le_of_lt hlt)
      have w1k := Lib.hid (wr_suc i (Nat.le_trans hi (Nat.le_trans hn (by decide))))
      clear hc hi hlt hnc
      go_wp2_with fail
      refine HC.out.mono ?_
      rintro e w1 ⟨r, rfl, hr, hb1⟩
      have hB1 := Lib.hid (hB.out.up hb1)
      have HR := Lib.hid hr
      clear hB hb1 hr b5 b0 u0 u1 u2 u3 u4 u5 HC HH1
      cases r with
      | true =>
        have HP2 : Hid (∀ j, j < i + 1 → P1 j) := Lib.hid (fun j hj => by rcases Nat.lt_succ_iff_lt_or_eq.1 hj with h | h; exact hP.out j h; subst h; first | exact HR.out rfl | exact HR.out trivial)
        go_wp2
        go_roundw
        case rel => exact ⟨i + 1, by first | rfl | (rw [w1k.out]; rfl), HSI.out, HP2, hB1⟩
        case measure => first | exact HME.out | (rw [w1k.out]; exact HME.out)
      | false =>
        go_wp2
        go_ret
        exact makes_false hB1.out.lo
    · have hie : i = n := Nat.le_antisymm hi (Nat.not_lt.1 hlt)
      subst hie
      clear HH1 hlt hi
      have HL := Lib.hid hB.out.lo
      clear hB
      go_wp2
      go_loopw [5] (fun iv wr => Hid (Below w.heap.size w wr)) (fun iv _ => 0)
      case atStart => exact HL
      case round =>
        go_wp2
        go_ret
        exact makes_true hP.out hrel.out

set_option maxHeartbeats 1000000 in
theorem makes8 (P1 : Nat → Prop) (P3 : Nat → Nat → Prop) (k : Int) (ng : Bool) (Am : Option Addr) (nm cm : Nat) (b : Int) (s : ByteArray) (A : Option Addr) (n c : Nat) (hn : n ≤ 1000) (hnc : n ≤ c) (hk : k = 8) (h0 : 0 ≤ k) (h9 : k ≤ 9) (w : World)
    (H1 : ∀ i, i < n → ∀ W, Below w.heap.size w W → ∃ u : Vc, KidAt W A i u ∧ Calls Tryz.prog 20 #[u.agg] W (MakesOut (P1 i) W))
    (H2 : ∀ i, i < n → i % 2 = 0 → ∀ W, Below w.heap.size w W → ∃ u : Vc, KidAt W A i u ∧ Calls Tryz.prog 50 #[u.agg] W (fun e w' => e = .returned (.bool true) ∧ Below W.heap.size W w') ∧ ∀ W', Below W.heap.size W W' → Calls Tryz.prog 51 #[.slice A i c, .int .i64 2, u.agg] W' (FindOut (P3 i) i 2 W')) :
    Calls Tryz.prog 20 #[.agg #[.int .i64 k, .bool ng, .slice Am nm cm, .int .u64 b, .string s, .slice A n c]] w (MakesOut ((∀ i, i < n → P1 i) ∧ n % 2 = 0 ∧ (∀ i, i < n → i % 2 = 0 → ∀ j, j < i → j % 2 = 0 → ¬ P3 i j)) w) := by
  have HH1 := Lib.hid H1
  have HH2 := Lib.hid H2
  clear H1 H2
  have hs := Lib.hid (Bv1.start w ⟨k, ng, .slice Am nm cm, b, s, .slice A n c⟩)
  subst hk
  clear h0 h9
  by_cases hev : n % 2 = 0
  · have ev : ((n : Int) % 2 == 1) = false := beq_no (by omega)
    have HEV := Lib.hid hev
    clear hev
    go_enter Tryz.func20, Tryz.ntmps20
    go_wp2
    go_loopw [3] (fun iv wr => ∃ (i : Nat), iv = .int .i64 i ∧ i ≤ n ∧ Hid (∀ j, j < i → P1 j) ∧ Hid (Bv1 w ⟨8, ng, .slice Am nm cm, b, s, .slice A n c⟩ wr)) (fun iv _ => n - (intOf iv).toNat)
    case atStart => exact ⟨0, rfl, Nat.zero_le _, Lib.hid (fun j hj => by omega), hs⟩
    case round =>
      obtain ⟨i, rfl, hi, hP, hB⟩ := hrel
      have b5 := hB.out.2.cell 5
      have b0 := hB.out.2.cell 0
      simp at b5 b0
      by_cases hlt : i < n
      · obtain ⟨u, ⟨b1, o1, rfl, u0, u1, u2, u3, u4, u5⟩, hc⟩ := HH1.out i hlt wr hB.out.lo
        have HC := Lib.hid hc
        have HME := Lib.hid (ms_lt hlt)
        have HSI := Lib.hid (Nat.succ_le_of_lt hlt)
        have w1k := Lib.hid (wr_suc i (Nat.le_trans hi (Nat.le_trans hn (by decide))))
        clear hc hi hlt hnc
        go_wp2_with fail
        refine HC.out.mono ?_
        rintro e w1 ⟨r, rfl, hr, hb1⟩
        have hB1 := Lib.hid (hB.out.up hb1)
        have HR := Lib.hid hr
        clear hB hb1 hr b5 b0 u0 u1 u2 u3 u4 u5 HC HH1 HH2
        cases r with
        | true =>
          have HP2 : Hid (∀ j, j < i + 1 → P1 j) := Lib.hid (fun j hj => by rcases Nat.lt_succ_iff_lt_or_eq.1 hj with h | h; exact hP.out j h; subst h; first | exact HR.out rfl | exact HR.out trivial)
          go_wp2
          go_roundw
          case rel => exact ⟨i + 1, by first | rfl | (rw [w1k.out]; rfl), HSI.out, HP2, hB1⟩
          case measure => first | exact HME.out | (rw [w1k.out]; exact HME.out)
        | false =>
          go_wp2
          go_ret
          exact makes_false hB1.out.lo
      · have hie : i = n := Nat.le_antisymm hi (Nat.not_lt.1 hlt)
        subst hie
        clear HH1 hlt hi
        go_wp2
        clear b5 b0
        obtain ⟨wo, rfl⟩ : ∃ wo : World, wo = wr := ⟨_, rfl⟩
        go_loopw [5] (fun jv wr => ∃ (j : Nat), jv = .int .i64 j ∧ j ≤ i + 1 ∧ j % 2 = 0 ∧ Hid (∀ q, q < j → q % 2 = 0 → ∀ p, p < q → p % 2 = 0 → ¬ P3 q p) ∧ Hid (Bv1 w ⟨8, ng, .slice Am nm cm, b, s, .slice A i c⟩ wr)) (fun jv _ => i + 2 - (intOf jv).toNat)
        case atStart => exact ⟨0, rfl, Nat.zero_le _, rfl, Lib.hid (fun q hq => by omega), hB⟩
        case round =>
          obtain ⟨j, rfl, hj, hjm, hQ, hB⟩ := hrel
          have b5 := hB.out.2.cell 5
          simp at b5
          by_cases hlt : j < i
          · obtain ⟨u, ⟨b1, o1, rfl, hu⟩, hc, hf⟩ := HH2.out j hlt hjm wr.drew hB.out.lo.drew
            have HC := Lib.hid hc
            have HF := Lib.hid hf
            have HME : Hid (i + 2 - (j + 2) < i + 2 - j) := Lib.hid (by omega)
            have HSI : Hid (j + 2 ≤ i + 1 ∧ (j + 2) % 2 = 0) := Lib.hid ⟨by omega, by omega⟩
            have w1k : Hid (wrap64 ((j : Int) + 2) = (j : Int) + 2) := Lib.hid (wr_add j 2 (by omega))
            have HS6 := Lib.hid (show Bv1S w 8 ng (.slice Am nm cm) b s (.slice (some ⟨b1, o1, none⟩) i c) wr.drew ∧ Six wr.drew b1 (o1 + j * 6) u from ⟨hB.out.drew.s, hu⟩)
            have hjc : (j : Int) ≤ (c : Int) := by omega
            have hjc2 : j ≤ c := by omega
            have HBB := Lib.hid hB.out.drew
            have HJM := Lib.hid hjm
            clear hc hf hu hj hjm HH2 hB
            go_wp2_with fail
            go_region_held3 (fun W => Bv1S w 8 ng (.slice Am nm cm) b s (.slice (some ⟨b1, o1, none⟩) i c) W ∧ Six W b1 (o1 + j * 6) u)
              (first | (with_reducible assumption) | (with_reducible exact HS6.out) | (with_reducible exact ⟨((HS6.out.1.1.up hb2).up hb3).s, (HS6.out.2.up hb2).up hb3⟩) | (with_reducible exact ⟨(HS6.out.1.1.up hb2).s, HS6.out.2.up hb2⟩))
              (first
                | (go_at_call 50; (with_reducible refine HC.out.mono ?_); rintro e w2 ⟨rfl, hb2⟩)
                | (go_at_call 51; (with_reducible refine (HF.out _ hb2).mono ?_); rintro e w3 ⟨r, rfl, hr, hb3⟩))
            have hB3 := Lib.hid ((HBB.out.up hb2).up hb3)
            have HR := Lib.hid hr
            clear hb2 hb3 hr HS6 HBB HC HF b5 hjc hjc2
            by_cases hr0 : r < 0
            · have HQ2 : Hid (∀ q, q < j + 2 → q % 2 = 0 → ∀ p, p < q → p % 2 = 0 → ¬ P3 q p) := Lib.hid (fun q hq hqm => by
                by_cases h : q < j
                · exact hQ.out q h hqm
                · have hqj : q = j := by have := HJM.out; omega
                  rw [hqj]
                  exact HR.out hr0)
              go_wp2
              go_roundw
              case rel => exact ⟨j + 2, by first | rfl | (rw [w1k.out]; rfl), HSI.out.1, HSI.out.2, HQ2, hB3⟩
              case measure => first | exact HME.out | (rw [w1k.out]; exact HME.out)
            · have hr1 : 0 ≤ r := by omega
              clear hr0
              go_wp2
              go_ret
              exact makes_false hB3.out.lo
          · have HQ3 : Hid (∀ q, q < i → q % 2 = 0 → ∀ p, p < q → p % 2 = 0 → ¬ P3 q p) := Lib.hid (fun q hq => hQ.out q (by omega))
            have HL := Lib.hid hB.out.lo
            clear hB HH2
            go_wp2
            go_ret
            exact makes_true ⟨hP.out, HEV.out, HQ3.out⟩ HL.out
  · have ev : ((n : Int) % 2 == 1) = true := beq_yes (by omega)
    clear hev HH1 HH2
    have b0 := hs.out.lo
    go_enter Tryz.func20, Tryz.ntmps20
    go_wp2
    go_ret
    exact makes_false hs.out.lo

set_option maxHeartbeats 1000000 in
theorem makes9 (P1 : Nat → Prop) (P3 : Nat → Nat → Prop) (k : Int) (ng : Bool) (Am : Option Addr) (nm cm : Nat) (b : Int) (s : ByteArray) (A : Option Addr) (n c : Nat) (hn : n ≤ 1000) (hnc : n ≤ c) (hk : k = 9) (h0 : 0 ≤ k) (h9 : k ≤ 9) (w : World)
    (H1 : ∀ i, i < n → ∀ W, Below w.heap.size w W → ∃ u : Vc, KidAt W A i u ∧ Calls Tryz.prog 20 #[u.agg] W (MakesOut (P1 i) W))
    (H2 : ∀ i, i < n → i % 1 = 0 → ∀ W, Below w.heap.size w W → ∃ u : Vc, KidAt W A i u ∧ Calls Tryz.prog 50 #[u.agg] W (fun e w' => e = .returned (.bool true) ∧ Below W.heap.size W w') ∧ ∀ W', Below W.heap.size W W' → Calls Tryz.prog 51 #[.slice A i c, .int .i64 1, u.agg] W' (FindOut (P3 i) i 1 W')) :
    Calls Tryz.prog 20 #[.agg #[.int .i64 k, .bool ng, .slice Am nm cm, .int .u64 b, .string s, .slice A n c]] w (MakesOut ((∀ i, i < n → P1 i) ∧ (∀ i, i < n → i % 1 = 0 → ∀ j, j < i → j % 1 = 0 → ¬ P3 i j)) w) := by
  have HH1 := Lib.hid H1
  have HH2 := Lib.hid H2
  clear H1 H2
  have hs := Lib.hid (Bv1.start w ⟨k, ng, .slice Am nm cm, b, s, .slice A n c⟩)
  subst hk
  clear h0 h9
  go_enter Tryz.func20, Tryz.ntmps20
  go_wp2
  go_loopw [3] (fun iv wr => ∃ (i : Nat), iv = .int .i64 i ∧ i ≤ n ∧ Hid (∀ j, j < i → P1 j) ∧ Hid (Bv1 w ⟨9, ng, .slice Am nm cm, b, s, .slice A n c⟩ wr)) (fun iv _ => n - (intOf iv).toNat)
  case atStart => exact ⟨0, rfl, Nat.zero_le _, Lib.hid (fun j hj => by omega), hs⟩
  case round =>
    obtain ⟨i, rfl, hi, hP, hB⟩ := hrel
    have b5 := hB.out.2.cell 5
    have b0 := hB.out.2.cell 0
    simp at b5 b0
    by_cases hlt : i < n
    · obtain ⟨u, ⟨b1, o1, rfl, u0, u1, u2, u3, u4, u5⟩, hc⟩ := HH1.out i hlt wr hB.out.lo
      have HC := Lib.hid hc
      have HME := Lib.hid (ms_lt hlt)
      have HSI := Lib.hid (Nat.succ_le_of_lt hlt)
      have w1k := Lib.hid (wr_suc i (Nat.le_trans hi (Nat.le_trans hn (by decide))))
      clear hc hi hlt hnc
      go_wp2_with fail
      refine HC.out.mono ?_
      rintro e w1 ⟨r, rfl, hr, hb1⟩
      have hB1 := Lib.hid (hB.out.up hb1)
      have HR := Lib.hid hr
      clear hB hb1 hr b5 b0 u0 u1 u2 u3 u4 u5 HC HH1 HH2
      cases r with
      | true =>
        have HP2 : Hid (∀ j, j < i + 1 → P1 j) := Lib.hid (fun j hj => by rcases Nat.lt_succ_iff_lt_or_eq.1 hj with h | h; exact hP.out j h; subst h; first | exact HR.out rfl | exact HR.out trivial)
        go_wp2
        go_roundw
        case rel => exact ⟨i + 1, by first | rfl | (rw [w1k.out]; rfl), HSI.out, HP2, hB1⟩
        case measure => first | exact HME.out | (rw [w1k.out]; exact HME.out)
      | false =>
        go_wp2
        go_ret
        exact makes_false hB1.out.lo
    · have hie : i = n := Nat.le_antisymm hi (Nat.not_lt.1 hlt)
      subst hie
      clear HH1 hlt hi
      go_wp2
      clear b5 b0
      obtain ⟨wo, rfl⟩ : ∃ wo : World, wo = wr := ⟨_, rfl⟩
      go_loopw [5] (fun jv wr => ∃ (j : Nat), jv = .int .i64 j ∧ j ≤ i + 1 ∧ j % 1 = 0 ∧ Hid (∀ q, q < j → q % 1 = 0 → ∀ p, p < q → p % 1 = 0 → ¬ P3 q p) ∧ Hid (Bv1 w ⟨9, ng, .slice Am nm cm, b, s, .slice A i c⟩ wr)) (fun jv _ => i + 2 - (intOf jv).toNat)
      case atStart => exact ⟨0, rfl, Nat.zero_le _, rfl, Lib.hid (fun q hq => by omega), hB⟩
      case round =>
        obtain ⟨j, rfl, hj, hjm, hQ, hB⟩ := hrel
        have b5 := hB.out.2.cell 5
        simp at b5
        by_cases hlt : j < i
        · obtain ⟨u, ⟨b1, o1, rfl, hu⟩, hc, hf⟩ := HH2.out j hlt hjm wr.drew hB.out.lo.drew
          have HC := Lib.hid hc
          have HF := Lib.hid hf
          have HME : Hid (i + 2 - (j + 1) < i + 2 - j) := Lib.hid (by omega)
          have HSI : Hid (j + 1 ≤ i + 1 ∧ (j + 1) % 1 = 0) := Lib.hid ⟨by omega, by omega⟩
          have w1k : Hid (wrap64 ((j : Int) + 1) = (j : Int) + 1) := Lib.hid (wr_add j 1 (by omega))
          have HS6 := Lib.hid (show Bv1S w 9 ng (.slice Am nm cm) b s (.slice (some ⟨b1, o1, none⟩) i c) wr.drew ∧ Six wr.drew b1 (o1 + j * 6) u from ⟨hB.out.drew.s, hu⟩)
          have hjc : (j : Int) ≤ (c : Int) := by omega
          have hjc2 : j ≤ c := by omega
          have HBB := Lib.hid hB.out.drew
          have HJM := Lib.hid hjm
          clear hc hf hu hj hjm HH2 hB
          go_wp2_with fail
          go_region_held3 (fun W => Bv1S w 9 ng (.slice Am nm cm) b s (.slice (some ⟨b1, o1, none⟩) i c) W ∧ Six W b1 (o1 + j * 6) u)
            (first | (with_reducible assumption) | (with_reducible exact HS6.out) | (with_reducible exact ⟨((HS6.out.1.1.up hb2).up hb3).s, (HS6.out.2.up hb2).up hb3⟩) | (with_reducible exact ⟨(HS6.out.1.1.up hb2).s, HS6.out.2.up hb2⟩))
            (first
              | (go_at_call 50; (with_reducible refine HC.out.mono ?_); rintro e w2 ⟨rfl, hb2⟩)
              | (go_at_call 51; (with_reducible refine (HF.out _ hb2).mono ?_); rintro e w3 ⟨r, rfl, hr, hb3⟩))
          have hB3 := Lib.hid ((HBB.out.up hb2).up hb3)
          have HR := Lib.hid hr
          clear hb2 hb3 hr HS6 HBB HC HF b5 hjc hjc2
          by_cases hr0 : r < 0
          · have HQ2 : Hid (∀ q, q < j + 1 → q % 1 = 0 → ∀ p, p < q → p % 1 = 0 → ¬ P3 q p) := Lib.hid (fun q hq hqm => by
              by_cases h : q < j
              · exact hQ.out q h hqm
              · have hqj : q = j := by have := HJM.out; omega
                rw [hqj]
                exact HR.out hr0)
            go_wp2
            go_roundw
            case rel => exact ⟨j + 1, by first | rfl | (rw [w1k.out]; rfl), HSI.out.1, HSI.out.2, HQ2, hB3⟩
            case measure => first | exact HME.out | (rw [w1k.out]; exact HME.out)
          · have hr1 : 0 ≤ r := by omega
            clear hr0
            go_wp2
            go_ret
            exact makes_false hB3.out.lo
        · have HQ3 : Hid (∀ q, q < i → q % 1 = 0 → ∀ p, p < q → p % 1 = 0 → ¬ P3 q p) := Lib.hid (fun q hq => hQ.out q (by omega))
          have HL := Lib.hid hB.out.lo
          clear hB HH2
          go_wp2
          go_ret
          exact makes_true ⟨hP.out, HQ3.out⟩ HL.out

end Go.Proofs.YtloloifngbmibaaGreatDoor
