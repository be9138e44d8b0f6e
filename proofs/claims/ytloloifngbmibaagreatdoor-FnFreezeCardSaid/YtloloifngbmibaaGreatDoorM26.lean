/- The language's Hash: none, bools, ints, strings, bytes. -/
import Derived.Test.YtloloifngbmibaaGreatDoorM25
set_option linter.unusedVariables false
set_option linter.unusedSimpArgs false
set_option maxRecDepth 4000
namespace Go.Proofs.YtloloifngbmibaaGreatDoor
open Go.RowKit Go.Extern.Stop Go.Stop

def HashOut (w : World) (e : Ending) (w' : World) : Prop := ∃ h : Int, e = .returned (.tuple #[.int .u32 h, .nilIface]) ∧ Below w.heap.size w w'

theorem hNone (x : Value) (w : World) : Calls Tryz.prog 310 #[x] w (HashOut w) := by
  go_enter Tryz.func310, Tryz.ntmps310
  go_wp2
  go_ret2
  exact ⟨_, rfl, Below.refl _ _⟩
theorem hBool (b : Bool) (w : World) : Calls Tryz.prog 316 #[.bool b] w (HashOut w) := by
  have H1 := Lib.hid (fun w => b2i_any b w)
  obtain ⟨x, hx⟩ : ∃ x : Int, x = if b then 1 else 0 := ⟨_, rfl⟩
  rw [← hx] at H1
  clear hx
  go_enter Tryz.func316, Tryz.ntmps316
  go_wp2_with fail
  refine (H1.out _).mono ?_
  rintro e w1 ⟨rfl, rfl⟩
  go_wp2
  go_ret2
  exact ⟨_, rfl, Below.refl _ _⟩
theorem bits_any (S : Nat → Prop) (b o : Nat) (neg : Bool) (ws : List Int) (w : World) (h : BigV w S b o neg ws) : Calls Tryz.prog 308 #[.pointer (some ⟨b, o, none⟩)] w fun e w' => (∃ A c, e = .returned (.slice A ws.length c) ∧ Rd w S A (ints .u64 ws)) ∧ w' = w := by
  obtain ⟨v, hSb, c0, c1, A, c, rfl, hc, hr⟩ := h
  have HR := Lib.hid hr
  clear hr hc
  go_enter Tryz.func308, Tryz.ntmps308
  go_wp2
  go_ret
  exact ⟨⟨A, c, rfl, HR.out⟩, rfl⟩
theorem hInt {B : Nat} {v : Value} {x : Int} {w : World} (h : SI B v x w) : Calls Tryz.prog 302 #[v] w (HashOut w) := by
  have HG := Lib.hid (fun s p (h1 : Value.oneCell' s = true) (h2 : Value.oneCell' p = true) W => get_any s p h1 h2 W)
  rcases h with ⟨rfl, h0, h1⟩ | ⟨b, neg, ws, u, rfl, h2, h3, h4, h5, h6, h7, h8, h9⟩
  · clear h0 h1
    go_enter Tryz.func302, Tryz.ntmps302
    go_wp2_with fail
    refine (HG.out _ _ rfl rfl _).mono ?_
    rintro e w1 ⟨rfl, m, rfl⟩
    go_wp2
    go_ret2
    exact ⟨_, rfl, below_drewN' (below_al (below_al (Below.refl _ _) _) _) _⟩
  · have hne : ∀ W : World, (binOp .neq 113 (.pointer (some ⟨b, 0, none⟩)) (.pointer none)).run Tryz.prog W = .ok (.bool true) W := fun _ => by kernel_rfl
    have hbv : BigV w (fun k => k < w.heap.size) b 0 neg ws := BigV.of_blk h2 h2.lt (h3.mono (fun k hk => hk.2))
    have HB := Lib.hid (fun W (hW : Below w.heap.size w W) => bits_any _ b 0 neg ws W (hbv.keep (still_below hW (fun k hk => hk))))
    have HL := Lib.hid h7
    clear h2 h3 h4 h5 h6 h7 h8 h9 hbv
    go_enter Tryz.func302, Tryz.ntmps302
    go_wp2_with fail
    refine (HG.out _ _ rfl rfl _).mono ?_
    rintro e w1 ⟨rfl, m, rfl⟩
    have HL1 : Hid (Below w.heap.size w _) := Lib.hid (below_drewN' (below_al (below_al (Below.refl _ _) (.cells #[.int .i64 0, .pointer (some ⟨b, 0, none⟩)] 117)) (.cells #[.int .i64 0, .pointer (some ⟨b, 0, none⟩)] 117)) m)
    go_wp2_with fail
    refine (HB.out _ HL1.out).mono ?_
    rintro e w2 ⟨⟨A, c, rfl, hr⟩, rfl⟩
    obtain ⟨b', o', rfl, _, c0⟩ := rd_int hr (j := 0) HL.out
    rw [Nat.add_zero] at c0
    obtain ⟨n, hn⟩ : ∃ n, n = ws.length := ⟨_, rfl⟩
    have hl := HL.out
    rw [← hn] at hl ⊢
    clear hr hn
    go_wp2
    go_ret2
    exact ⟨_, rfl, HL1.out⟩
theorem softHash (s : ByteArray) (hs : s.size ≤ 60) (w : World) : Calls Tryz.prog 341 #[.string s] w fun e w' => ∃ h : Int, e = .returned (.int .u32 h) ∧ Below w.heap.size w w' := by
  go_enter Tryz.func341, Tryz.ntmps341
  go_wp2
  go_loop [3, 4] (fun hv iv => ∃ (h : Int) (i : Nat), hv = .int .u32 h ∧ iv = .int .i64 i ∧ i ≤ s.size) (fun _ iv => s.size - (intOf iv).toNat)
  case atStart => exact ⟨_, 0, rfl, rfl, Nat.zero_le _⟩
  case round =>
    obtain ⟨h, i, rfl, rfl, hi⟩ := hrel
    by_cases hlt : i < s.size
    · have hi1 : (i : Int) < (s.size : Int) := Int.ofNat_lt.2 hlt
      have HME := Lib.hid (ms_lt hlt)
      have HSI := Lib.hid (Nat.succ_le_of_lt hlt)
      go_wp2_with fail
      exact ⟨⟨_, i + 1, rfl, rfl, HSI.out⟩, HME.out⟩
    · have hin : i = s.size := by omega
      subst hin
      go_wp2
      go_ret
      first | exact ⟨_, rfl, Below.refl _ _⟩ | exact ⟨⟨_, rfl⟩, Below.refl _ _⟩
theorem hashString_any (s : ByteArray) (hs : s.size ≤ 60) (w : World) : Calls Tryz.prog 339 #[.string s] w fun e w' => ∃ h : Int, e = .returned (.int .u32 h) ∧ Below w.heap.size w w' := by
  have HC := Lib.hid (softHash s hs w)
  clear hs
  go_enter Tryz.func339, Tryz.ntmps339
  go_wp2_with fail
  refine HC.out.mono ?_
  rintro e w1 ⟨h, rfl, hb⟩
  have HB := Lib.hid hb
  clear hb
  go_wp2
  go_ret
  first | exact ⟨_, rfl, HB.out⟩ | exact ⟨⟨_, rfl⟩, HB.out⟩
theorem hStr (s : ByteArray) (hs : s.size ≤ 60) (w : World) : Calls Tryz.prog 334 #[.string s] w (HashOut w) := by
  have HC := Lib.hid (hashString_any s hs w)
  clear hs
  go_enter Tryz.func334, Tryz.ntmps334
  go_wp2_with fail
  refine HC.out.mono ?_
  rintro e w1 ⟨h, rfl, hb⟩
  have HB := Lib.hid hb
  clear hb
  go_wp2
  go_ret2
  exact ⟨_, rfl, HB.out⟩
theorem hByt (s : ByteArray) (hs : s.size ≤ 60) (w : World) : Calls Tryz.prog 345 #[.string s] w (HashOut w) := by
  have HC := Lib.hid (hStr s hs w)
  clear hs
  go_enter Tryz.func345, Tryz.ntmps345
  go_wp2_with fail
  refine HC.out.mono ?_
  rintro e w1 ⟨h, rfl, hb⟩
  have HB := Lib.hid hb
  clear hb
  go_wp2
  go_ret2
  exact ⟨_, rfl, HB.out⟩
end Go.Proofs.YtloloifngbmibaaGreatDoor
