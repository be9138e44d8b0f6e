/- The language's Int.Int64 and Int.Uint64. -/
import Derived.Test.YtloloifngbmibaaGreatDoorM41
set_option linter.unusedVariables false
set_option linter.unusedSimpArgs false
set_option maxRecDepth 4000
namespace Go.Proofs.YtloloifngbmibaaGreatDoor
open Go.RowKit

theorem SI.cases {B : Nat} {v : Value} {x : Int} {w : World} (h : SI B v x w) : (v = .agg #[.int .i64 x, .pointer none] ∧ -2147483648 ≤ x ∧ x ≤ 2147483647) ∨ ∃ b, v = .agg #[.int .i64 0, .pointer (some ⟨b, 0, none⟩)] ∧ BI b x w := by
  rcases h with h | ⟨b, neg, ws, u, h1, h2, h3, h4, h5, h6, h7, h8, h9⟩
  · exact .inl h
  · exact .inr ⟨b, h1, neg, ws, u, h2, h3.mono (fun k hk => hk.2), h5, h6, h8, h9, fun _ => List.length_pos_iff.1 h7⟩
def OkI (x : Int) (w : World) (e : Ending) (w' : World) : Prop := ∃ (r : Int) (ok : Bool), e = .returned (.tuple #[.int .i64 r, .bool ok]) ∧ (ok = true ↔ inI x) ∧ (ok = true → r = x) ∧ Below w.heap.size w w'
def OkU (x : Int) (w : World) (e : Ending) (w' : World) : Prop := ∃ (r : Int) (ok : Bool), e = .returned (.tuple #[.int .u64 r, .bool ok]) ∧ (ok = true ↔ inU x) ∧ (ok = true → r = x) ∧ Below w.heap.size w w'

theorem int64S {B : Nat} {v : Value} {x : Int} {w : World} (h : SI B v x w) : Calls Tryz.prog 89 #[v] w (OkI x w) := by
  have HG := Lib.hid (fun s p (h1 : Value.oneCell' s = true) (h2 : Value.oneCell' p = true) W => get_any s p h1 h2 W)
  rcases h.cases with ⟨rfl, h0, h1⟩ | ⟨b, rfl, hb⟩
  · have HX : Hid (inI x) := Lib.hid (by unfold inI; omega)
    clear h h0 h1
    go_enter Tryz.func89, Tryz.ntmps89
    go_wp2_with fail
    refine (HG.out _ _ rfl rfl _).mono ?_
    rintro e w1 ⟨rfl, m, rfl⟩
    go_wp2
    go_ret2
    exact ⟨x, true, rfl, ⟨fun _ => HX.out, fun _ => rfl⟩, fun _ => rfl, below_drewN' (below_al (below_al (Below.refl _ _) _) _) _⟩
  · have hne : ∀ W : World, (binOp .neq 113 (.pointer (some ⟨b, 0, none⟩)) (.pointer none)).run Tryz.prog W = .ok (.bool true) W := fun _ => by kernel_rfl
    have HB := Lib.hid hb
    clear h hb
    go_enter Tryz.func89, Tryz.ntmps89
    go_wp2_with fail
    refine (HG.out _ _ rfl rfl _).mono ?_
    rintro e w1 ⟨rfl, m, rfl⟩
    have HL1 : Hid (Below w.heap.size w _) := Lib.hid (below_drewN' (below_al (below_al (Below.refl _ _) (.cells #[.int .i64 0, .pointer (some ⟨b, 0, none⟩)] 117)) (.cells #[.int .i64 0, .pointer (some ⟨b, 0, none⟩)] 117)) m)
    go_wp2_with fail
    refine (toI_any (HB.out.up HL1.out)).mono ?_
    rintro e w2 ⟨r, a, rfl, ha, hr, hlo⟩
    have HL2 := Lib.hid (below_up HL1.out hlo)
    have HA := Lib.hid (And.intro ha hr)
    clear ha hr hlo
    by_cases h0 : a = 0
    · subst h0
      go_wp2
      go_ret2
      exact ⟨r, true, rfl, ⟨fun _ => HA.out.1.1 trivial, fun _ => rfl⟩, fun _ => HA.out.2 trivial, HL2.out⟩
    · have hn0 := bne_yes h0
      have HN := Lib.hid h0
      clear h0
      go_wp2
      go_ret2
      exact ⟨_, false, rfl, ⟨(fun h => by cases h), fun h => absurd (HA.out.1.2 h) HN.out⟩, (fun h => by cases h), HL2.out⟩

theorem uint64S {B : Nat} {v : Value} {x : Int} {w : World} (h : SI B v x w) : Calls Tryz.prog 90 #[v] w (OkU x w) := by
  have HG := Lib.hid (fun s p (h1 : Value.oneCell' s = true) (h2 : Value.oneCell' p = true) W => get_any s p h1 h2 W)
  rcases h.cases with ⟨rfl, h0, h1⟩ | ⟨b, rfl, hb⟩
  · by_cases hx : x < 0
    · have HX : Hid (¬ inU x) := Lib.hid (by unfold inU; omega)
      clear h h0 h1
      go_enter Tryz.func90, Tryz.ntmps90
      go_wp2_with fail
      refine (HG.out _ _ rfl rfl _).mono ?_
      rintro e w1 ⟨rfl, m, rfl⟩
      go_wp2
      go_ret2
      exact ⟨_, false, rfl, ⟨(fun h => by cases h), fun h => absurd h HX.out⟩, (fun h => by cases h), below_drewN' (below_al (below_al (Below.refl _ _) _) _) _⟩
    · have HX : Hid (inU x) := Lib.hid (by unfold inU; omega)
      have w1 : IntKind.u64.wrap x = x := by rw [IntKind.wrap_u64]; omega
      clear h h0 h1
      go_enter Tryz.func90, Tryz.ntmps90
      go_wp2_with fail
      refine (HG.out _ _ rfl rfl _).mono ?_
      rintro e w1 ⟨rfl, m, rfl⟩
      go_wp2
      go_ret2
      exact ⟨x, true, by first | rfl | (rw [w1]), ⟨fun _ => HX.out, fun _ => rfl⟩, fun _ => rfl, below_drewN' (below_al (below_al (Below.refl _ _) _) _) _⟩
  · have hne : ∀ W : World, (binOp .neq 113 (.pointer (some ⟨b, 0, none⟩)) (.pointer none)).run Tryz.prog W = .ok (.bool true) W := fun _ => by kernel_rfl
    have HB := Lib.hid hb
    clear h hb
    go_enter Tryz.func90, Tryz.ntmps90
    go_wp2_with fail
    refine (HG.out _ _ rfl rfl _).mono ?_
    rintro e w1 ⟨rfl, m, rfl⟩
    have HL1 : Hid (Below w.heap.size w _) := Lib.hid (below_drewN' (below_al (below_al (Below.refl _ _) (.cells #[.int .i64 0, .pointer (some ⟨b, 0, none⟩)] 117)) (.cells #[.int .i64 0, .pointer (some ⟨b, 0, none⟩)] 117)) m)
    go_wp2_with fail
    refine (toU_any (HB.out.up HL1.out)).mono ?_
    rintro e w2 ⟨r, a, rfl, ha, hr, hlo⟩
    have HL2 := Lib.hid (below_up HL1.out hlo)
    have HA := Lib.hid (And.intro ha hr)
    clear ha hr hlo
    by_cases h0 : a = 0
    · subst h0
      go_wp2
      go_ret2
      exact ⟨r, true, rfl, ⟨fun _ => HA.out.1.1 trivial, fun _ => rfl⟩, fun _ => HA.out.2 trivial, HL2.out⟩
    · have hn0 := bne_yes h0
      have HN := Lib.hid h0
      clear h0
      go_wp2
      go_ret2
      exact ⟨_, false, rfl, ⟨(fun h => by cases h), fun h => absurd (HA.out.1.2 h) HN.out⟩, (fun h => by cases h), HL2.out⟩
end Go.Proofs.YtloloifngbmibaaGreatDoor
