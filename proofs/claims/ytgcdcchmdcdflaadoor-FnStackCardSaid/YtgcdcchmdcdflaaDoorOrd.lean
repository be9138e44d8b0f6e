/- What 'ordered' asks, in plain Lean, and its walk. -/
import Derived.Test.YtgcdcchmdcdflaaDoorStk2
set_option linter.unusedVariables false
namespace Go.Proofs.YtgcdcchmdcdflaaDoor
open Go.RowKit

/-- The names stand in the text from a place on, in order. -/
def Emb (T : ByteArray) : Nat → List ByteArray → Prop
  | _, [] => True
  | at_, x :: xs => ∃ p, at_ ≤ p ∧ p + x.size ≤ T.size ∧ T.extract p (p + x.size) = x ∧ Emb T (p + x.size) xs
theorem Emb.mono {T : ByteArray} {a a' : Nat} {l : List ByteArray} (h : Emb T a l) (ha : a' ≤ a) : Emb T a' l := by
  cases l with
  | nil => trivial
  | cons x xs =>
    obtain ⟨p, h1, h2⟩ := h
    exact ⟨p, Nat.le_trans ha h1, h2⟩
/-- .. of lists of bytes. -/
def Em : List (List UInt8) → List UInt8 → Prop
  | [], _ => True
  | x :: xs, L => ∃ a b, L = a ++ x ++ b ∧ Em xs b
theorem Em.snoc {xs : List (List UInt8)} {L : List UInt8} (h : Em xs L) (a x b : List UInt8) : Em (xs ++ [x]) (L ++ (a ++ x ++ b)) := by
  induction xs generalizing L with
  | nil => exact ⟨L ++ a, b, by simp, trivial⟩
  | cons y ys ih =>
    obtain ⟨a', b', rfl, h2⟩ := h
    exact ⟨a', b' ++ (a ++ x ++ b), by simp, ih h2⟩
theorem Em.emb {T : ByteArray} {xs : List ByteArray} {k : Nat} (hk : k ≤ T.size) (h : Em (xs.map (·.data.toList)) (T.data.toList.drop k)) : Emb T k xs := by
  induction xs generalizing k with
  | nil => trivial
  | cons x xs ih =>
    obtain ⟨a, b, hab, h2⟩ := h
    have hl : (T.data.toList.drop k).length = T.size - k := by rw [List.length_drop]; rfl
    have hab' := congrArg List.length hab
    rw [hl] at hab'
    simp only [List.length_append] at hab'
    have hx : x.data.toList.length = x.size := rfl
    have hTs : T.data.toList.length = T.size := rfl
    have hb : b = T.data.toList.drop (k + a.length + x.size) := by
      have : T.data.toList.drop (k + a.length + x.size) = (T.data.toList.drop k).drop (a.length + x.size) := by rw [List.drop_drop]; congr 1; omega
      rw [this, hab, ← hx, ← List.length_append, List.drop_left]
    refine ⟨k + a.length, by omega, by omega, ?_, ih (by omega) (by rw [← hb]; exact h2)⟩
    apply ByteArray.ext
    apply Array.ext'
    rw [ByteArray.data_extract, Array.toList_extract]
    rw [List.extract_eq_take_drop]
    have : T.data.toList.drop (k + a.length) = (T.data.toList.drop k).drop a.length := by rw [List.drop_drop]
    rw [this, hab, List.append_assoc, List.drop_left, show k + a.length + x.size - (k + a.length) = x.size by omega, ← hx, List.take_left]

theorem ordered_any (S : Nat → Prop) (A : Option Addr) (c : Nat) (T : ByteArray) (hT : T.size ≤ 1000000000) (l : List Fr) (hl : l.length ≤ 1000) (w : World) (h : Rd w S A (nms l)) (hE : Emb T 0 (l.map (·.nm))) :
    Calls Tryd.prog 9 #[.string T, .slice A l.length c] w fun e w' => e = .returned (.bool true) ∧ w' = w := by
  have H := Lib.hid h
  have HT := Lib.hid hT
  have HL := Lib.hid hl
  have HE := Lib.hid hE
  clear h hE hT hl
  go_enter Tryd.func9, Tryd.ntmps9
  go_wp2
  go_loop [5, 10] (fun d i => ∃ (k at_ : Nat), d = .int .i64 (at_ : Int) ∧ i = .int .i64 (k : Int) ∧ k ≤ l.length ∧ at_ ≤ T.size ∧ Hid (Emb T at_ ((l.drop k).map (·.nm)))) (fun _ i => ((l.length : Int) - intOf i).toNat)
  case atStart => exact ⟨0, 0, rfl, rfl, by omega, by omega, HE⟩
  case round =>
    obtain ⟨k, at_, rfl, rfl, hk, hat, hE⟩ := hrel
    by_cases hlt : k < l.length
    · obtain ⟨f, hf, b, o, rfl, hSb, c0⟩ := rd_nm H.out hlt
      have hfe : Hid (l.drop k = f :: l.drop (k + 1)) := by
        have e : l[k] = f := by simpa [hlt] using hf
        exact Lib.hid (by rw [List.drop_eq_getElem_cons hlt, e])
      have hE2 : Hid (Emb T at_ (f.nm :: (l.drop (k + 1)).map (·.nm))) := Lib.hid (by have := hE.out; rw [hfe.out] at this; exact this)
      have hkl := Lib.hid hlt
      have hsz : 0 ≤ (f.nm.size : Int) := by omega
      go_wp2
      go_loop [5] (fun d => ∃ a : Nat, d = .int .i64 (a : Int) ∧ a ≤ T.size ∧ Hid (Emb T a (f.nm :: (l.drop (k + 1)).map (·.nm)))) (fun d => ((T.size : Int) - intOf d).toNat)
      case atStart => exact ⟨at_, rfl, hat, hE2⟩
      case round =>
        obtain ⟨a, rfl, ha, hEa⟩ := hrel
        obtain ⟨p, hp1, hp2, hp3, hp4⟩ := hEa.out
        have hle : a + f.nm.size ≤ T.size := by omega
        have hb1 := HT.out
        have e1 : wrap64 ((a : Int) + (f.nm.size : Int)) = (a : Int) + (f.nm.size : Int) := by unfold wrap64; omega
        have e2 : (a : Int) + (f.nm.size : Int) ≤ (T.size : Int) := by omega
        have e3 : (0 : Int) ≤ (a : Int) + (f.nm.size : Int) := by omega
        have e4 : ((a : Int) + (f.nm.size : Int)).toNat = a + f.nm.size := by omega
        have e5 : (a : Int) ≤ (a : Int) + (f.nm.size : Int) := by omega
        have w2 : wrap64 ((a : Int) + 1) = (a : Int) + 1 := by unfold wrap64; omega
        have HA := Lib.hid (And.intro hp1 (And.intro hp2 (And.intro hp3 hp4)))
        have HLE := Lib.hid hle
        clear hp1 hp2 hp3 hp4 hle hb1
        have hK1 := HL.out
        have w1 : wrap64 ((k : Int) + 1) = (k : Int) + 1 := by unfold wrap64; omega
        have HM := Lib.hid (meas_lt hlt)
        clear hK1
        by_cases hx : T.extract a (a + f.nm.size) = f.nm
        · have hE3 : Hid (Emb T (a + f.nm.size) ((l.drop (k + 1)).map (·.nm))) := by
            obtain ⟨h1, h2, h3, h4⟩ := HA.out
            exact Lib.hid (h4.mono (by omega))
          clear hf hSb c0
          go_wp2
          go_round
          case rel => exact ⟨k + 1, a + f.nm.size, by rw [e1]; simp, by rw [w1]; simp, hkl.out, HLE.out, hE3⟩
          case measure => rw [w1]; exact HM.out
        · have hd : ((T.extract a (a + f.nm.size)).toList == f.nm.toList) = false := by
            refine beq_eq_false_iff_ne.2 fun h => hx (ByteArray.ext (Array.ext' ?_))
            rwa [ByteArray.toList_eq, ByteArray.toList_eq] at h
          have hlt2 : Hid (a + 1 ≤ p ∧ a < T.size) := by
            obtain ⟨h1, h2, h3, h4⟩ := HA.out
            have : a ≠ p := fun e => hx (by rw [e]; exact h3)
            exact Lib.hid (by omega)
          have HM2 := Lib.hid (meas_lt (m := T.size) (k := a) hlt2.out.2)
          clear hf hSb c0
          go_wp2
          go_round
          case rel => exact ⟨a + 1, by rw [w2]; simp, hlt2.out.2, Lib.hid ⟨p, hlt2.out.1, HA.out.2.1, HA.out.2.2.1, HA.out.2.2.2⟩⟩
          case measure => rw [w2]; exact HM2.out
    · have : k = l.length := by omega
      subst this
      go_wp2
      go_ret
      exact ⟨rfl, rfl⟩
end Go.Proofs.YtgcdcchmdcdflaaDoor
