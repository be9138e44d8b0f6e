/- Walks of mulAddVWW and addMulVVWW. Walks of mulAddVWW, addMulVVWW, alias at nil, basicMul. Walk of basicMul. Walks of package bigall's small functions on a magnitude that is nil at first. -/
import Derived.Test.YtloloifngbmibaaGreatDoorM03
import Derived.Test.YtloloifngbmibaaGreatDoorM04
import Derived.Lib.SliceRun
import Derived.BigFrame
import Derived.Test.YtloloifngbmibaaGreatDoorM01
set_option linter.unusedVariables false
set_option maxRecDepth 4000
namespace Go.Proofs.YtloloifngbmibaaGreatDoor
open Go.RowKit

theorem grown_drewN {w w' : World} {row : Option Nat} (h : w.grownBy w' row) (n : Nat) : w.grownBy (w'.drewN n) row := ⟨h.os, h.tape, h.output, h.size, h.block⟩
/-- A block of words. -/
def WB (W : World) (g : Nat) (l : List Int) : Prop := Blk W g 236 (ints .u64 l).toArray
theorem WB.lt {W : World} {g : Nat} {l : List Int} (h : WB W g l) : g < W.heap.size := Blk.lt h
theorem WB.cell {W : World} {g : Nat} {l : List Int} (h : WB W g l) {i : Nat} (hi : i < l.length) : W.cell? ⟨g, i, none⟩ = some (.int .u64 (l[i]?.getD 0)) := by
  rw [Blk.cell h]
  simp [ints, hi]
theorem WB.set {W : World} {g : Nat} {l : List Int} (h : WB W g l) (i : Nat) (x : Int) : WB (W.setCell ⟨g, i, none⟩ (.int .u64 x)) g (l.set i x) := by
  have := Blk.set h i (.int .u64 x)
  unfold WB
  simpa [ints, List.map_set] using this
theorem WB.rd {W : World} {g o : Nat} {l xs zs : List Int} (h : WB W g l) (hl : l.drop o = xs ++ zs) : Rd W (fun k => k = g) (some ⟨g, o, none⟩) (ints .u64 xs) := fun _ => by
  refine ⟨g, o, rfl, rfl, fun j u hu => ?_⟩
  have hj : j < xs.length := by
    have := (List.getElem?_eq_some_iff.1 hu).1
    rwa [ints_length] at this
  have e : l[o + j]? = some xs[j] := by
    rw [← List.getElem?_drop, hl, List.getElem?_append_left hj, List.getElem?_eq_getElem hj]
  have hlt := (List.getElem?_eq_some_iff.1 e).1
  rw [h.cell hlt, e, ← hu, ints_get _ _ _ hj]
  simp [hj]
theorem set_mid (a b c : List Int) (x y : Int) (i : Nat) (hi : i = a.length + b.length) : (a ++ b ++ x :: c).set i y = a ++ (b ++ [y]) ++ c := by
  subst hi
  rw [List.set_append_right _ _ (by simp), List.length_append, Nat.sub_self]
  simp
theorem nv_snoc (xs : List Int) (x : Int) : nv (xs ++ [x]) = nv xs + 18446744073709551616 ^ xs.length * x := by
  rw [nv_app]
  simp [nv]
theorem take_snoc {xs : List Int} {k : Nat} (hk : k < xs.length) : xs.take (k + 1) = xs.take k ++ [xs[k]?.getD 0] := by
  rw [List.take_succ_eq_append_getElem hk]
  simp [hk]
/-- A step of a product: k words are out. -/
theorem mul_step {k : Nat} {o xs zs : List Int} {x z y c lo c' r : Int} (ho : o.length = k) (hx : k < xs.length) (hz : k < zs.length) (ex : xs[k]?.getD 0 = x) (ez : zs[k]?.getD 0 = z)
    (h : nv o + 18446744073709551616 ^ k * c = nv (zs.take k) + nv (xs.take k) * y + r) (hs : z + x * y + c = lo + 18446744073709551616 * c') :
    nv (o ++ [lo]) + 18446744073709551616 ^ (k + 1) * c' = nv (zs.take (k + 1)) + nv (xs.take (k + 1)) * y + r := by
  rw [nv_snoc, take_snoc hx, take_snoc hz, nv_snoc, nv_snoc, ho, ex, ez, List.length_take, List.length_take, Nat.min_eq_left (Nat.le_of_lt hx), Nat.min_eq_left (Nat.le_of_lt hz)]
  have e1 : (18446744073709551616 : Int) ^ (k + 1) * c' = 18446744073709551616 ^ k * (18446744073709551616 * c') := by rw [Int.pow_succ, Int.mul_assoc]
  have e2 : (18446744073709551616 : Int) ^ k * (z + x * y + c) = 18446744073709551616 ^ k * (lo + 18446744073709551616 * c') := by rw [hs]
  rw [Int.mul_add, Int.mul_add, Int.mul_add] at e2
  rw [e1, Int.add_mul, Int.mul_assoc]
  omega
theorem mul_word {x z y c : Nat} (hx : x < 18446744073709551616) (hy : y < 18446744073709551616) (hz : z < 18446744073709551616) (hc : c < 18446744073709551616) :
    (x * y + z) / 18446744073709551616 + ((x * y + z) % 18446744073709551616 + c + 0) / 18446744073709551616 < 18446744073709551616 ∧
    z + x * y + c = ((x * y + z) % 18446744073709551616 + c + 0) % 18446744073709551616 + 18446744073709551616 * ((x * y + z) / 18446744073709551616 + ((x * y + z) % 18446744073709551616 + c + 0) / 18446744073709551616) := by
  have hxy : x * y ≤ 18446744073709551615 * 18446744073709551615 := Nat.mul_le_mul (by omega) (by omega)
  omega

theorem mulAddVWW_any (S : Nat → Prop) (A : Option Addr) (g c cz : Nat) (y r : Int) (xs zs : List Int) (hy : 0 ≤ y ∧ y < 18446744073709551616) (hr0 : 0 ≤ r ∧ r < 18446744073709551616) (hn : xs.length ≤ 4294967296) (hX : WL xs) (hz : xs.length ≤ zs.length) (w : World) (hr : Rd w S A (ints .u64 xs)) (hS : ∀ k, S k → k ≠ g)
    (hg : WB w g zs) :
    Calls Tryz.prog 205 #[.slice (some ⟨g, 0, none⟩) xs.length cz, .slice A xs.length c, .int .u64 y, .int .u64 r] w fun e w' =>
      ∃ (o : List Int) (cy : Int), e = .returned (.int .u64 cy) ∧ o.length = xs.length ∧ WL o ∧ (0 ≤ cy ∧ cy < 18446744073709551616) ∧ nv o + 18446744073709551616 ^ xs.length * cy = nv xs * y + r ∧ WB w' g (o ++ zs.drop xs.length) ∧ w.grownBy w' (some g) := by
  obtain ⟨n, hn'⟩ : ∃ n, n = xs.length := ⟨_, rfl⟩
  rw [← hn'] at hz hn ⊢
  have HR := Lib.hid hr
  have HX := Lib.hid hX
  have HS := Lib.hid hS
  have HN := Lib.hid hn'
  have HY := Lib.hid hy
  have HR0 := Lib.hid hr0
  have e0 : ((n : Int) != (n : Int)) = false := by simp
  clear hr hX hS hn' hy hr0
  go_enter Tryz.func205, Tryz.ntmps205
  go_wp2
  go_loopw [8, 19] (fun i k wr => ∃ (q : Nat) (o : List Int) (cy : Int), q ≤ n ∧ k = .int .i64 q ∧ i = .int .u64 cy ∧ Hid (o.length = q) ∧ Hid (WL o) ∧ Hid (0 ≤ cy ∧ cy < 18446744073709551616) ∧ Hid (nv o + 18446744073709551616 ^ q * cy = nv (List.replicate n 0 |>.take q) + nv (xs.take q) * y + r) ∧ Hid (WB wr g (o ++ zs.drop q)) ∧ Hid (w.grownBy wr (some g))) (fun _ k _ => n - (intOf k).toNat)
  case atStart => exact ⟨0, [], r, Nat.zero_le _, rfl, rfl, Lib.hid rfl, Lib.hid WL.nil, HR0, Lib.hid (by simp [nv]), Lib.hid (by simpa using hg), Lib.hid (World.grownBy.refl _ _)⟩
  case round =>
    obtain ⟨q, o, cy, hq, rfl, rfl, hol, how, hcy, hnv, hb, hgr⟩ := hrel
    by_cases hlt : q < n
    · obtain ⟨b, ofs, e, hSb, hc⟩ := rd_int HR.out (j := q) (by rw [← HN.out]; exact hlt)
      cases e
      have hcell := hgr.out.cell hc (by have := HS.out b hSb; simpa using this)
      obtain ⟨x, hx⟩ : ∃ x, x = xs[q]?.getD 0 := ⟨_, rfl⟩
      have hxb := HX.out.at_ q
      rw [← hx] at hcell hxb
      have hz1 : zs.drop q = (zs[q]?.getD 0) :: zs.drop (q + 1) := by
        rw [List.drop_eq_getElem_cons (by omega)]
        simp [show q < zs.length by omega]
      have hlen : q < (o ++ zs.drop q).length := by simp [hol.out]; omega
      have c0 := hb.out.cell hlen
      have f0 := Blk.frozen hb.out q
      obtain ⟨u, hu⟩ : ∃ u, u = (o ++ zs.drop q)[q]?.getD 0 := ⟨_, rfl⟩
      rw [← hu] at c0
      obtain ⟨X, rfl⟩ := Int.eq_ofNat_of_zero_le hxb.1
      obtain ⟨Y, rfl⟩ := Int.eq_ofNat_of_zero_le HY.out.1
      obtain ⟨C, rfl⟩ := Int.eq_ofNat_of_zero_le hcy.out.1
      have hX1 : X < 18446744073709551616 := by have := hxb.2; omega
      have hY1 : Y < 18446744073709551616 := by have := HY.out.2; omega
      have hC1 : C < 18446744073709551616 := by have := hcy.out.2; omega
      have HM := Lib.hid (fun w => mulAddWWW_any X Y C hX1 hY1 hC1 w)
      have hb1 : X * Y ≤ 18446744073709551615 * 18446744073709551615 := Nat.mul_le_mul (by omega) (by omega)
      obtain ⟨hi, h1⟩ : ∃ hi, hi = (X * Y + C) / 18446744073709551616 := ⟨_, rfl⟩
      obtain ⟨lo, h2⟩ : ∃ lo, lo = (X * Y + C) % 18446744073709551616 := ⟨_, rfl⟩
      rw [← h1, ← h2] at HM
      have HE := Lib.hid (show X * Y + C = lo + 18446744073709551616 * hi ∧ hi < 18446744073709551616 ∧ lo < 18446744073709551616 by omega)
      have HXE := Lib.hid hx
      have HZ1 := Lib.hid hz1
      have hqz : q < 4294967296 := by omega
      clear hx hxb hc hz1 hlen hu h1 h2 hb1 hX1 hY1 hC1
      go_wp2_with (go_at_call 220; refine (HM.out _).mono ?_; rintro e w' ⟨rfl, rfl⟩)
      go_roundw
      case rel =>
        have hX2 := HX.out
        have hstep := mul_step (k := q) (o := o) (xs := xs) (zs := List.replicate n 0) (x := X) (z := 0) (y := Y) (c := C) (lo := lo) (c' := hi) (r := r) hol.out (by rw [← HN.out]; exact hlt) (by simpa using hlt) HXE.out.symm (by simp [hlt]) hnv.out (by
          have := HE.out.1
          have e : ((X * Y + C : Nat) : Int) = ((lo + 18446744073709551616 * hi : Nat) : Int) := by rw [this]
          simp only [Int.natCast_add, Int.natCast_mul] at e
          simp only [Int.zero_add]
          exact e)
        refine ⟨q + 1, o ++ [(lo : Int)], hi, by omega, by go_num, rfl, Lib.hid (by simp [hol.out]), Lib.hid (how.out.app (WL.one (by omega) (by have := HE.out.2.2; omega))), Lib.hid (by have := HE.out.2.1; omega), Lib.hid hstep, Lib.hid ?_, Lib.hid (only_set hgr.out _ _)⟩
        have h3 := hb.out.set q lo
        rw [HZ1.out] at h3
        have e := set_mid [] o (zs.drop (q + 1)) (zs[q]?.getD 0) lo q (by simp [hol.out])
        simp only [List.nil_append] at e
        rw [e] at h3
        exact h3
      case measure => simp [intOf]; omega
    · obtain rfl : q = n := by omega
      go_wp2
      go_ret
      refine ⟨o, cy, rfl, hol.out, how.out, hcy.out, ?_, hb.out, hgr.out⟩
      have h := hnv.out
      rw [List.take_of_length_le (by simp), List.take_of_length_le (by rw [← HN.out]; exact Nat.le_refl _), nv_zeros] at h
      omega
theorem addMulVVWW_any (S : Nat → Prop) (A : Option Addr) (g c cz : Nat) (y r : Int) (xs pre zs post : List Int) (hy : 0 ≤ y ∧ y < 18446744073709551616) (hr0 : 0 ≤ r ∧ r < 18446744073709551616) (hn : xs.length ≤ 4294967296) (hX : WL xs) (hZ : WL zs) (hz : zs.length = xs.length) (w : World) (hr : Rd w S A (ints .u64 xs)) (hS : ∀ k, S k → k ≠ g)
    (hg : WB w g (pre ++ zs ++ post)) :
    Calls Tryz.prog 206 #[.slice (some ⟨g, pre.length, none⟩) xs.length cz, .slice (some ⟨g, pre.length, none⟩) xs.length cz, .slice A xs.length c, .int .u64 y, .int .u64 r] w fun e w' =>
      ∃ (o : List Int) (cy : Int), e = .returned (.int .u64 cy) ∧ o.length = xs.length ∧ WL o ∧ (0 ≤ cy ∧ cy < 18446744073709551616) ∧ nv o + 18446744073709551616 ^ xs.length * cy = nv zs + nv xs * y + r ∧ WB w' g (pre ++ o ++ post) ∧ w.grownBy w' (some g) := by
  obtain ⟨n, hn'⟩ : ∃ n, n = xs.length := ⟨_, rfl⟩
  obtain ⟨p, hp'⟩ : ∃ p, p = pre.length := ⟨_, rfl⟩
  rw [← hn'] at hz hn ⊢
  rw [← hp']
  have HR := Lib.hid hr
  have HX := Lib.hid hX
  have HZ := Lib.hid hZ
  have HZL := Lib.hid hz
  have HS := Lib.hid hS
  have HN := Lib.hid hn'
  have HP := Lib.hid hp'
  have HY := Lib.hid hy
  have HR0 := Lib.hid hr0
  have e0 : ((n : Int) != (n : Int)) = false := by simp
  clear hr hX hS hn' hy hr0 hZ hz hp'
  go_enter Tryz.func206, Tryz.ntmps206
  go_wp2
  go_loopw [10, 32] (fun i k wr => ∃ (q : Nat) (o : List Int) (cy : Int), q ≤ n ∧ k = .int .i64 q ∧ i = .int .u64 cy ∧ Hid (o.length = q) ∧ Hid (WL o) ∧ Hid (0 ≤ cy ∧ cy < 18446744073709551616) ∧ Hid (nv o + 18446744073709551616 ^ q * cy = nv (zs.take q) + nv (xs.take q) * y + r) ∧ Hid (WB wr g (pre ++ o ++ (zs.drop q ++ post))) ∧ Hid (w.grownBy wr (some g))) (fun _ k _ => n - (intOf k).toNat)
  case atStart => exact ⟨0, [], r, Nat.zero_le _, rfl, rfl, Lib.hid rfl, Lib.hid WL.nil, HR0, Lib.hid (by simp [nv]), Lib.hid (by simpa using hg), Lib.hid (World.grownBy.refl _ _)⟩
  case round =>
    obtain ⟨q, o, cy, hq, rfl, rfl, hol, how, hcy, hnv, hb, hgr⟩ := hrel
    by_cases hlt : q < n
    · obtain ⟨b, ofs, e, hSb, hc⟩ := rd_int HR.out (j := q) (by rw [← HN.out]; exact hlt)
      cases e
      have hcell := hgr.out.cell hc (by have := HS.out b hSb; simpa using this)
      obtain ⟨x, hx⟩ : ∃ x, x = xs[q]?.getD 0 := ⟨_, rfl⟩
      have hxb := HX.out.at_ q
      rw [← hx] at hcell hxb
      obtain ⟨z, hzz⟩ : ∃ z, z = zs[q]?.getD 0 := ⟨_, rfl⟩
      have hzb := HZ.out.at_ q
      have hqz : q < zs.length := by rw [HZL.out]; exact hlt
      have hz1 : zs.drop q ++ post = (zs[q]?.getD 0) :: (zs.drop (q + 1) ++ post) := by
        rw [List.drop_eq_getElem_cons hqz, List.cons_append, List.getElem?_eq_getElem hqz, Option.getD_some]
      have hb2 := hb.out
      rw [hz1] at hb2
      have c0 := hb2.cell (i := p + q) (by simp [hol.out, ← HP.out])
      have e1 : (pre ++ o ++ (zs[q]?.getD 0) :: (zs.drop (q + 1) ++ post))[p + q]?.getD 0 = zs[q]?.getD 0 := by
        rw [List.getElem?_append_right (by simp [hol.out, ← HP.out])]
        simp [hol.out, ← HP.out]
      rw [e1] at c0
      have f0 := Blk.frozen hb2 (p + q)
      rw [← hzz] at c0 hzb
      obtain ⟨X, rfl⟩ := Int.eq_ofNat_of_zero_le hxb.1
      obtain ⟨Y, rfl⟩ := Int.eq_ofNat_of_zero_le HY.out.1
      obtain ⟨C, rfl⟩ := Int.eq_ofNat_of_zero_le hcy.out.1
      obtain ⟨Z, rfl⟩ := Int.eq_ofNat_of_zero_le hzb.1
      have hX1 : X < 18446744073709551616 := by have := hxb.2; omega
      have hY1 : Y < 18446744073709551616 := by have := HY.out.2; omega
      have hC1 : C < 18446744073709551616 := by have := hcy.out.2; omega
      have hZ1 : Z < 18446744073709551616 := by have := hzb.2; omega
      have HM := Lib.hid (fun w => mulAddWWW_any X Y Z hX1 hY1 hZ1 w)
      obtain ⟨hw1, hw2⟩ := mul_word hX1 hY1 hZ1 hC1
      obtain ⟨z1, h1⟩ : ∃ z1, z1 = (X * Y + Z) / 18446744073709551616 := ⟨_, rfl⟩
      obtain ⟨z0, h2⟩ : ∃ z0, z0 = (X * Y + Z) % 18446744073709551616 := ⟨_, rfl⟩
      rw [← h1, ← h2] at HM hw1 hw2
      have HA := Lib.hid (fun w => bitsAdd_any z0 C 0 (by omega) w)
      obtain ⟨lo, h3⟩ : ∃ lo, lo = (z0 + C + 0) % 18446744073709551616 := ⟨_, rfl⟩
      obtain ⟨cc, h4⟩ : ∃ cc, cc = (z0 + C + 0) / 18446744073709551616 := ⟨_, rfl⟩
      rw [← h3, ← h4] at HA hw2
      rw [← h4] at hw1
      have hlo : lo < 18446744073709551616 := by omega
      have HE := Lib.hid (show Z + X * Y + C = lo + 18446744073709551616 * (z1 + cc) ∧ z1 + cc < 18446744073709551616 ∧ lo < 18446744073709551616 from ⟨hw2, hw1, hlo⟩)
      have HXE := Lib.hid hx
      have HZE := Lib.hid hzz
      have HB2 := Lib.hid hb2
      have hq9 : q < 4294967296 := by omega
      have ew : IntKind.u64.wrap ((cc : Int) + (z1 : Int)) = ((z1 + cc : Nat) : Int) := by
        simp only [IntKind.wrap_u64]
        omega
      clear hx hxb hzb hc hz1 h1 h2 h3 h4 hX1 hY1 hC1 hZ1 hw1 hw2 hlo hzz hb2 e1 hqz
      go_wp2
      go_quiet (exact Calls.quiet_of_same (HM.out _))
      go_wp2_with (go_at_call 212; refine (HA.out _).mono ?_; rintro e w' ⟨rfl, rfl⟩)
      go_roundw
      case rel =>
        have hstep := mul_step (k := q) (o := o) (xs := xs) (zs := zs) (x := X) (z := Z) (y := Y) (c := C) (lo := lo) (c' := ((z1 + cc : Nat) : Int)) (r := r) hol.out (by rw [← HN.out]; exact hlt) (by rw [HZL.out]; exact hlt) HXE.out.symm HZE.out.symm hnv.out (by
          have := HE.out.1
          have e : ((Z + X * Y + C : Nat) : Int) = ((lo + 18446744073709551616 * (z1 + cc) : Nat) : Int) := by rw [this]
          simp only [Int.natCast_add, Int.natCast_mul] at e ⊢
          exact e)
        refine ⟨q + 1, o ++ [(lo : Int)], ((z1 + cc : Nat) : Int), by omega, by go_num, by first | rfl | rw [ew], Lib.hid (by simp [hol.out]), Lib.hid (how.out.app (WL.one (by omega) (by have := HE.out.2.2; omega))), Lib.hid (by have := HE.out.2.1; omega), Lib.hid hstep, Lib.hid ?_, Lib.hid ?_⟩
        · have e := set_mid pre o (zs.drop (q + 1) ++ post) (zs[q]?.getD 0) lo (p + q) (by simp [hol.out, ← HP.out])
          have h3 := WB.set (Blk.drewN HB2.out nq) (p + q) (lo : Int)
          rw [e] at h3
          exact h3
        · exact only_set (grown_drewN hgr.out _) _ _
      case measure => simp [intOf]; omega
    · obtain rfl : q = n := by omega
      go_wp2
      go_ret
      refine ⟨o, cy, rfl, hol.out, how.out, hcy.out, ?_, ?_, hgr.out⟩
      · have h := hnv.out
        rw [List.take_of_length_le (by rw [HZL.out]; exact Nat.le_refl _), List.take_of_length_le (by rw [← HN.out]; exact Nat.le_refl _)] at h
        exact h
      · have h := hb.out
        rw [List.drop_eq_nil_of_le (by rw [HZL.out]; exact Nat.le_refl _), List.nil_append] at h
        exact h
end Go.Proofs.YtloloifngbmibaaGreatDoor
set_option linter.unusedVariables false
set_option maxRecDepth 4000
namespace Go.Proofs.YtloloifngbmibaaGreatDoor
open Go.RowKit

theorem alias_nil (A : Option Addr) (n c : Nat) (w : World) :
    Calls Tryz.prog 172 #[.slice none 0 0, .slice A n c] w fun e w' => e = .returned (.bool false) ∧ ∃ m, w' = w.drewN m := by
  have e0 : decide ((0 : Int) < 0) = false := rfl
  go_enter Tryz.func172, Tryz.ntmps172
  go_wp2
  go_quiet (fail)
  go_wp2
  go_ret
  exact ⟨rfl, _, rfl⟩

theorem WB.drewN {W : World} {g : Nat} {l : List Int} (h : WB W g l) (n : Nat) : WB (W.drewN n) g l := Blk.drewN h n
theorem WB.drew {W : World} {g : Nat} {l : List Int} (h : WB W g l) : WB W.drew g l := Blk.drew h
theorem WB.setCells {g : Nat} : ∀ (vs : List Int) (o : Nat) {W : World} {pre mid post : List Int}, WB W g (pre ++ mid ++ post) → pre.length = o → mid.length = vs.length → WB (W.setCells g o (ints .u64 vs)) g (pre ++ vs ++ post)
  | [], o, W, pre, mid, post, h, _, hm => by
    have : mid = [] := List.eq_nil_of_length_eq_zero hm
    subst this
    exact h
  | v :: vs, o, W, pre, [], post, h, _, hm => by simp at hm
  | v :: vs, o, W, pre, m :: mid, post, h, ho, hm => by
    have h2 := h.set o v
    have e : (pre ++ (m :: mid) ++ post).set o v = (pre ++ [v]) ++ mid ++ post := by
      have := set_mid pre [] (mid ++ post) m v o (by simp [ho])
      simpa using this
    rw [e] at h2
    have := WB.setCells vs (o + 1) h2 (by simp [ho]) (by simpa using hm)
    simpa [ints, World.setCells] using this
theorem grown_setCells {a : World} {g : Nat} : ∀ (vs : List Value) (o : Nat) {w : World}, a.grownBy w (some g) → a.grownBy (w.setCells g o vs) (some g)
  | [], _, _, h => h
  | v :: vs, o, w, h => grown_setCells vs (o + 1) (only_set h o v)
theorem zero_word : ∀ w, (zeroValue 236).run Tryz.prog w = .ok (.int .u64 0) w := fun _ => by kernel_rfl

theorem clear_words {W : World} {g n c : Nat} {l : List Int} (h : WB W g l) (hn : 0 < n) (hl : n ≤ l.length) (ty : TypeId) :
    (Builtin.clear_ #[187] ty #[.slice (some ⟨g, 0, none⟩) n c]).run Tryz.prog W = .ok (.tuple #[]) (W.setCells g 0 (ints .u64 (List.replicate n 0))) := by
  have := Lib.run_clear_slice (P := Tryz.prog) W 187 236 ty (.int .u64 0) Tryz.underlying187 zero_word rfl rfl g 0 n c hn (fun j hj => by rw [Nat.zero_add, h.cell (by omega)]; rfl) (fun j hj => Blk.frozen h _)
  rw [this]
  simp [ints]
end Go.Proofs.YtloloifngbmibaaGreatDoor
set_option linter.unusedVariables false
set_option maxRecDepth 4000
namespace Go.Proofs.YtloloifngbmibaaGreatDoor
open Go.RowKit

theorem mulAddVWW_top (S : Nat → Prop) (A : Option Addr) (g c cz : Nat) (y r : Int) (xs zs : List Int) (hy : 0 ≤ y ∧ y < 18446744073709551616) (hr0 : 0 ≤ r ∧ r < 18446744073709551616) (hn : xs.length ≤ 4294967296) (hX : WL xs) (hz : xs.length ≤ zs.length) (w : World) (hr : Rd w S A (ints .u64 xs)) (hS : ∀ k, S k → k ≠ g)
    (hg : WB w g zs) :
    Calls Tryz.prog 183 #[.slice (some ⟨g, 0, none⟩) xs.length cz, .slice A xs.length c, .int .u64 y, .int .u64 r] w fun e w' =>
      ∃ (o : List Int) (cy : Int), e = .returned (.int .u64 cy) ∧ o.length = xs.length ∧ WL o ∧ (0 ≤ cy ∧ cy < 18446744073709551616) ∧ nv o + 18446744073709551616 ^ xs.length * cy = nv xs * y + r ∧ WB w' g (o ++ zs.drop xs.length) ∧ w.grownBy w' (some g) := by
  have H := Lib.hid (mulAddVWW_any S A g c cz y r xs zs hy hr0 hn hX hz w hr hS hg)
  clear hy hr0 hn hX hz hr hS hg
  go_enter Tryz.func183, Tryz.ntmps183
  go_wp2_with fail
  refine H.out.mono ?_
  rintro e w' ⟨o, cy, rfl, h⟩
  have h' := Lib.hid h
  clear h
  go_wp2
  go_ret
  exact ⟨o, cy, rfl, h'.out⟩

theorem addMulVVWW_top (S : Nat → Prop) (A : Option Addr) (g c cz p : Nat) (y r : Int) (xs pre zs post : List Int) (hp : p = pre.length) (hy : 0 ≤ y ∧ y < 18446744073709551616) (hr0 : 0 ≤ r ∧ r < 18446744073709551616) (hn : xs.length ≤ 4294967296) (hX : WL xs) (hZ : WL zs) (hz : zs.length = xs.length) (w : World) (hr : Rd w S A (ints .u64 xs)) (hS : ∀ k, S k → k ≠ g)
    (hg : WB w g (pre ++ zs ++ post)) :
    Calls Tryz.prog 184 #[.slice (some ⟨g, p, none⟩) xs.length cz, .slice (some ⟨g, p, none⟩) xs.length cz, .slice A xs.length c, .int .u64 y, .int .u64 r] w fun e w' =>
      ∃ (o : List Int) (cy : Int), e = .returned (.int .u64 cy) ∧ o.length = xs.length ∧ WL o ∧ (0 ≤ cy ∧ cy < 18446744073709551616) ∧ nv o + 18446744073709551616 ^ xs.length * cy = nv zs + nv xs * y + r ∧ WB w' g (pre ++ o ++ post) ∧ w.grownBy w' (some g) := by
  have H := Lib.hid (addMulVVWW_any S A g c cz y r xs pre zs post hy hr0 hn hX hZ hz w hr hS hg)
  rw [← hp] at H
  clear hy hr0 hn hX hz hr hS hg hZ hp
  go_enter Tryz.func184, Tryz.ntmps184
  go_wp2_with fail
  refine H.out.mono ?_
  rintro e w' ⟨o, cy, rfl, h⟩
  have h' := Lib.hid h
  clear h
  go_wp2
  go_ret
  exact ⟨o, cy, rfl, h'.out⟩

theorem grown_undrew {w w' : World} {row : Option Nat} (h : w.drew.grownBy w' row) : w.grownBy w' row := ⟨h.os, h.tape, h.output, h.size, h.block⟩
/-- A row of a product is added in. -/
theorem row_step {m q : Nat} {o xs ys o2 : List Int} {d cy : Int} (ho : o.length = m + q) (hm : xs.length = m) (hq : q < ys.length) (ed : ys[q]?.getD 0 = d) (h : nv o = nv xs * nv (ys.take q)) (hl : o2.length = m)
    (hs : nv o2 + 18446744073709551616 ^ m * cy = nv (o.drop q) + nv xs * d) : nv (o.take q ++ (o2 ++ [cy])) = nv xs * nv (ys.take (q + 1)) := by
  have e1 : nv o = nv (o.take q) + 18446744073709551616 ^ q * nv (o.drop q) := by
    have := nv_app (o.take q) (o.drop q)
    rw [List.take_append_drop, List.length_take, Nat.min_eq_left (by omega)] at this
    exact this
  rw [nv_app, nv_snoc, List.length_take, Nat.min_eq_left (by omega), hl, hs, take_snoc hq, nv_snoc, ed, List.length_take, Nat.min_eq_left (Nat.le_of_lt hq), Int.mul_add, Int.mul_add, ← h, e1]
  have e2 : (18446744073709551616 : Int) ^ q * (nv xs * d) = nv xs * (18446744073709551616 ^ q * d) := by
    rw [← Int.mul_assoc, ← Int.mul_assoc, Int.mul_comm _ (nv xs)]
  omega
theorem row_zero {q : Nat} {o xs ys : List Int} (hq : q < ys.length) (ed : ys[q]?.getD 0 = 0) (h : nv o = nv xs * nv (ys.take q)) : nv (o ++ [0]) = nv xs * nv (ys.take (q + 1)) := by
  rw [nv_snoc, take_snoc hq, nv_snoc, ed]
  simpa using h

set_option maxHeartbeats 2000000 in
theorem basicMul_any (S S' : Nat → Prop) (A A' : Option Addr) (g c c' cz : Nat) (xs ys zs post : List Int) (hn : xs.length ≤ 1000000) (hn' : ys.length ≤ 1000000) (hX : WL xs) (hY : WL ys) (h0 : 0 < xs.length) (hzl : zs.length = xs.length + ys.length) (hcz : zs.length ≤ cz) (w : World) (hr : Rd w S A (ints .u64 xs)) (hr' : Rd w S' A' (ints .u64 ys)) (hS : ∀ k, S k → k ≠ g) (hS' : ∀ k, S' k → k ≠ g) (hSl : ∀ k, S k → k < w.heap.size)
    (hg : WB w g (zs ++ post)) :
    Calls Tryz.prog 173 #[.slice (some ⟨g, 0, none⟩) zs.length cz, .slice A xs.length c, .slice A' ys.length c'] w fun e w' =>
      e = .returned (.tuple #[]) ∧ ∃ (o : List Int), o.length = xs.length + ys.length ∧ WL o ∧ nv o = nv xs * nv ys ∧ WB w' g (o ++ post) ∧ w.grownBy w' (some g) := by
  obtain ⟨m, hm'⟩ : ∃ m, m = xs.length := ⟨_, rfl⟩
  obtain ⟨n, hn2⟩ : ∃ n, n = ys.length := ⟨_, rfl⟩
  obtain ⟨t, ht⟩ : ∃ t, t = zs.length := ⟨_, rfl⟩
  rw [← hm'] at hn h0 hzl ⊢
  rw [← hn2] at hn' hzl ⊢
  rw [← ht] at hcz hzl ⊢
  subst hzl
  have hcl := fun ty => clear_words (n := m + n) (c := cz) (W := w) hg (by omega) (by rw [List.length_append]; omega) ty
  have HB := Lib.hid (WB.setCells (pre := []) (mid := zs) (post := post) (List.replicate (m + n) 0) 0 (W := w) (by simpa using hg) rfl (by simp; omega))
  have HG := Lib.hid (grown_setCells (g := g) (ints .u64 (List.replicate (m + n) 0)) 0 (World.grownBy.refl w (some g)))
  have HR := Lib.hid hr
  have HR' := Lib.hid hr'
  have HX := Lib.hid hX
  have HY := Lib.hid hY
  have HS := Lib.hid hS
  have HS' := Lib.hid hS'
  have HSL := Lib.hid hSl
  have HM := Lib.hid hm'
  have HN := Lib.hid hn2
  clear hr hr' hX hY hS hS' hSl hm' hn2 ht hg
  go_enter Tryz.func173, Tryz.ntmps173
  go_wp2_with (simp only [hcl])
  clear hcl
  go_loopw [17] (fun k wr => ∃ (q : Nat) (o : List Int), q ≤ n ∧ k = .int .i64 q ∧ Hid (o.length = m + q) ∧ Hid (WL o) ∧ Hid (nv o = nv xs * nv (ys.take q)) ∧ Hid (WB wr g (o ++ (List.replicate (n - q) 0 ++ post))) ∧ Hid (w.grownBy wr (some g))) (fun k _ => n - (intOf k).toNat)
  case atStart =>
    refine ⟨0, List.replicate m 0, Nat.zero_le _, rfl, Lib.hid (by simp), Lib.hid (WL.zeros _), Lib.hid (by rw [nv_zeros]; simp [nv]), Lib.hid ?_, HG⟩
    have h := HB.out
    rw [List.nil_append] at h
    rw [Nat.sub_zero, ← List.append_assoc, List.replicate_append_replicate]
    exact h
  case round =>
    obtain ⟨q, o, hq, rfl, hol, how, hnv, hb, hgr⟩ := hrel
    by_cases hlt : q < n
    · obtain ⟨b, ofs, e, hSb, hc⟩ := rd_int HR'.out (j := q) (by rw [← HN.out]; exact hlt)
      cases e
      have hcell := hgr.out.cell hc (by have := HS'.out b hSb; simpa using this)
      obtain ⟨d, hd⟩ : ∃ d, d = ys[q]?.getD 0 := ⟨_, rfl⟩
      have hdb := HY.out.at_ q
      rw [← hd] at hcell hdb
      have hz1 : List.replicate (n - q) (0 : Int) ++ post = 0 :: (List.replicate (n - (q + 1)) 0 ++ post) := by
        rw [show n - q = (n - (q + 1)) + 1 by omega, List.replicate_succ, List.cons_append]
      have hb2 := hb.out
      rw [hz1] at hb2
      have HD := Lib.hid hd
      have HDB := Lib.hid hdb
      have HLT := Lib.hid hlt
      clear hc hz1 hd hdb
      by_cases hd0 : d = 0
      · subst hd0
        have HB2 := Lib.hid hb2
        clear hb2
        go_wp2
        go_roundw
        case rel =>
          refine ⟨q + 1, o ++ [0], by omega, by go_num, Lib.hid (by simp [hol.out]; omega), Lib.hid (how.out.app (WL.one (by omega) (by omega))), Lib.hid (row_zero (xs := xs) (by rw [← HN.out]; exact HLT.out) HD.out.symm hnv.out), Lib.hid ?_, hgr⟩
          have h := HB2.out
          rw [List.append_assoc]
          exact h
        case measure => simp [intOf]; omega
      · have e2 := bne_yes hd0
        have HCALL : Hid (∀ W : World, W.heap = wr.heap → WB W g (o ++ 0 :: (List.replicate (n - (q + 1)) 0 ++ post)) → Calls Tryz.prog 184 #[.slice (some ⟨g, q, none⟩) m (cz - q), .slice (some ⟨g, q, none⟩) m (cz - q), .slice A m c, .int .u64 d, .int .u64 0] W fun e w' =>
            ∃ (o2 : List Int) (cy : Int), e = .returned (.int .u64 cy) ∧ Hid (o2.length = m) ∧ Hid (WL o2) ∧ Hid (0 ≤ cy ∧ cy < 18446744073709551616) ∧ Hid (nv o2 + 18446744073709551616 ^ m * cy = nv (o.drop q) + nv xs * d) ∧ Hid (WB w' g (o.take q ++ o2 ++ 0 :: (List.replicate (n - (q + 1)) 0 ++ post))) ∧ Hid (W.grownBy w' (some g)) ∧ w'.cell? ⟨g, m + q, none⟩ = some (.int .u64 0) ∧ w'.frozen? ⟨g, m + q, none⟩ = false) := Lib.hid fun W hW hWB => by
          have hrd : Rd W S A (ints .u64 xs) := HR.out.keep (fun k hk => by
            rw [hW]
            exact hgr.out.block k (HSL.out k hk) (by have := HS.out k hk; simpa using this))
          have h := addMulVVWW_top S A g c (cz - q) q d 0 xs (o.take q) (o.drop q) (0 :: (List.replicate (n - (q + 1)) 0 ++ post)) (by rw [List.length_take, hol.out]; omega) HDB.out ⟨by omega, by omega⟩ (by rw [← HM.out]; omega) HX.out (how.out.drop q) (by rw [List.length_drop, hol.out, ← HM.out]; omega) W hrd HS.out (by rw [List.take_append_drop]; exact hWB)
          rw [← HM.out] at h
          refine h.mono ?_
          rintro e w' ⟨o2, cy, h1, h2, h3, h4, h5, h6, h7⟩
          refine ⟨o2, cy, h1, Lib.hid h2, Lib.hid h3, Lib.hid h4, Lib.hid (by rw [h5]; omega), Lib.hid h6, Lib.hid h7, ?_, Blk.frozen h6 _⟩
          have hl : (o.take q ++ o2).length = m + q := by rw [List.length_append, List.length_take, hol.out, h2]; omega
          rw [h6.cell (by rw [List.length_append, hl]; simp), List.getElem?_append_right (by omega), hl]
          simp
        have hgl := hb2.lt
        have HB2 := Lib.hid hb2
        clear hb2
        have HC2 := Lib.hid (HCALL.out wr.drew rfl (WB.drew HB2.out))
        have HQ : Hid ((o.take q).length = q) := Lib.hid (by rw [List.length_take, hol.out]; omega)
        have hzc : q + m ≤ cz := by omega
        have b1 : (q : Int) + (m : Int) ≤ (cz : Int) := by omega
        have b2 : ¬ cz = q := by omega
        have b5 : (0 : Int) ≤ (q : Int) + (m : Int) := by omega
        have b6 : ((q : Int) + (m : Int)).toNat = q + m := by omega
        have b7 : (0 : Int) ≤ (m : Int) + (q : Int) := by omega
        have b8 : ((m : Int) + (q : Int)).toNat = m + q := by omega
        have b3 : (m : Int) + (q : Int) < (m : Int) + (n : Int) := by omega
        have b4 : m + q < m + n := by omega
        have w1 : IntKind.i64.wrap ((q : Int) + (m : Int)) = (q : Int) + (m : Int) := by simp only [IntKind.wrap_i64]; omega
        have w2 : IntKind.i64.wrap ((m : Int) + (q : Int)) = (m : Int) + (q : Int) := by simp only [IntKind.wrap_i64]; omega
        go_wp2
        go_region_held3 (fun _ => True) (exact True.intro) ((go_at_call 184; (with_reducible refine HC2.out.mono ?_); rintro e w' ⟨o2, cy, rfl, h1, h2, h3, h4, h5, h6, c0, f0⟩))
        go_wp2
        go_roundw
        case rel =>
          have hm : xs.length = m := HM.out.symm
          refine ⟨q + 1, o.take q ++ (o2 ++ [cy]), by omega, by go_num, Lib.hid (by simp [h1.out, HQ.out]; omega), Lib.hid ((how.out.take q).app (h2.out.app (WL.one h3.out.1 h3.out.2))), Lib.hid (row_step (m := m) hol.out hm (by rw [← HN.out]; exact HLT.out) HD.out.symm hnv.out h1.out h4.out), Lib.hid ?_, Lib.hid (only_set (hgr.out.trans (grown_undrew h6.out)) _ _)⟩
          have e := set_mid (o.take q) o2 (List.replicate (n - (q + 1)) 0 ++ post) 0 cy (m + q) (by rw [HQ.out, h1.out]; omega)
          have h := h5.out.set (m + q) cy
          rw [e] at h
          exact h
        case measure => simp [intOf]; omega
    · obtain rfl : q = n := by omega
      go_wp2
      go_end0
      refine ⟨rfl, o, hol.out, how.out, ?_, ?_, hgr.out⟩
      · have h := hnv.out
        rw [List.take_of_length_le (by rw [← HN.out]; exact Nat.le_refl _)] at h
        exact h
      · have h := hb.out
        rw [Nat.sub_self] at h
        exact h
end Go.Proofs.YtloloifngbmibaaGreatDoor
set_option linter.unusedVariables false
set_option maxRecDepth 4000
namespace Go.Proofs.YtloloifngbmibaaGreatDoor
open Go.RowKit

theorem make_nil0 (w : World) :
    Calls Tryz.prog 134 #[.slice none 0 0, .int .i64 0] w fun e w' => e = .returned (.slice none 0 0) ∧ w = w' := by
  go_enter Tryz.func134, Tryz.ntmps134
  go_wp2
  go_ret
  exact ⟨rfl, rfl⟩

theorem make_nil1 (w : World) :
    Calls Tryz.prog 134 #[.slice none 0 0, .int .i64 1] w fun e w' => e = .returned (.slice (some ⟨w.heap.size, 0, none⟩) 1 1) ∧ w.alloc (.cells #[.int .u64 0] 236) = w' := by
  have hmk : ∀ w, (Instr.makeSlice 187 (.int .i64 1) (.int .i64 1)).run Tryz.prog w = .ok (.slice (some ⟨w.heap.size, 0, none⟩) 1 1) (w.alloc (.cells #[.int .u64 0] 236)) := fun _ => by kernel_rfl
  go_enter Tryz.func134, Tryz.ntmps134
  go_wp2
  go_ret
  exact ⟨rfl, rfl⟩

theorem info_word : (Tryz.prog.info? 236).map (fun i => (i.zero, i.size, i.bytes)) = some (some (.int .u64 0), 1, 8) := by kernel_rfl

theorem make_niln (n : Nat) (h1 : 2 ≤ n) (h2 : n ≤ 4294967296) (w : World) :
    Calls Tryz.prog 134 #[.slice none 0 0, .int .i64 n] w fun e w' => e = .returned (.slice (some ⟨w.heap.size, 0, none⟩) n (n + 4)) ∧ w.alloc (.cells (madeCells #[.int .u64 0] (n + 4)) 236) = w' := by
  obtain ⟨i0, hi, hz0, hz1, hz2⟩ := info_parts info_word
  have hmk : ∀ w, (Instr.makeSlice 187 (.int .i64 (n : Int)) (.int .i64 ((n : Int) + 4))).run Tryz.prog w = .ok (.slice (some ⟨w.heap.size, 0, none⟩) n (n + 4)) (w.alloc (.cells (madeCells #[.int .u64 0] (n + 4)) 236)) := fun w => by
    have h := run_make (P := Tryz.prog) w 187 236 i0 (.int .u64 0) Tryz.underlying187 hi hz0 .i64 .i64 (n : Int) ((n : Int) + 4) (by omega) (by omega) (by rw [hz2]; omega) (by omega)
    rw [hz1] at h
    have e : ((n : Int) + 4).toNat = n + 4 := by omega
    simpa [e, Value.cells] using h
  go_enter Tryz.func134, Tryz.ntmps134
  go_wp2
  go_ret
  exact ⟨rfl, rfl⟩

theorem setWord_nil0 (w : World) :
    Calls Tryz.prog 133 #[.slice none 0 0, .int .u64 0] w fun e w' => e = .returned (.slice none 0 0) ∧ w = w' := by
  go_enter Tryz.func133, Tryz.ntmps133
  go_wp2
  go_ret
  exact ⟨rfl, rfl⟩

theorem setWord_nil1 (x : Int) (hx : ¬ x = 0) (w : World) :
    Calls Tryz.prog 133 #[.slice none 0 0, .int .u64 x] w fun e w' => e = .returned (.slice (some ⟨w.heap.size, 0, none⟩) 1 1) ∧ w.alloc (.cells #[.int .u64 x] 236) = w' := by
  have hx0 := beq_no hx
  clear hx
  go_enter Tryz.func133, Tryz.ntmps133
  go_wp2_with (go_at_call 134; refine (make_nil1 _).mono ?_; rintro e w' ⟨rfl, rfl⟩)
  go_ret
  exact ⟨rfl, rfl⟩

theorem setUint64_nil0 (w : World) :
    Calls Tryz.prog 116 #[.slice none 0 0, .int .u64 0] w fun e w' => e = .returned (.slice none 0 0) ∧ w = w' := by
  go_enter Tryz.func116, Tryz.ntmps116
  go_wp2_with (go_at_call 133; refine (setWord_nil0 _).mono ?_; rintro e w' ⟨rfl, rfl⟩)
  go_ret
  exact ⟨rfl, rfl⟩

theorem setUint64_nil1 (x : Int) (hx : ¬ x = 0) (h0 : 0 ≤ x) (h1 : x ≤ 18446744073709551615) (w : World) :
    Calls Tryz.prog 116 #[.slice none 0 0, .int .u64 x] w fun e w' => e = .returned (.slice (some ⟨w.heap.size, 0, none⟩) 1 1) ∧ w.alloc (.cells #[.int .u64 x] 236) = w' := by
  have hx' := Lib.hid hx
  clear hx
  go_enter Tryz.func116, Tryz.ntmps116
  go_wp2_with (go_at_call 133; refine (setWord_nil1 _ hx'.out _).mono ?_; rintro e w' ⟨rfl, rfl⟩)
  go_ret
  exact ⟨rfl, rfl⟩

theorem set_nil0 (A : Option Addr) (c : Nat) (w : World) :
    Calls Tryz.prog 132 #[.slice none 0 0, .slice A 0 c] w fun e w' => e = .returned (.slice none 0 0) ∧ w = w' := by
  go_enter Tryz.func132, Tryz.ntmps132
  go_wp2_with (first | (go_at_call 134; refine (make_nil0 _).mono ?_; rintro e w' ⟨rfl, rfl⟩) | (refine wpList_copy_nothing rfl _ _ 187 187 rfl 236 Tryz.underlying187 (by kernel_rfl) none A 0 0 0 c rfl rfl rfl ?_))
  go_ret
  exact ⟨rfl, rfl⟩

theorem size_word : (Tryz.prog.info? 236).map (·.size) = some 1 := by kernel_rfl

/-- What a copy of a magnitude is: a new block with some room. -/
def Copied (w : World) (xs : List Int) (v : Value) (w' : World) : Prop :=
  ∃ zs : List Int, v = .slice (some ⟨w.heap.size, 0, none⟩) xs.length (xs ++ zs).length ∧ w' = w.alloc (.cells (ints .u64 (xs ++ zs)).toArray 236)

theorem set_nil (S : Nat → Prop) (A : Option Addr) (c : Nat) (xs : List Int) (h0 : 0 < xs.length) (h1 : xs.length ≤ 4294967296) (w : World) (hr : Rd w S A (ints .u64 xs)) :
    Calls Tryz.prog 132 #[.slice none 0 0, .slice A xs.length c] w fun e w' => ∃ v, e = .returned v ∧ Copied w xs v w' := by
  obtain ⟨b, o, rfl, hS, hc⟩ := hr (by rw [ints_length]; exact h0)
  have hb : b < w.heap.size := World.block_lt_of_cell? w ⟨b, o + 0, none⟩ (hc 0 _ (ints_get _ _ 0 h0))
  have hc1 : Hid (∀ (o' : Obj) (j : Nat) (v : Value), (ints .u64 xs)[j]? = some v → (w.alloc o').cell? ((⟨b, o, none⟩ : Addr).add j) = some v) := by
    intro o' j v hj
    have e : (⟨b, o, none⟩ : Addr).add j = ⟨b, o + j, none⟩ := by unfold Addr.add; split <;> simp_all
    rw [e, World.cell?_alloc_lt w _ _ hb]
    exact hc j v hj
  clear hc hr
  by_cases hn : xs.length = 1
  · obtain ⟨x, rfl⟩ : ∃ x, xs = [x] := by
      match xs, hn with
      | [x], _ => exact ⟨x, rfl⟩
    clear hn h0 h1
    have hm : Calls Tryz.prog 132 #[.slice none 0 0, .slice (some ⟨b, o, none⟩) 1 c] w fun e w' => e = .returned (.slice (some ⟨w.heap.size, 0, none⟩) 1 1) ∧ w.alloc (.cells (ints .u64 [x]).toArray 236) = w' := by
      go_enter Tryz.func132, Tryz.ntmps132
      go_wp2_with (first | (go_at_call 134; refine (make_nil1 _).mono ?_; rintro e w' ⟨rfl, rfl⟩) | (refine wpList_copy_own rfl _ _ 187 187 rfl 236 Tryz.underlying187 size_word w.heap.size 0 1 1 ⟨b, o, none⟩ 1 c rfl rfl #[.int .u64 0] 236 (heap_alloc_new w _) (ints .u64 [x]) rfl (hc1.out _) (by simp [ints]) (ints_one _ _) ?_; rw [setRow_alloc]))
      go_ret
      exact ⟨rfl, rfl⟩
    exact hm.mono fun e w' ⟨he, hw⟩ => ⟨_, he, [], by simp, by simpa using hw.symm⟩
  · have hn2 : 2 ≤ xs.length := by omega
    clear hn h0
    obtain ⟨n, hn⟩ : ∃ n, n = xs.length := ⟨_, rfl⟩
    rw [← hn] at hn2 h1 ⊢
    have hm : Calls Tryz.prog 132 #[.slice none 0 0, .slice (some ⟨b, o, none⟩) n c] w fun e w' => e = .returned (.slice (some ⟨w.heap.size, 0, none⟩) n (n + 4)) ∧ w.alloc (.cells (ints .u64 (xs ++ [0, 0, 0, 0])).toArray 236) = w' := by
      have H := Lib.hid hn
      clear hn
      have hfin : Hid (((madeCells #[Value.int .u64 0] (n + 4)).toList.take 0 ++ (ints .u64 xs ++ (madeCells #[Value.int .u64 0] (n + 4)).toList.drop (0 + (ints .u64 xs).length))).toArray = (ints .u64 (xs ++ [0, 0, 0, 0])).toArray) := by
        show _ = _
        rw [ints_append, ints_length, ← H.out]
        congr 1
        simp only [List.take_zero, List.nil_append, Nat.zero_add]
        congr 1
        rw [madeCells_one]
        simp [ints, List.drop_replicate]
      go_enter Tryz.func132, Tryz.ntmps132
      go_wp2_with (first | (go_at_call 134; refine (make_niln n hn2 h1 _).mono ?_; rintro e w' ⟨rfl, rfl⟩) | (refine wpList_copy_own rfl _ _ 187 187 rfl 236 Tryz.underlying187 size_word w.heap.size 0 n (n + 4) ⟨b, o, none⟩ n c rfl rfl (madeCells #[.int .u64 0] (n + 4)) 236 (heap_alloc_new w _) (ints .u64 xs) (by rw [ints_length, ← H.out]; exact (Nat.min_self n).symm) (hc1.out _) (by rw [ints_length, ← H.out, size_madeCells]; omega) (ints_one _ _) ?_; rw [setRow_alloc, hfin.out]))
      go_ret
      exact ⟨rfl, rfl⟩
    exact hm.mono fun e w' ⟨he, hw⟩ => ⟨_, he, [0, 0, 0, 0], by simp [hn], hw.symm⟩

end Go.Proofs.YtloloifngbmibaaGreatDoor
