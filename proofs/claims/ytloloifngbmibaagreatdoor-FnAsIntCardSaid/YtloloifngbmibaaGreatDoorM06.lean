/- Walks of nat.norm and nat.cmp. Walks of mulAddVWW and addMulVVWW. Walks of mulAddVWW, addMulVVWW, alias at nil, basicMul. -/
import Derived.Test.YtloloifngbmibaaGreatDoorM02
import Derived.Test.YtloloifngbmibaaGreatDoorM03
import Derived.Test.YtloloifngbmibaaGreatDoorM04
import Derived.Lib.SliceRun
set_option linter.unusedVariables false
set_option maxRecDepth 4000
namespace Go.Proofs.YtloloifngbmibaaGreatDoor
open Go.RowKit

theorem norm_any (S : Nat → Prop) (A : Option Addr) (c : Nat) (xs : List Int) (hl : xs.length ≤ c) (hn : xs.length ≤ 4294967296) (w : World) (hr : Rd w S A (ints .u64 xs)) :
    Calls Tryz.prog 139 #[.slice A xs.length c] w fun e w' => e = .returned (.slice A (nrm xs).length c) ∧ w' = w := by
  obtain ⟨n, hna⟩ : ∃ n, n = xs.length := ⟨_, rfl⟩
  rw [← hna] at hl hn ⊢
  have HN := Lib.hid hna
  have HR := Lib.hid hr
  have HL := Lib.hid hl
  clear hna hr
  go_enter Tryz.func139, Tryz.ntmps139
  go_wp2
  go_loop [3] (fun i => ∃ k : Nat, k ≤ n ∧ i = .int .i64 k ∧ Hid (Nat_ xs k)) (fun i => (intOf i).toNat)
  case atStart => exact ⟨n, Nat.le_refl _, rfl, by rw [HN.out]; exact nat0 _⟩
  case round =>
    obtain ⟨k, hk, rfl, hz⟩ := hrel
    rcases k with _ | k
    · have hfin : Hid ((nrm xs).length = 0) := by
        show _ = _
        rw [nat_end (by omega) hz.out (by omega)]
        simp
      go_wp2
      go_ret
      exact ⟨by rw [hfin.out]; rfl, rfl⟩
    · obtain ⟨b, o, rfl, _, c0⟩ := rd_int HR.out (j := k) (by rw [← HN.out]; omega)
      have hkn : k < n := by omega
      obtain ⟨x, hx⟩ : ∃ x, x = xs[k]?.getD 0 := ⟨_, rfl⟩
      rw [← hx] at c0
      have HX := Lib.hid hx
      have hpos : ((0 : Int) < (k : Int) + 1) := by omega
      have ek : ((k + 1 : Nat) : Int) = (k : Int) + 1 := by omega
      clear hx
      by_cases hx0 : x = 0
      · subst hx0
        have HK := Lib.hid hkn
        go_wp2
        go_round
        case rel => exact ⟨k, by omega, by simp, nat_succ (by rw [← HN.out]; exact HK.out) hz.out HX.out.symm⟩
        case measure => simp [intOf]
      · have e1 := beq_no hx0
        have hfin : Hid ((nrm xs).length = k + 1) := by
          show _ = _
          rw [nat_end (by rw [← HN.out]; omega) hz.out (fun _ => by simp only [Nat.add_sub_cancel]; rw [← HX.out]; exact hx0)]
          rw [List.length_take, ← HN.out]
          omega
        have hkc : k + 1 ≤ c := by omega
        clear hx0
        go_wp2
        go_ret
        exact ⟨by rw [hfin.out]; rfl, rfl⟩

theorem take_rev {xs : List Int} {k : Nat} (hk : k < xs.length) : (xs.take (k + 1)).reverse = (xs[k]?.getD 0) :: (xs.take k).reverse := by
  rw [List.take_succ_eq_append_getElem hk, List.reverse_append]
  simp [hk]
/-- A comparison down from the high end has come to k. -/
def Cat (xs ys : List Int) (k : Nat) : Prop := cmpL (xs.take (k + 1)).reverse (ys.take (k + 1)).reverse = cmpL xs.reverse ys.reverse
theorem cat0 {xs ys : List Int} {n : Nat} (h1 : xs.length = n + 1) (h2 : ys.length = n + 1) : Cat xs ys n := by
  unfold Cat
  rw [List.take_of_length_le (by omega), List.take_of_length_le (by omega)]
theorem cat_eq {xs ys : List Int} {k : Nat} (hx : k < xs.length) (hy : k < ys.length) (h : Cat xs ys k) :
    cmpL xs.reverse ys.reverse = if xs[k]?.getD 0 = ys[k]?.getD 0 then cmpL (xs.take k).reverse (ys.take k).reverse else if xs[k]?.getD 0 < ys[k]?.getD 0 then -1 else 1 := by
  unfold Cat at h
  rw [← h, take_rev hx, take_rev hy]
  rfl
theorem cmpN_any (S S' : Nat → Prop) (A A' : Option Addr) (c c' : Nat) (xs ys : List Int) (hn : xs.length ≤ 4294967296) (hn' : ys.length ≤ 4294967296) (w : World) (h : Rd w S A (ints .u64 xs)) (h' : Rd w S' A' (ints .u64 ys)) :
    Calls Tryz.prog 141 #[.slice A xs.length c, .slice A' ys.length c'] w fun e w' => e = .returned (.int .i64 (ordL xs.reverse ys.reverse)) ∧ ∃ n, w.drewN n = w' := by
  by_cases hl : xs.length = ys.length
  · by_cases h0 : xs.length = 0
    · have e1 : xs = [] := List.eq_nil_of_length_eq_zero h0
      have e2 : ys = [] := List.eq_nil_of_length_eq_zero (by omega)
      subst e1
      subst e2
      clear h h'
      go_enter Tryz.func141, Tryz.ntmps141
      go_wp2
      go_ret
      exact ⟨rfl, 0, rfl⟩
    · obtain ⟨n, hna⟩ : ∃ n, xs.length = n + 1 := ⟨xs.length - 1, by omega⟩
      have hnb : ys.length = n + 1 := by omega
      have HO : Hid (ordL xs.reverse ys.reverse = cmpL xs.reverse ys.reverse) := by
        show _ = _
        simp [ordL, hl]
      rw [hna] at hn
      have H := Lib.hid h
      have H' := Lib.hid h'
      have HA := Lib.hid hna
      have HB := Lib.hid hnb
      rw [hna, hnb]
      clear hna hnb hl hn' h h' h0
      have e0 : (((n + 1 : Nat) : Int) != ((n + 1 : Nat) : Int)) = false := by simp
      have e1 : ((n + 1 : Nat) : Int) = (n : Int) + 1 := by omega
      have e2 : ((n : Int) + 1 == 0) = false := beq_no (by omega)
      go_enter Tryz.func141, Tryz.ntmps141
      go_wp2
      go_loopw [7] (fun i wr => ∃ k : Nat, k ≤ n ∧ i = .int .i64 k ∧ Hid (Cat xs ys k) ∧ ∃ m, wr = w.drewN m) (fun i _ => (intOf i).toNat)
      case atStart => exact ⟨n, Nat.le_refl _, by simp, cat0 HA.out HB.out, 0, rfl⟩
      case round =>
        obtain ⟨k, hk, rfl, hz, m, rfl⟩ := hrel
        obtain ⟨b1, o1, hA, _, c1⟩ := rd_int H.out (j := k) (by rw [HA.out]; omega)
        obtain ⟨b2, o2, hA', _, c2⟩ := rd_int H'.out (j := k) (by rw [HB.out]; omega)
        cases hA
        cases hA'
        have hstep := cat_eq (by rw [HA.out]; omega) (by rw [HB.out]; omega) hz.out
        obtain ⟨x, hx⟩ : ∃ x, x = xs[k]?.getD 0 := ⟨_, rfl⟩
        obtain ⟨y, hy⟩ : ∃ y, y = ys[k]?.getD 0 := ⟨_, rfl⟩
        rw [← hx] at c1 hstep
        rw [← hy] at c2 hstep
        have HS := Lib.hid hstep
        clear hx hy hstep
        have hk1 : (k : Int) < (n : Int) + 1 := by omega
        have hk2 : k < n + 1 := by omega
        by_cases hxy : x = y
        · subst hxy
          rcases k with _ | k
          · simp only [Nat.add_zero] at c1 c2
            have e4 := dec_no (Int.lt_irrefl x)
            have hfin : Hid (cmpL xs.reverse ys.reverse = 0) := by
              show _ = _
              rw [HS.out, if_pos rfl]
              simp [cmpL]
            go_wp2
            go_quiet (fail)
            go_wp2
            go_quiet (fail)
            go_wp2
            go_quiet (fail)
            go_wp2
            go_ret
            refine ⟨?_, _, by rw [World.drewN_drewN, World.drewN_drewN, World.drewN_drewN]⟩
            rw [HO.out, hfin.out]
            rfl
          · have e3 : (((k + 1 : Nat) : Int) == 0) = false := beq_no (by omega)
            have e4 : (x == x) = true := by simp
            have e5 := dec_yes (show (0 : Int) < ((k + 1 : Nat) : Int) by omega)
            go_wp2
            go_quiet (fail)
            go_wp2
            go_roundw
            case rel => exact ⟨k, by omega, by simp, by have := HS.out; simp at this; exact this.symm, _, rfl⟩
            case measure => simp [intOf]
        · have e1' := beq_no hxy
          by_cases hlt2 : x < y
          · have e3 := dec_yes hlt2
            have hfin : Hid (cmpL xs.reverse ys.reverse = -1) := by
              show _ = _
              rw [HS.out, if_neg hxy, if_pos hlt2]
            clear hxy
            by_cases hk0 : 0 < k
            · have e5 := dec_yes (show (0 : Int) < (k : Int) by omega)
              go_wp2
              go_quiet (fail)
              go_wp2
              go_quiet (fail)
              go_wp2
              go_ret
              refine ⟨?_, _, by rw [World.drewN_drewN, World.drewN_drewN]⟩
              rw [HO.out, hfin.out]
              rfl
            · have e5 := dec_no (show ¬ (0 : Int) < (k : Int) by omega)
              go_wp2
              go_quiet (fail)
              go_wp2
              go_quiet (fail)
              go_wp2
              go_ret
              refine ⟨?_, _, by rw [World.drewN_drewN, World.drewN_drewN]⟩
              rw [HO.out, hfin.out]
              rfl
          · have e3 := dec_no hlt2
            have e6 := dec_yes (show y < x by omega)
            have hfin : Hid (cmpL xs.reverse ys.reverse = 1) := by
              show _ = _
              rw [HS.out, if_neg hxy, if_neg hlt2]
            clear hxy
            by_cases hk0 : 0 < k
            · have e5 := dec_yes (show (0 : Int) < (k : Int) by omega)
              go_wp2
              go_quiet (fail)
              go_wp2
              go_quiet (fail)
              go_wp2
              go_quiet (fail)
              go_wp2
              go_ret
              refine ⟨?_, _, by rw [World.drewN_drewN, World.drewN_drewN, World.drewN_drewN]⟩
              rw [HO.out, hfin.out]
              rfl
            · have e5 := dec_no (show ¬ (0 : Int) < (k : Int) by omega)
              go_wp2
              go_quiet (fail)
              go_wp2
              go_quiet (fail)
              go_wp2
              go_quiet (fail)
              go_wp2
              go_ret
              refine ⟨?_, _, by rw [World.drewN_drewN, World.drewN_drewN, World.drewN_drewN]⟩
              rw [HO.out, hfin.out]
              rfl
  · have e0 : ((xs.length : Int) != (ys.length : Int)) = true := bne_yes (by omega)
    by_cases hlt : xs.length < ys.length
    · have hO : Hid (ordL xs.reverse ys.reverse = -1) := by
        show _ = _
        rw [ordL, if_neg (by simpa using hl), if_pos (by simpa using hlt)]
      clear hl h h'
      go_enter Tryz.func141, Tryz.ntmps141
      go_wp2
      go_ret
      exact ⟨by rw [hO.out]; rfl, 0, rfl⟩
    · have hO : Hid (ordL xs.reverse ys.reverse = 1) := by
        show _ = _
        rw [ordL, if_neg (by simpa using hl), if_neg (by simpa using hlt)]
      have hgt : ys.length < xs.length := by omega
      clear hl h h'
      go_enter Tryz.func141, Tryz.ntmps141
      go_wp2
      go_ret
      exact ⟨by rw [hO.out]; rfl, 0, rfl⟩
end Go.Proofs.YtloloifngbmibaaGreatDoor
set_option linter.unusedVariables false
set_option maxRecDepth 4000
namespace Go.Proofs.YtloloifngbmibaaGreatDoor
open Go.RowKit

theorem grown_drewN {w w' : World} {row : Option Nat} (h : w.grownBy w' row) (n : Nat) : w.grownBy (w'.drewN n) row := ⟨h.os, h.tape, h.output, h.size, h.block⟩
/-- A block of words. -/
def WB (W : World) (g : Nat) (l : List Int) : Prop := Blk W g 236 (ints .u64 l).toArray
theorem WB.lt {W : World} {g : Nat} {l : List Int} (h : WB W g l) : g < W.heap.size := Blk.lt h
theorem WB.cell {W : World} {g : Nat} {l : List Int} (h : WB W g l) {i : Nat} (hi : i < l.length) : W.cell? ⟨g, i, none⟩ = some (.int .u64 (l[i]?.getD 0)) := by
  rw [Blk.cell h]
  simp [ints, hi]
theorem WB.set {W : World} {g : Nat} {l : List Int} (h : WB W g l) (i : Nat) (x : Int) : WB (W.setCell ⟨g, i, none⟩ (.int .u64 x)) g (l.set i x) := by
  have := Blk.set h i (.int .u64 x)
  unfold WB
  simpa [ints, List.map_set] using this
theorem WB.rd {W : World} {g o : Nat} {l xs zs : List Int} (h : WB W g l) (hl : l.drop o = xs ++ zs) : Rd W (fun k => k = g) (some ⟨g, o, none⟩) (ints .u64 xs) := fun _ => by
  refine ⟨g, o, rfl, rfl, fun j u hu => ?_⟩
  have hj : j < xs.length := by
    have := (List.getElem?_eq_some_iff.1 hu).1
    rwa [ints_length] at this
  have e : l[o + j]? = some xs[j] := by
    rw [← List.getElem?_drop, hl, List.getElem?_append_left hj, List.getElem?_eq_getElem hj]
  have hlt := (List.getElem?_eq_some_iff.1 e).1
  rw [h.cell hlt, e, ← hu, ints_get _ _ _ hj]
  simp [hj]
theorem set_mid (a b c : List Int) (x y : Int) (i : Nat) (hi : i = a.length + b.length) : (a ++ b ++ x :: c).set i y = a ++ (b ++ [y]) ++ c := by
  subst hi
  rw [List.set_append_right _ _ (by simp), List.length_append, Nat.sub_self]
  simp
theorem nv_snoc (xs : List Int) (x : Int) : nv (xs ++ [x]) = nv xs + 18446744073709551616 ^ xs.length * x := by
  rw [nv_app]
  simp [nv]
theorem take_snoc {xs : List Int} {k : Nat} (hk : k < xs.length) : xs.take (k + 1) = xs.take k ++ [xs[k]?.getD 0] := by
  rw [List.take_succ_eq_append_getElem hk]
  simp [hk]
/-- A step of a product: k words are out. -/
theorem mul_step {k : Nat} {o xs zs : List Int} {x z y c lo c' r : Int} (ho : o.length = k) (hx : k < xs.length) (hz : k < zs.length) (ex : xs[k]?.getD 0 = x) (ez : zs[k]?.getD 0 = z)
    (h : nv o + 18446744073709551616 ^ k * c = nv (zs.take k) + nv (xs.take k) * y + r) (hs : z + x * y + c = lo + 18446744073709551616 * c') :
    nv (o ++ [lo]) + 18446744073709551616 ^ (k + 1) * c' = nv (zs.take (k + 1)) + nv (xs.take (k + 1)) * y + r := by
  rw [nv_snoc, take_snoc hx, take_snoc hz, nv_snoc, nv_snoc, ho, ex, ez, List.length_take, List.length_take, Nat.min_eq_left (Nat.le_of_lt hx), Nat.min_eq_left (Nat.le_of_lt hz)]
  have e1 : (18446744073709551616 : Int) ^ (k + 1) * c' = 18446744073709551616 ^ k * (18446744073709551616 * c') := by rw [Int.pow_succ, Int.mul_assoc]
  have e2 : (18446744073709551616 : Int) ^ k * (z + x * y + c) = 18446744073709551616 ^ k * (lo + 18446744073709551616 * c') := by rw [hs]
  rw [Int.mul_add, Int.mul_add, Int.mul_add] at e2
  rw [e1, Int.add_mul, Int.mul_assoc]
  omega
theorem mul_word {x z y c : Nat} (hx : x < 18446744073709551616) (hy : y < 18446744073709551616) (hz : z < 18446744073709551616) (hc : c < 18446744073709551616) :
    (x * y + z) / 18446744073709551616 + ((x * y + z) % 18446744073709551616 + c + 0) / 18446744073709551616 < 18446744073709551616 ∧
    z + x * y + c = ((x * y + z) % 18446744073709551616 + c + 0) % 18446744073709551616 + 18446744073709551616 * ((x * y + z) / 18446744073709551616 + ((x * y + z) % 18446744073709551616 + c + 0) / 18446744073709551616) := by
  have hxy : x * y ≤ 18446744073709551615 * 18446744073709551615 := Nat.mul_le_mul (by omega) (by omega)
  omega

theorem mulAddVWW_any (S : Nat → Prop) (A : Option Addr) (g c cz : Nat) (y r : Int) (xs zs : List Int) (hy : 0 ≤ y ∧ y < 18446744073709551616) (hr0 : 0 ≤ r ∧ r < 18446744073709551616) (hn : xs.length ≤ 4294967296) (hX : WL xs) (hz : xs.length ≤ zs.length) (w : World) (hr : Rd w S A (ints .u64 xs)) (hS : ∀ k, S k → k ≠ g)
    (hg : WB w g zs) :
    Calls Tryz.prog 205 #[.slice (some ⟨g, 0, none⟩) xs.length cz, .slice A xs.length c, .int .u64 y, .int .u64 r] w fun e w' =>
      ∃ (o : List Int) (cy : Int), e = .returned (.int .u64 cy) ∧ o.length = xs.length ∧ WL o ∧ (0 ≤ cy ∧ cy < 18446744073709551616) ∧ nv o + 18446744073709551616 ^ xs.length * cy = nv xs * y + r ∧ WB w' g (o ++ zs.drop xs.length) ∧ w.grownBy w' (some g) := by
  obtain ⟨n, hn'⟩ : ∃ n, n = xs.length := ⟨_, rfl⟩
  rw [← hn'] at hz hn ⊢
  have HR := Lib.hid hr
  have HX := Lib.hid hX
  have HS := Lib.hid hS
  have HN := Lib.hid hn'
  have HY := Lib.hid hy
  have HR0 := Lib.hid hr0
  have e0 : ((n : Int) != (n : Int)) = false := by simp
  clear hr hX hS hn' hy hr0
  go_enter Tryz.func205, Tryz.ntmps205
  go_wp2
  go_loopw [8, 19] (fun i k wr => ∃ (q : Nat) (o : List Int) (cy : Int), q ≤ n ∧ k = .int .i64 q ∧ i = .int .u64 cy ∧ Hid (o.length = q) ∧ Hid (WL o) ∧ Hid (0 ≤ cy ∧ cy < 18446744073709551616) ∧ Hid (nv o + 18446744073709551616 ^ q * cy = nv (List.replicate n 0 |>.take q) + nv (xs.take q) * y + r) ∧ Hid (WB wr g (o ++ zs.drop q)) ∧ Hid (w.grownBy wr (some g))) (fun _ k _ => n - (intOf k).toNat)
  case atStart => exact ⟨0, [], r, Nat.zero_le _, rfl, rfl, Lib.hid rfl, Lib.hid WL.nil, HR0, Lib.hid (by simp [nv]), Lib.hid (by simpa using hg), Lib.hid (World.grownBy.refl _ _)⟩
  case round =>
    obtain ⟨q, o, cy, hq, rfl, rfl, hol, how, hcy, hnv, hb, hgr⟩ := hrel
    by_cases hlt : q < n
    · obtain ⟨b, ofs, e, hSb, hc⟩ := rd_int HR.out (j := q) (by rw [← HN.out]; exact hlt)
      cases e
      have hcell := hgr.out.cell hc (by have := HS.out b hSb; simpa using this)
      obtain ⟨x, hx⟩ : ∃ x, x = xs[q]?.getD 0 := ⟨_, rfl⟩
      have hxb := HX.out.at_ q
      rw [← hx] at hcell hxb
      have hz1 : zs.drop q = (zs[q]?.getD 0) :: zs.drop (q + 1) := by
        rw [List.drop_eq_getElem_cons (by omega)]
        simp [show q < zs.length by omega]
      have hlen : q < (o ++ zs.drop q).length := by simp [hol.out]; omega
      have c0 := hb.out.cell hlen
      have f0 := Blk.frozen hb.out q
      obtain ⟨u, hu⟩ : ∃ u, u = (o ++ zs.drop q)[q]?.getD 0 := ⟨_, rfl⟩
      rw [← hu] at c0
      obtain ⟨X, rfl⟩ := Int.eq_ofNat_of_zero_le hxb.1
      obtain ⟨Y, rfl⟩ := Int.eq_ofNat_of_zero_le HY.out.1
      obtain ⟨C, rfl⟩ := Int.eq_ofNat_of_zero_le hcy.out.1
      have hX1 : X < 18446744073709551616 := by have := hxb.2; omega
      have hY1 : Y < 18446744073709551616 := by have := HY.out.2; omega
      have hC1 : C < 18446744073709551616 := by have := hcy.out.2; omega
      have HM := Lib.hid (fun w => mulAddWWW_any X Y C hX1 hY1 hC1 w)
      have hb1 : X * Y ≤ 18446744073709551615 * 18446744073709551615 := Nat.mul_le_mul (by omega) (by omega)
      obtain ⟨hi, h1⟩ : ∃ hi, hi = (X * Y + C) / 18446744073709551616 := ⟨_, rfl⟩
      obtain ⟨lo, h2⟩ : ∃ lo, lo = (X * Y + C) % 18446744073709551616 := ⟨_, rfl⟩
      rw [← h1, ← h2] at HM
      have HE := Lib.hid (show X * Y + C = lo + 18446744073709551616 * hi ∧ hi < 18446744073709551616 ∧ lo < 18446744073709551616 by omega)
      have HXE := Lib.hid hx
      have HZ1 := Lib.hid hz1
      have hqz : q < 4294967296 := by omega
      clear hx hxb hc hz1 hlen hu h1 h2 hb1 hX1 hY1 hC1
      go_wp2_with (go_at_call 220; refine (HM.out _).mono ?_; rintro e w' ⟨rfl, rfl⟩)
      go_roundw
      case rel =>
        have hX2 := HX.out
        have hstep := mul_step (k := q) (o := o) (xs := xs) (zs := List.replicate n 0) (x := X) (z := 0) (y := Y) (c := C) (lo := lo) (c' := hi) (r := r) hol.out (by rw [← HN.out]; exact hlt) (by simpa using hlt) HXE.out.symm (by simp [hlt]) hnv.out (by
          have := HE.out.1
          have e : ((X * Y + C : Nat) : Int) = ((lo + 18446744073709551616 * hi : Nat) : Int) := by rw [this]
          simp only [Int.natCast_add, Int.natCast_mul] at e
          simp only [Int.zero_add]
          exact e)
        refine ⟨q + 1, o ++ [(lo : Int)], hi, by omega, by go_num, rfl, Lib.hid (by simp [hol.out]), Lib.hid (how.out.app (WL.one (by omega) (by have := HE.out.2.2; omega))), Lib.hid (by have := HE.out.2.1; omega), Lib.hid hstep, Lib.hid ?_, Lib.hid (only_set hgr.out _ _)⟩
        have h3 := hb.out.set q lo
        rw [HZ1.out] at h3
        have e := set_mid [] o (zs.drop (q + 1)) (zs[q]?.getD 0) lo q (by simp [hol.out])
        simp only [List.nil_append] at e
        rw [e] at h3
        exact h3
      case measure => simp [intOf]; omega
    · obtain rfl : q = n := by omega
      go_wp2
      go_ret
      refine ⟨o, cy, rfl, hol.out, how.out, hcy.out, ?_, hb.out, hgr.out⟩
      have h := hnv.out
      rw [List.take_of_length_le (by simp), List.take_of_length_le (by rw [← HN.out]; exact Nat.le_refl _), nv_zeros] at h
      omega
theorem addMulVVWW_any (S : Nat → Prop) (A : Option Addr) (g c cz : Nat) (y r : Int) (xs pre zs post : List Int) (hy : 0 ≤ y ∧ y < 18446744073709551616) (hr0 : 0 ≤ r ∧ r < 18446744073709551616) (hn : xs.length ≤ 4294967296) (hX : WL xs) (hZ : WL zs) (hz : zs.length = xs.length) (w : World) (hr : Rd w S A (ints .u64 xs)) (hS : ∀ k, S k → k ≠ g)
    (hg : WB w g (pre ++ zs ++ post)) :
    Calls Tryz.prog 206 #[.slice (some ⟨g, pre.length, none⟩) xs.length cz, .slice (some ⟨g, pre.length, none⟩) xs.length cz, .slice A xs.length c, .int .u64 y, .int .u64 r] w fun e w' =>
      ∃ (o : List Int) (cy : Int), e = .returned (.int .u64 cy) ∧ o.length = xs.length ∧ WL o ∧ (0 ≤ cy ∧ cy < 18446744073709551616) ∧ nv o + 18446744073709551616 ^ xs.length * cy = nv zs + nv xs * y + r ∧ WB w' g (pre ++ o ++ post) ∧ w.grownBy w' (some g) := by
  obtain ⟨n, hn'⟩ : ∃ n, n = xs.length := ⟨_, rfl⟩
  obtain ⟨p, hp'⟩ : ∃ p, p = pre.length := ⟨_, rfl⟩
  rw [← hn'] at hz hn ⊢
  rw [← hp']
  have HR := Lib.hid hr
  have HX := Lib.hid hX
  have HZ := Lib.hid hZ
  have HZL := Lib.hid hz
  have HS := Lib.hid hS
  have HN := Lib.hid hn'
  have HP := Lib.hid hp'
  have HY := Lib.hid hy
  have HR0 := Lib.hid hr0
  have e0 : ((n : Int) != (n : Int)) = false := by simp
  clear hr hX hS hn' hy hr0 hZ hz hp'
  go_enter Tryz.func206, Tryz.ntmps206
  go_wp2
  go_loopw [10, 32] (fun i k wr => ∃ (q : Nat) (o : List Int) (cy : Int), q ≤ n ∧ k = .int .i64 q ∧ i = .int .u64 cy ∧ Hid (o.length = q) ∧ Hid (WL o) ∧ Hid (0 ≤ cy ∧ cy < 18446744073709551616) ∧ Hid (nv o + 18446744073709551616 ^ q * cy = nv (zs.take q) + nv (xs.take q) * y + r) ∧ Hid (WB wr g (pre ++ o ++ (zs.drop q ++ post))) ∧ Hid (w.grownBy wr (some g))) (fun _ k _ => n - (intOf k).toNat)
  case atStart => exact ⟨0, [], r, Nat.zero_le _, rfl, rfl, Lib.hid rfl, Lib.hid WL.nil, HR0, Lib.hid (by simp [nv]), Lib.hid (by simpa using hg), Lib.hid (World.grownBy.refl _ _)⟩
  case round =>
    obtain ⟨q, o, cy, hq, rfl, rfl, hol, how, hcy, hnv, hb, hgr⟩ := hrel
    by_cases hlt : q < n
    · obtain ⟨b, ofs, e, hSb, hc⟩ := rd_int HR.out (j := q) (by rw [← HN.out]; exact hlt)
      cases e
      have hcell := hgr.out.cell hc (by have := HS.out b hSb; simpa using this)
      obtain ⟨x, hx⟩ : ∃ x, x = xs[q]?.getD 0 := ⟨_, rfl⟩
      have hxb := HX.out.at_ q
      rw [← hx] at hcell hxb
      obtain ⟨z, hzz⟩ : ∃ z, z = zs[q]?.getD 0 := ⟨_, rfl⟩
      have hzb := HZ.out.at_ q
      have hqz : q < zs.length := by rw [HZL.out]; exact hlt
      have hz1 : zs.drop q ++ post = (zs[q]?.getD 0) :: (zs.drop (q + 1) ++ post) := by
        rw [List.drop_eq_getElem_cons hqz, List.cons_append, List.getElem?_eq_getElem hqz, Option.getD_some]
      have hb2 := hb.out
      rw [hz1] at hb2
      have c0 := hb2.cell (i := p + q) (by simp [hol.out, ← HP.out])
      have e1 : (pre ++ o ++ (zs[q]?.getD 0) :: (zs.drop (q + 1) ++ post))[p + q]?.getD 0 = zs[q]?.getD 0 := by
        rw [List.getElem?_append_right (by simp [hol.out, ← HP.out])]
        simp [hol.out, ← HP.out]
      rw [e1] at c0
      have f0 := Blk.frozen hb2 (p + q)
      rw [← hzz] at c0 hzb
      obtain ⟨X, rfl⟩ := Int.eq_ofNat_of_zero_le hxb.1
      obtain ⟨Y, rfl⟩ := Int.eq_ofNat_of_zero_le HY.out.1
      obtain ⟨C, rfl⟩ := Int.eq_ofNat_of_zero_le hcy.out.1
      obtain ⟨Z, rfl⟩ := Int.eq_ofNat_of_zero_le hzb.1
      have hX1 : X < 18446744073709551616 := by have := hxb.2; omega
      have hY1 : Y < 18446744073709551616 := by have := HY.out.2; omega
      have hC1 : C < 18446744073709551616 := by have := hcy.out.2; omega
      have hZ1 : Z < 18446744073709551616 := by have := hzb.2; omega
      have HM := Lib.hid (fun w => mulAddWWW_any X Y Z hX1 hY1 hZ1 w)
      obtain ⟨hw1, hw2⟩ := mul_word hX1 hY1 hZ1 hC1
      obtain ⟨z1, h1⟩ : ∃ z1, z1 = (X * Y + Z) / 18446744073709551616 := ⟨_, rfl⟩
      obtain ⟨z0, h2⟩ : ∃ z0, z0 = (X * Y + Z) % 18446744073709551616 := ⟨_, rfl⟩
      rw [← h1, ← h2] at HM hw1 hw2
      have HA := Lib.hid (fun w => bitsAdd_any z0 C 0 (by omega) w)
      obtain ⟨lo, h3⟩ : ∃ lo, lo = (z0 + C + 0) % 18446744073709551616 := ⟨_, rfl⟩
      obtain ⟨cc, h4⟩ : ∃ cc, cc = (z0 + C + 0) / 18446744073709551616 := ⟨_, rfl⟩
      rw [← h3, ← h4] at HA hw2
      rw [← h4] at hw1
      have hlo : lo < 18446744073709551616 := by omega
      have HE := Lib.hid (show Z + X * Y + C = lo + 18446744073709551616 * (z1 + cc) ∧ z1 + cc < 18446744073709551616 ∧ lo < 18446744073709551616 from ⟨hw2, hw1, hlo⟩)
      have HXE := Lib.hid hx
      have HZE := Lib.hid hzz
      have HB2 := Lib.hid hb2
      have hq9 : q < 4294967296 := by omega
      have ew : IntKind.u64.wrap ((cc : Int) + (z1 : Int)) = ((z1 + cc : Nat) : Int) := by
        simp only [IntKind.wrap_u64]
        omega
      clear hx hxb hzb hc hz1 h1 h2 h3 h4 hX1 hY1 hC1 hZ1 hw1 hw2 hlo hzz hb2 e1 hqz
      go_wp2
      go_quiet (exact Calls.quiet_of_same (HM.out _))
      go_wp2_with (go_at_call 212; refine (HA.out _).mono ?_; rintro e w' ⟨rfl, rfl⟩)
      go_roundw
      case rel =>
        have hstep := mul_step (k := q) (o := o) (xs := xs) (zs := zs) (x := X) (z := Z) (y := Y) (c := C) (lo := lo) (c' := ((z1 + cc : Nat) : Int)) (r := r) hol.out (by rw [← HN.out]; exact hlt) (by rw [HZL.out]; exact hlt) HXE.out.symm HZE.out.symm hnv.out (by
          have := HE.out.1
          have e : ((Z + X * Y + C : Nat) : Int) = ((lo + 18446744073709551616 * (z1 + cc) : Nat) : Int) := by rw [this]
          simp only [Int.natCast_add, Int.natCast_mul] at e ⊢
          exact e)
        refine ⟨q + 1, o ++ [(lo : Int)], ((z1 + cc : Nat) : Int), by omega, by go_num, by first | rfl | rw [ew], Lib.hid (by simp [hol.out]), Lib.hid (how.out.app (WL.one (by omega) (by have := HE.out.2.2; omega))), Lib.hid (by have := HE.out.2.1; omega), Lib.hid hstep, Lib.hid ?_, Lib.hid ?_⟩
        · have e := set_mid pre o (zs.drop (q + 1) ++ post) (zs[q]?.getD 0) lo (p + q) (by simp [hol.out, ← HP.out])
          have h3 := WB.set (Blk.drewN HB2.out nq) (p + q) (lo : Int)
          rw [e] at h3
          exact h3
        · exact only_set (grown_drewN hgr.out _) _ _
      case measure => simp [intOf]; omega
    · obtain rfl : q = n := by omega
      go_wp2
      go_ret
      refine ⟨o, cy, rfl, hol.out, how.out, hcy.out, ?_, ?_, hgr.out⟩
      · have h := hnv.out
        rw [List.take_of_length_le (by rw [HZL.out]; exact Nat.le_refl _), List.take_of_length_le (by rw [← HN.out]; exact Nat.le_refl _)] at h
        exact h
      · have h := hb.out
        rw [List.drop_eq_nil_of_le (by rw [HZL.out]; exact Nat.le_refl _), List.nil_append] at h
        exact h
end Go.Proofs.YtloloifngbmibaaGreatDoor
set_option linter.unusedVariables false
set_option maxRecDepth 4000
namespace Go.Proofs.YtloloifngbmibaaGreatDoor
open Go.RowKit

theorem alias_nil (A : Option Addr) (n c : Nat) (w : World) :
    Calls Tryz.prog 172 #[.slice none 0 0, .slice A n c] w fun e w' => e = .returned (.bool false) ∧ ∃ m, w' = w.drewN m := by
  have e0 : decide ((0 : Int) < 0) = false := rfl
  go_enter Tryz.func172, Tryz.ntmps172
  go_wp2
  go_quiet (fail)
  go_wp2
  go_ret
  exact ⟨rfl, _, rfl⟩

theorem WB.drewN {W : World} {g : Nat} {l : List Int} (h : WB W g l) (n : Nat) : WB (W.drewN n) g l := Blk.drewN h n
theorem WB.drew {W : World} {g : Nat} {l : List Int} (h : WB W g l) : WB W.drew g l := Blk.drew h
theorem WB.setCells {g : Nat} : ∀ (vs : List Int) (o : Nat) {W : World} {pre mid post : List Int}, WB W g (pre ++ mid ++ post) → pre.length = o → mid.length = vs.length → WB (W.setCells g o (ints .u64 vs)) g (pre ++ vs ++ post)
  | [], o, W, pre, mid, post, h, _, hm => by
    have : mid = [] := List.eq_nil_of_length_eq_zero hm
    subst this
    exact h
  | v :: vs, o, W, pre, [], post, h, _, hm => by simp at hm
  | v :: vs, o, W, pre, m :: mid, post, h, ho, hm => by
    have h2 := h.set o v
    have e : (pre ++ (m :: mid) ++ post).set o v = (pre ++ [v]) ++ mid ++ post := by
      have := set_mid pre [] (mid ++ post) m v o (by simp [ho])
      simpa using this
    rw [e] at h2
    have := WB.setCells vs (o + 1) h2 (by simp [ho]) (by simpa using hm)
    simpa [ints, World.setCells] using this
theorem grown_setCells {a : World} {g : Nat} : ∀ (vs : List Value) (o : Nat) {w : World}, a.grownBy w (some g) → a.grownBy (w.setCells g o vs) (some g)
  | [], _, _, h => h
  | v :: vs, o, w, h => grown_setCells vs (o + 1) (only_set h o v)
theorem zero_word : ∀ w, (zeroValue 236).run Tryz.prog w = .ok (.int .u64 0) w := fun _ => by kernel_rfl

theorem clear_words {W : World} {g n c : Nat} {l : List Int} (h : WB W g l) (hn : 0 < n) (hl : n ≤ l.length) (ty : TypeId) :
    (Builtin.clear_ #[187] ty #[.slice (some ⟨g, 0, none⟩) n c]).run Tryz.prog W = .ok (.tuple #[]) (W.setCells g 0 (ints .u64 (List.replicate n 0))) := by
  have := Lib.run_clear_slice (P := Tryz.prog) W 187 236 ty (.int .u64 0) Tryz.underlying187 zero_word rfl rfl g 0 n c hn (fun j hj => by rw [Nat.zero_add, h.cell (by omega)]; rfl) (fun j hj => Blk.frozen h _)
  rw [this]
  simp [ints]
end Go.Proofs.YtloloifngbmibaaGreatDoor
