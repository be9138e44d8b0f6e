/- The walk of nat.setBytes. Int.SetBytes, Set of itself, Neg of itself; bitLen; low64. nat.bitLen, Int.BitLen, low64, Int.Int64, Int.Uint64. What an integer of the reference is worth, and how two compare: plain facts; digits, the lowest first. -/
import Derived.Test.YtloloifngbmibaaGreatDoorM12
import Derived.Lib.ItoaNum
set_option linter.unusedVariables false
set_option linter.unusedSimpArgs false
set_option maxRecDepth 4000
namespace Go.Proofs.YtloloifngbmibaaGreatDoor
open Go.RowKit

theorem make_nilp (m : Nat) (h0 : 0 < m) (h2 : m ≤ 4294967296) (w : World) :
    Calls Tryz.prog 134 #[.slice none 0 0, .int .i64 m] w fun e w' => ∃ C, e = .returned (.slice (some ⟨w.heap.size, 0, none⟩) m C) ∧ m ≤ C ∧ WB w' w.heap.size (List.replicate C 0) ∧ Below w.heap.size w w' := by
  by_cases h : m = 1
  · subst h
    refine (make_nil1 w).mono ?_
    rintro e w' ⟨rfl, rfl⟩
    exact ⟨1, rfl, Nat.le_refl _, Blk.new _ _ _, (Below.refl _ _).alloc (Nat.le_refl _) _⟩
  · refine (make_niln m (by omega) h2 w).mono ?_
    rintro e w' ⟨rfl, rfl⟩
    exact ⟨m + 4, rfl, by omega, WB.made _ _, (Below.refl _ _).alloc (Nat.le_refl _) _⟩

/-- The words done, the places left. -/
structure SetW (w : World) (l : List Int) (C : Nat) (i k : Nat) (ws : List Int) (W : World) : Prop where
  lo : Below w.heap.size w W
  len : ws.length = k
  wl : WL ws
  v : nv ws = bv (l.drop i)
  b : WB W w.heap.size (ws ++ List.replicate (C - k) 0)

theorem SetW.up {w : World} {l : List Int} {C i k : Nat} {ws : List Int} {W W' : World} (h : SetW w l C i k ws W) (hb : Below W.heap.size W W') : SetW w l C i k ws W' := ⟨below_up h.lo hb, h.len, h.wl, h.v, Blk.below h.b hb (Blk.lt h.b)⟩
theorem SetW.put {w : World} {l : List Int} {C i k : Nat} {ws : List Int} {W : World} (h : SetW w l C i k ws W) (hk : k < C) (x : Int) :
    Below w.heap.size w (W.setCell ⟨w.heap.size, k, none⟩ (.int .u64 x)) ∧ WB (W.setCell ⟨w.heap.size, k, none⟩ (.int .u64 x)) w.heap.size ((ws ++ [x]) ++ List.replicate (C - (k + 1)) 0) := by
  refine ⟨h.lo.setCell (p := ⟨w.heap.size, k, none⟩) (Nat.le_refl _) _, ?_⟩
  have h1 := WB.set h.b k x
  have e : (ws ++ List.replicate (C - k) 0).set k x = (ws ++ [x]) ++ List.replicate (C - (k + 1)) 0 := by
    rw [List.set_append_right _ _ (by rw [h.len]; exact Nat.le_refl _), h.len, Nat.sub_self, show C - k = (C - (k + 1)) + 1 by omega, List.replicate_succ]
    simp
  rwa [e] at h1
theorem SetW.cell {w : World} {l : List Int} {C i k : Nat} {ws : List Int} {W : World} (h : SetW w l C i k ws W) (hk : k < C) : W.cell? ⟨w.heap.size, k, none⟩ = some (.int .u64 0) := by
  have h1 := WB.cell h.b (i := k) (by rw [List.length_append, List.length_replicate, h.len]; omega)
  rw [h1, List.getElem?_append_right (by rw [h.len]; exact Nat.le_refl _), h.len, Nat.sub_self]
  simp [show 0 < C - k by omega]
theorem SetW.step {w : World} {l : List Int} {C i k : Nat} {ws : List Int} {W : World} (h : SetW w l C i k ws W) (hk : k < C) (hi : 8 * k + i = l.length) (h8 : 8 ≤ i) (hl : ByL l) :
    SetW w l C (i - 8) (k + 1) (ws ++ [bv ((l.drop (i - 8)).take 8)]) (W.setCell ⟨w.heap.size, k, none⟩ (.int .u64 (bv ((l.drop (i - 8)).take 8)))) := by
  have hp := h.put hk (bv ((l.drop (i - 8)).take 8))
  have hb := word_bd ((hl.drop (i - 8)).take 8) (by rw [List.length_take]; omega)
  exact ⟨hp.1, by simp [h.len], h.wl.app (WL.one hb.1 hb.2), word_up h.len hi h8 h.v, hp.2⟩

theorem set_norm {w W : World} {ws zs : List Int} {m C : Nat} (hb : WB W w.heap.size (ws ++ zs)) (lo : Below w.heap.size w W) (hw : WL ws) (hm : ws.length = m) (hC : m ≤ C) (h32 : m ≤ 4294967296) :
    Calls Tryz.prog 139 #[.slice (some ⟨w.heap.size, 0, none⟩) m C] W fun e w' => ∃ v, e = .returned v ∧ NewN w v (nrm ws) w' := by
  subst hm
  refine (norm_any (fun k => k = w.heap.size) _ C ws hC h32 W (WB.rd (zs := zs) hb (by simp))).mono ?_
  rintro e w' ⟨rfl, rfl⟩
  exact ⟨_, rfl, WB.sl hb ⟨Nat.le_refl _, hb.lt⟩ hC, lo, hw.nrm, nrm_nrm ws⟩

/-- The bytes left, from the lowest on. -/
structure SetL (l : List Int) (i0 i : Nat) (d : Nat) : Prop where
  le : i ≤ i0
  v : (d : Int) = bv ((l.take i0).drop i)
theorem SetL.step {l : List Int} {i0 j d b : Nat} (hl : ByL l) (h8 : i0 < 8) (hi : i0 ≤ l.length) (h : SetL l i0 (j + 1) d) (hb : l[j]?.getD 0 = b) : SetL l i0 j (d + b * 2 ^ (8 * (i0 - (j + 1)))) ∧ d < 2 ^ (8 * (i0 - (j + 1))) ∧ b < 256 := by
  have hle := h.le
  have h2 := hl.at_ j
  have h1 := bv_bd ((hl.take i0).drop (j + 1))
  rw [← h.v, List.length_drop, List.length_take, Nat.min_eq_left hi] at h1
  have e : (256 : Int) ^ (i0 - (j + 1)) = ((2 ^ (8 * (i0 - (j + 1))) : Nat) : Int) := by
    rw [Nat.pow_mul]
    simp
  refine ⟨⟨by omega, ?_⟩, ?_, by omega⟩
  · rw [byte_up hle hi, ← h.v, hb, e]
    simp only [Int.natCast_add, Int.natCast_mul]
    omega
  · rw [e] at h1
    omega

theorem setBytes_pos (S : Nat → Prop) (A : Option Addr) (c : Nat) (l : List Int) (h0 : 0 < l.length) (hc : l.length ≤ c) (hn : l.length ≤ 1000000) (hl : ByL l) (w : World) (hr : Rd w S A (ints .u8 l)) (hS : ∀ k, S k → k < w.heap.size) :
    Calls Tryz.prog 124 #[.slice none 0 0, .slice A l.length c] w fun e w' => ∃ v ws, e = .returned v ∧ NewN w v ws w' ∧ nv ws = bv l := by
  obtain ⟨n, hna⟩ : ∃ n, n = l.length := ⟨_, rfl⟩
  obtain ⟨m, hma⟩ : ∃ m, m = (n + 7) / 8 := ⟨_, rfl⟩
  rw [← hna] at h0 hc hn ⊢
  have HM := Lib.hid (make_nilp m (by omega) (by omega) w)
  have HN := Lib.hid hna
  have HL := Lib.hid hl
  have HR := Lib.hid hr
  have HS := Lib.hid hS
  have HM' := Lib.hid hma
  have HB := Lib.hid (And.intro h0 hc)
  have e1 : ((n : Int) + 8 - 1).tdiv 8 = (m : Int) := by
    rw [Int.tdiv_eq_ediv_of_nonneg (by omega)]
    omega
  have wm : wrap64 (m : Int) = (m : Int) := by unfold wrap64; omega
  clear hna hr hS hl hma
  go_enter Tryz.func124, Tryz.ntmps124
  go_wp2_with fail
  rw [show wrap64 (m : Int) = (m : Int) from wm]
  refine HM.out.mono ?_
  rintro e w1 ⟨C, rfl, hmC, hwb, hb1⟩
  obtain ⟨b, o, rfl, hSb, hcl⟩ := HR.out (by rw [ints_length, ← HN.out]; exact HB.out.1)
  have HCL : Hid (∀ j, j < n → w.cell? ⟨b, o + j, none⟩ = some (.int .u8 (l[j]?.getD 0))) := Lib.hid fun j hj => hcl j _ (ints_get _ _ _ (by rw [← HN.out]; exact hj))
  have HBL := Lib.hid (HS.out b hSb)
  have hs0 : Hid (SetW w l C n 0 [] w1) := Lib.hid ⟨hb1, rfl, WL.nil, by rw [List.drop_eq_nil_of_le (by rw [HN.out]; exact Nat.le_refl _)]; rfl, by simpa using hwb⟩
  have HMC := Lib.hid hmC
  clear HM hcl hSb hwb hb1 hmC e1 HS HR wm
  go_wp2_with fail
  go_loopw [5, 6] (fun iv kv wr => ∃ (i k : Nat) (ws : List Int), iv = .int .i64 i ∧ kv = .int .i64 k ∧ 8 * k + i = n ∧ Hid (SetW w l C i k ws wr)) (fun iv _ _ => (intOf iv).toNat)
  case atStart => exact ⟨n, 0, [], rfl, rfl, by omega, hs0⟩
  case round =>
    obtain ⟨i, k, ws, rfl, rfl, hik, hs⟩ := hrel
    by_cases h8 : 8 ≤ i
    · obtain ⟨b0, b1, b2, b3, b4, b5, b6, b7, ⟨l0, l1, l2, l3, l4, l5, l6, l7⟩, ⟨x0, x1, x2, x3, x4, x5, x6, x7⟩, hv⟩ := bv_eight (l := l) (i := i - 8) HL.out (by rw [← HN.out]; omega)
      have HX : Hid (∀ W, Below w.heap.size w W → Calls Tryz.prog 138 #[.slice (some ⟨b, o + (i - 8), none⟩) (i - (i - 8)) (c - (i - 8))] W fun e w' => e = .returned (.int .u64 (bv ((l.drop (i - 8)).take 8))) ∧ Below W.heap.size W w') := Lib.hid fun W hW => by
        have g : ∀ j, j < 8 → W.cell? ⟨b, o + (i - 8) + j, none⟩ = some (.int .u8 (l[i - 8 + j]?.getD 0)) := fun j hj => by
          rw [hW.cell HBL.out, Nat.add_assoc]
          exact HCL.out _ (by omega)
        rw [hv]
        exact beWord_any b (o + (i - 8)) (i - (i - 8)) (c - (i - 8)) b0 b1 b2 b3 b4 b5 b6 b7 (by omega) (by have := HB.out.2; omega) l0 l1 l2 l3 l4 l5 l6 l7 W (by have := g 0 (by decide); rw [Nat.add_zero, Nat.add_zero, x0] at this; exact this) (by rw [g 1 (by decide), x1]) (by rw [g 2 (by decide), x2]) (by rw [g 3 (by decide), x3]) (by rw [g 4 (by decide), x4]) (by rw [g 5 (by decide), x5]) (by rw [g 6 (by decide), x6]) (by rw [g 7 (by decide), x7])
      have hkm : k < m := by have := HM'.out; omega
      have hkC : k < C := Nat.lt_of_lt_of_le hkm HMC.out
      obtain ⟨x, hx⟩ : ∃ x, x = bv ((l.drop (i - 8)).take 8) := ⟨_, rfl⟩
      rw [← hx] at HX
      have HXE := Lib.hid hx
      have hin : i ≤ n := by omega
      have w1e : wrap64 ((i : Int) - 8) = ((i - 8 : Nat) : Int) := by unfold wrap64; omega
      clear hx hv x0 x1 x2 x3 x4 x5 x6 x7 l0 l1 l2 l3 l4 l5 l6 l7 hs0
      go_wp2_with fail
      refine (HX.out _ hs.out.lo).mono ?_
      rintro e w3 ⟨rfl, hb3⟩
      have h3 := Lib.hid (hs.out.up hb3)
      have c0 := h3.out.cell hkC
      have f0 := Blk.frozen h3.out.b k
      have HK := Lib.hid hkC
      clear HX hs hb3 hkC
      go_wp2
      go_roundw
      case rel =>
        refine ⟨i - 8, k + 1, ws ++ [x], by go_num, by go_num, by omega, ?_⟩
        rw [HXE.out]
        exact Lib.hid (h3.out.step HK.out (by rw [← HN.out]; exact hik) h8 HL.out)
      case measure => simp [intOf]; omega
    · by_cases hi0 : i = 0
      · subst hi0
        have HG : Hid (C = C ∧ ws.length = m ∧ WL ws ∧ nv ws = bv l ∧ WB wr w.heap.size (ws ++ List.replicate (C - m) 0) ∧ Below w.heap.size w wr) := by
          have hkm : k = m := by have := HM'.out; omega
          have := hs.out
          rw [hkm] at this
          exact Lib.hid ⟨rfl, this.len, this.wl, by simpa using this.v, this.b, this.lo⟩
        clear hs hs0 h8
        go_wp2_with fail
        refine (set_norm HG.out.2.2.2.2.1 HG.out.2.2.2.2.2 HG.out.2.2.1 HG.out.2.1 HMC.out (by have := HM'.out; omega)).mono ?_
        rintro e w3 ⟨v, rfl, hv⟩
        go_wp2
        go_ret
        exact ⟨_, _, rfl, hv, by rw [nv_nrm, HG.out.2.2.2.1]⟩
      · have hipos : 0 < i := Nat.pos_of_ne_zero hi0
        have hkm : k + 1 = m := by have := HM'.out; omega
        clear hs0
        obtain ⟨wo, rfl⟩ : ∃ wo : World, wo = wr := ⟨_, rfl⟩
        go_wp2_with fail
        go_loopw [5, 7, 8] (fun iv dv sv wp => ∃ (j d : Nat), iv = .int .i64 j ∧ dv = .int .u64 d ∧ sv = .int .u64 ((8 * (i - j) : Nat) : Int) ∧ Hid (SetL l i j d) ∧ wp = wo) (fun iv _ _ _ => (intOf iv).toNat)
        case atStart => exact ⟨i, 0, rfl, rfl, by simp, Lib.hid ⟨Nat.le_refl _, by rw [List.drop_eq_nil_of_le (by rw [List.length_take]; omega)]; rfl⟩, rfl⟩
        case round =>
          obtain ⟨j, d, rfl, rfl, rfl, hd, rfl⟩ := hrel
          rcases j with _ | j
          · have hkC : m - 1 < C := by have := HMC.out; omega
            have ek : m - 1 = k := by omega
            have c0 : wr.cell? ⟨w.heap.size, m - 1, none⟩ = some (.int .u64 0) := by rw [ek] at hkC ⊢; exact hs.out.cell hkC
            have f0 := Blk.frozen hs.out.b (m - 1)
            have HG : Hid ((ws ++ [(d : Int)]).length = m ∧ WL (ws ++ [(d : Int)]) ∧ nv (ws ++ [(d : Int)]) = bv l ∧ WB (wr.setCell ⟨w.heap.size, m - 1, none⟩ (.int .u64 d)) w.heap.size ((ws ++ [(d : Int)]) ++ List.replicate (C - m) 0) ∧ Below w.heap.size w (wr.setCell ⟨w.heap.size, m - 1, none⟩ (.int .u64 d))) := by
              rw [ek] at hkC ⊢
              have hp := hs.out.put hkC (d : Int)
              have hv : (d : Int) = bv (l.take i) := hd.out.v
              have hb := word_bd (HL.out.take i) (by rw [List.length_take]; omega)
              rw [hkm] at hp
              refine Lib.hid ⟨by simp [hs.out.len, hkm], hs.out.wl.app (WL.one (by omega) (by omega)), ?_, hp.2, hp.1⟩
              rw [hv]
              exact word_last hs.out.len (by rw [← HN.out]; exact hik) hs.out.v
            clear hs hd ek hkC
            go_wp2_with fail
            refine (set_norm HG.out.2.2.2.1 HG.out.2.2.2.2 HG.out.2.1 HG.out.1 HMC.out (by have := HM'.out; omega)).mono ?_
            rintro e w3 ⟨v, rfl, hv⟩
            go_wp2
            go_ret
            exact ⟨_, _, rfl, hv, by rw [nv_nrm, HG.out.2.2.1]⟩
          · have hle := hd.out.le
            have bb := HL.out.at_ j
            obtain ⟨x, hx⟩ := Int.eq_ofNat_of_zero_le bb.1
            obtain ⟨s, hs'⟩ : ∃ s, s = 8 * (i - (j + 1)) := ⟨_, rfl⟩
            have hst := hd.out.step HL.out (by omega) (by have := HN.out; omega) hx
            have c0 := (hs.out.lo.cell (p := ⟨b, o + j, none⟩) HBL.out).trans (HCL.out j (by omega))
            rw [hx] at c0
            rw [← hs'] at hst ⊢
            have hs56 : s ≤ 48 := by omega
            have f1 := or_sh d x s hst.2.1 (by omega) hst.2.2
            have m1 : min s 64 = s := by omega
            have f5 : IntKind.u64.wrap ((x : Int) * 2 ^ s) = ((x * 2 ^ s : Nat) : Int) := by
              have h56 : 2 ^ s ≤ 2 ^ 56 := Nat.pow_le_pow_right (by decide) (by omega)
              have h1 : x * 2 ^ s ≤ 255 * 2 ^ 56 := Nat.mul_le_mul (by have := hst.2.2; omega) h56
              rw [show (x : Int) * 2 ^ s = ((x * 2 ^ s : Nat) : Int) by simp]
              exact wrapN (by omega)
            have hjn : j < n := by omega
            have HST := Lib.hid hst
            have HSE := Lib.hid hs'
            have wx : IntKind.u64.wrap (x : Int) = (x : Int) := wrapN (by have := hst.2.2; omega)
            clear hst bb hx hs'
            go_wp2_with fail
            refine ⟨⟨j, d + x * 2 ^ s, rfl, by rw [← f1]; simp, ?_, Lib.hid HST.out.1, trivial⟩, by simp [intOf]⟩
            rw [HSE.out]
            congr 1
            omega

theorem setBytes_zero (A : Option Addr) (c : Nat) (w : World) :
    Calls Tryz.prog 124 #[.slice none 0 0, .slice A 0 c] w fun e w' => ∃ v ws, e = .returned v ∧ NewN w v ws w' ∧ nv ws = bv [] := by
  have HM := Lib.hid (make_nil0 w)
  have HN := Lib.hid (norm_any (fun _ => False) none 0 [] (Nat.le_refl _) (by decide) w (Rd.nil _ _ _))
  go_enter Tryz.func124, Tryz.ntmps124
  go_wp2_with fail
  refine HM.out.mono ?_
  rintro e w1 ⟨rfl, rfl⟩
  go_wp2_with fail
  go_loopw [5, 6] (fun iv kv wr => iv = .int .i64 0 ∧ wr = w) (fun iv _ _ => (intOf iv).toNat)
  case atStart => exact ⟨rfl, rfl⟩
  case round =>
    obtain ⟨rfl, rfl⟩ := hrel
    go_wp2_with fail
    refine HN.out.mono ?_
    rintro e w1 ⟨rfl, rfl⟩
    go_wp2
    go_ret
    exact ⟨_, [], rfl, NewN.nil _, rfl⟩

theorem setBytes_any (S : Nat → Prop) (v : Value) (l : List Int) (hn : l.length ≤ 1000000) (hl : ByL l) (w : World) (h : SlV w S .u8 v l) (hS : ∀ k, S k → k < w.heap.size) :
    Calls Tryz.prog 124 #[.slice none 0 0, v] w fun e w' => ∃ v ws, e = .returned v ∧ NewN w v ws w' ∧ nv ws = bv l := by
  obtain ⟨A, c, rfl, hc, hr⟩ := h
  by_cases h0 : l = []
  · subst h0
    exact setBytes_zero A c w
  · exact setBytes_pos S A c l (List.length_pos_iff.2 h0) hc hn hl w hr hS
end Go.Proofs.YtloloifngbmibaaGreatDoor
set_option linter.unusedVariables false
set_option linter.unusedSimpArgs false
set_option maxRecDepth 4000
namespace Go.Proofs.YtloloifngbmibaaGreatDoor
open Go.RowKit

theorem neq_ptr_same {P : Program} (w : World) {tp te : TypeId} {j : TypeInfo} (a : Addr) (hp : P.underlying tp = some (.pointer te)) (hte : P.info? te = some j) :
    (binOp .neq tp (.pointer (some a)) (.pointer (some a))).run P w = .ok (.bool false) w := by
  have h : ∀ d : Nat, (Op.equalIn (d + 1) tp (.pointer (some a)) (.pointer (some a))).run P w = .ok true w := fun d => by
    simp [Op.equalIn, run_underlying hp, sizeOf, typeInfo, hte, run_sameAddr_same]
  simp only [binOp]
  simp [Op.equal, Op.maxDepth, h 9999]

theorem info_big : ∃ j, Tryz.prog.info? 189 = some j := ⟨_, rfl⟩

theorem setSelf_any (g : Nat) (w : World) :
    Calls Tryz.prog 114 #[.pointer (some ⟨g, 0, none⟩), .pointer (some ⟨g, 0, none⟩)] w fun e w' => e = .returned (.pointer (some ⟨g, 0, none⟩)) ∧ w' = w := by
  obtain ⟨j, hj⟩ := info_big
  have hne : ∀ W : World, (binOp .neq 113 (.pointer (some ⟨g, 0, none⟩)) (.pointer (some ⟨g, 0, none⟩))).run Tryz.prog W = .ok (.bool false) W := fun W => neq_ptr_same W _ Tryz.underlying113 hj
  go_enter Tryz.func114, Tryz.ntmps114
  go_wp2
  go_ret
  exact ⟨rfl, rfl⟩

theorem negSelf_any (S : Nat → Prop) (g : Nat) (v : Value) (ws : List Int) (w : World) (hb : Blk w g 189 #[.bool false, v]) (hv : SlV w S .u64 v ws) :
    Calls Tryz.prog 109 #[.pointer (some ⟨g, 0, none⟩), .pointer (some ⟨g, 0, none⟩)] w fun e w' => e = .returned (.pointer (some ⟨g, 0, none⟩)) ∧ w' = w.setCell ⟨g, 0, none⟩ (.bool (decide (ws ≠ []))) := by
  have HC := Lib.hid (fun w => setSelf_any g w)
  obtain ⟨A, c, rfl, hc, _⟩ := hv
  have c0 := hb.cell 0
  have c1 := hb.cell 1
  have f0 := hb.frozen 0
  simp at c0 c1
  by_cases h : ws = []
  · subst h
    clear hb hc
    go_enter Tryz.func109, Tryz.ntmps109
    go_wp2_with fail
    refine (HC.out _).mono ?_
    rintro e w1 ⟨rfl, rfl⟩
    go_wp2
    go_ret
    exact ⟨rfl, by simp⟩
  · have hl : 0 < ws.length := List.length_pos_iff.2 h
    obtain ⟨n, hn⟩ : ∃ n, n = ws.length := ⟨_, rfl⟩
    rw [← hn] at hl c1
    have e1 : decide (ws ≠ []) = true := decide_eq_true h
    rw [e1]
    clear hb hc hn h e1
    go_enter Tryz.func109, Tryz.ntmps109
    go_wp2_with fail
    refine (HC.out _).mono ?_
    rintro e w1 ⟨rfl, rfl⟩
    go_wp2
    go_ret
    exact ⟨rfl, rfl⟩

/-- A magnitude in new blocks beside a number's block. -/
theorem setBytesI (S : Nat → Prop) (g : Nat) (v : Value) (l : List Int) (hn : l.length ≤ 1000000) (hl : ByL l) (w : World) (hb : Blk w g 189 #[.bool false, .slice none 0 0]) (h : SlV w S .u8 v l) (hS : ∀ k, S k → k < w.heap.size) :
    Calls Tryz.prog 108 #[.pointer (some ⟨g, 0, none⟩), v] w fun e w' => e = .returned (.pointer (some ⟨g, 0, none⟩)) ∧ ∃ u ws, Blk w' g 189 #[.bool false, u] ∧ SlV w' (Nw w w') .u64 u ws ∧ WL ws ∧ Nrm ws ∧ nv ws = bv l ∧ But (fun k => k = g) w w' := by
  have HC := Lib.hid (setBytes_any S v l hn hl w h hS)
  obtain ⟨A, c, rfl, hc, _⟩ := h
  have c0 := hb.cell 0
  have c1 := hb.cell 1
  simp at c0 c1
  have HB := Lib.hid hb
  clear hb hc hS
  go_enter Tryz.func108, Tryz.ntmps108
  go_wp2_with fail
  refine HC.out.mono ?_
  rintro e w1 ⟨u, ws, rfl, ⟨hu, hb1, hwl, hnr⟩, hv⟩
  obtain ⟨Au, cu, rfl, hcu, hru⟩ := id hu
  have hb2 := HB.out.below hb1 HB.out.lt
  have d0 := hb2.cell 0
  have d1 := hb2.cell 1
  have f0 := hb2.frozen 0
  have f1 := hb2.frozen 1
  simp at d0 d1
  have HB2 := Lib.hid hb2
  have HU := Lib.hid hu
  have HBB := Lib.hid hb1
  have hgl := HB.out.lt
  clear hb2 hu hb1 c0 c1 hcu hru
  go_wp2
  go_ret
  refine ⟨rfl, .slice Au ws.length cu, ws, ?_, ?_, hwl, hnr, hv, ?_⟩
  · have := (HB2.out.set 1 (.slice Au ws.length cu)).set 0 (.bool false)
    simpa using this
  · have hne : ∀ k, Nw w w1 k → k ≠ g := fun k hk e => by have := hk.1; omega
    exact (HU.out.keep (((Still.refl _ w1).set (p := ⟨g, 1, none⟩) hne _).set (p := ⟨g, 0, none⟩) hne _)).mono (fun k hk => ⟨hk.1, by simpa using hk.2⟩)
  · exact ((But.of_below (T := fun k => k = g) HBB.out).set (p := ⟨g, 1, none⟩) rfl _).set (p := ⟨g, 0, none⟩) rfl _
end Go.Proofs.YtloloifngbmibaaGreatDoor
set_option linter.unusedVariables false
set_option linter.unusedSimpArgs false
set_option maxRecDepth 4000
namespace Go.Proofs.YtloloifngbmibaaGreatDoor
open Go.RowKit

/-- One smear of a word to its right. -/
theorem smear {t n k : Nat} (h : 2 ^ n ≤ t ∧ t < 2 ^ (n + 1)) (hn : n < 64) : ∃ u : Nat, bits .or .u64 (t : Int) ((t / 2 ^ k : Nat) : Int) = (u : Int) ∧ 2 ^ n ≤ u ∧ u < 2 ^ (n + 1) := by
  have h64 : 2 ^ (n + 1) ≤ 2 ^ 64 := Nat.pow_le_pow_right (by decide) (by omega)
  have hd : t / 2 ^ k ≤ t := Nat.div_le_self _ _
  refine ⟨t ||| t / 2 ^ k, bits_or_u64_nat t (t / 2 ^ k) (by omega) (by omega), ?_, Nat.or_lt_two_pow h.2 (by omega)⟩
  exact Nat.le_trans h.1 Nat.left_le_or

theorem len_of {t n : Nat} (h : 2 ^ n ≤ t ∧ t < 2 ^ (n + 1)) (hn : n < 64) : Lib.bitLen t = n + 1 := by
  have h64 : 2 ^ (n + 1) ≤ 2 ^ 64 := Nat.pow_le_pow_right (by decide) (by omega)
  have hp : 0 < 2 ^ n := Nat.pow_pos (by decide)
  have hb := Lib.bitLenAux_bounds 64 t (by omega) (by omega)
  have e : Lib.bitLen t = Lib.bitLenAux 64 t := rfl
  rw [← e] at hb
  by_cases h1 : Lib.bitLen t ≤ n
  · have := Nat.pow_le_pow_right (n := 2) (by decide) h1
    omega
  · by_cases h2 : n + 1 < Lib.bitLen t
    · have := Nat.pow_le_pow_right (n := 2) (j := Lib.bitLen t - 1) (by decide) (show n + 1 ≤ Lib.bitLen t - 1 by omega)
      omega
    · omega
theorem log_of {x : Nat} (h0 : 0 < x) (h1 : x < 18446744073709551616) : ∃ n, n < 64 ∧ 2 ^ n ≤ x ∧ x < 2 ^ (n + 1) := by
  have hb := Lib.bitLenAux_bounds 64 x h1 (by omega)
  have hl := Lib.bitLenAux_le 64 x 64 h1
  refine ⟨Lib.bitLenAux 64 x - 1, by omega, hb.2.1, ?_⟩
  rw [show Lib.bitLenAux 64 x - 1 + 1 = Lib.bitLenAux 64 x by omega]
  exact hb.2.2

/-- The bits of a magnitude. -/
theorem nv_bits {ws : List Int} {m x n : Nat} (hw : WL ws) (hl : ws.length = m + 1) (hx : ws[m]?.getD 0 = x) (h : 2 ^ n ≤ x ∧ x < 2 ^ (n + 1)) : (2 : Int) ^ (m * 64 + n) ≤ nv ws ∧ nv ws < 2 ^ (m * 64 + n + 1) := by
  have e1 : ws = ws.take m ++ [(x : Int)] := by
    have := take_snoc (xs := ws) (k := m) (by omega)
    rw [hx, ← hl, List.take_length] at this
    exact this
  have h1 := nv_lt (hw.take m)
  have h0 := nv_nonneg (hw.take m)
  rw [List.length_take, Nat.min_eq_left (by omega)] at h1
  have e2 : nv ws = nv (ws.take m) + 18446744073709551616 ^ m * (x : Int) := by
    conv => lhs; rw [e1]
    rw [nv_snoc, List.length_take, Nat.min_eq_left (by omega)]
  have e3 : (18446744073709551616 : Int) ^ m = 2 ^ (m * 64) := by
    rw [Nat.mul_comm, Int.pow_mul]
    rfl
  have hp : (0 : Int) < 2 ^ (m * 64) := Int.pow_pos (by decide)
  have h2 : (2 : Int) ^ n ≤ x := by exact_mod_cast h.1
  have h3 : (x : Int) + 1 ≤ 2 ^ (n + 1) := by exact_mod_cast h.2
  have h4 := Int.mul_le_mul_of_nonneg_left h2 (Int.le_of_lt hp)
  have h5 := Int.mul_le_mul_of_nonneg_left h3 (Int.le_of_lt hp)
  rw [e3] at h1 e2
  rw [e2, show m * 64 + n + 1 = m * 64 + (n + 1) by omega, Int.pow_add, Int.pow_add]
  rw [Int.mul_add, Int.mul_one] at h5
  omega

/-- What bitLen tells. -/
def LenOf (ws : List Int) (r : Nat) : Prop := (ws = [] → r = 0) ∧ nv ws < 2 ^ r ∧ (ws ≠ [] → 0 < r ∧ (2 : Int) ^ (r - 1) ≤ nv ws)

theorem bitLen_any (S : Nat → Prop) (A : Option Addr) (c : Nat) (ws : List Int) (hn : ws.length ≤ 1000000) (hw : WL ws) (hr : Nrm ws) (w : World) (h : Rd w S A (ints .u64 ws)) :
    Calls Tryz.prog 143 #[.slice A ws.length c] w fun e w' => ∃ r : Nat, e = .returned (.int .i64 r) ∧ LenOf ws r ∧ w' = w := by
  by_cases h0 : ws = []
  · subst h0
    go_enter Tryz.func143, Tryz.ntmps143
    go_wp2
    go_ret
    exact ⟨0, rfl, ⟨fun _ => rfl, by simp [nv], fun h => absurd rfl h⟩, rfl⟩
  · obtain ⟨m, hm⟩ : ∃ m, ws.length = m + 1 := ⟨ws.length - 1, by have := List.length_pos_iff.2 h0; omega⟩
    obtain ⟨b, o, rfl, hSb, hc⟩ := rd_int h (j := m) (by omega)
    have hx := hw.at_ m
    obtain ⟨x, hxe⟩ := Int.eq_ofNat_of_zero_le hx.1
    rw [hxe] at hc hx
    have hx0 : 0 < x := by
      have h1 := nv_ge hw hr m hm
      refine Nat.pos_of_ne_zero fun hz => ?_
      have e1 : ws = ws.take m ++ [(x : Int)] := by
        have := take_snoc (xs := ws) (k := m) (by omega)
        rw [hxe, ← hm, List.take_length] at this
        exact this
      have h2 := nv_lt (hw.take m)
      rw [List.length_take, Nat.min_eq_left (by omega)] at h2
      rw [e1, nv_snoc, hz] at h1
      simp at h1
      omega
    obtain ⟨n, hn64, hlog⟩ := log_of hx0 (by omega)
    have HN := Lib.hid (nv_bits hw hm hxe hlog)
    obtain ⟨x1, e1, l1⟩ := smear (k := 1) hlog hn64
    obtain ⟨x2, e2, l2⟩ := smear (k := 2) l1 hn64
    obtain ⟨x3, e3, l3⟩ := smear (k := 4) l2 hn64
    obtain ⟨x4, e4, l4⟩ := smear (k := 8) l3 hn64
    obtain ⟨x5, e5, l5⟩ := smear (k := 16) l4 hn64
    obtain ⟨x6, e6, l6⟩ := smear (k := 32) l5 hn64
    have h6 : 2 ^ (n + 1) ≤ 2 ^ 64 := Nat.pow_le_pow_right (by decide) (by omega)
    have HL := Lib.hid (fun w => Tryz.bits_Len (x6 : Int) w (by omega) (by omega))
    rw [show ((x6 : Int)).toNat = x6 from rfl, len_of l6 hn64] at HL
    have d1 : bits .or .u64 (x : Int) ((x : Int) / 2) = (x1 : Int) := by rw [← e1]; rfl
    have d2 : bits .or .u64 (x1 : Int) ((x1 : Int) / 4) = (x2 : Int) := by rw [← e2]; rfl
    have d3 : bits .or .u64 (x2 : Int) ((x2 : Int) / 16) = (x3 : Int) := by rw [← e3]; rfl
    have d4 : bits .or .u64 (x3 : Int) ((x3 : Int) / 256) = (x4 : Int) := by rw [← e4]; rfl
    have d5 : bits .or .u64 (x4 : Int) ((x4 : Int) / 65536) = (x5 : Int) := by rw [← e5]; rfl
    have d6 : bits .or .u64 (x5 : Int) ((x5 : Int) / 65536 / 65536) = (x6 : Int) := by
      rw [← e6, Int.ediv_ediv_of_nonneg (by decide)]
      rfl
    rw [hm] at hn ⊢
    have HE := Lib.hid h0
    clear e1 e2 e3 e4 e5 e6 l1 l2 l3 l4 l5 l6 hlog hx hxe hx0 h h0 hw hr h6 hm
    go_enter Tryz.func143, Tryz.ntmps143
    go_wp2_with fail
    refine (HL.out _).mono ?_
    rintro e w1 ⟨rfl, rfl⟩
    have ew : (m : Int) * 64 + ((n + 1 : Nat) : Int) = ((m * 64 + n + 1 : Nat) : Int) := by omega
    have hb : m * 64 + n + 1 ≤ 9223372036854775807 := by omega
    go_wp2
    go_ret
    refine ⟨m * 64 + n + 1, by rw [← ew]; rfl, ⟨fun h => absurd h HE.out, HN.out.2, fun _ => ⟨by omega, HN.out.1⟩⟩, rfl⟩

theorem bitLenI (S : Nat → Prop) (b o : Nat) (neg : Bool) (ws : List Int) (hn : ws.length ≤ 1000000) (hw : WL ws) (hr : Nrm ws) (w : World) (h : BigV w S b o neg ws) :
    Calls Tryz.prog 130 #[.pointer (some ⟨b, o, none⟩)] w fun e w' => ∃ r : Nat, e = .returned (.int .i64 r) ∧ LenOf ws r ∧ w' = w := by
  obtain ⟨v, hSb, c0, c1, A, c, rfl, hc, hr'⟩ := h
  have HC := Lib.hid (bitLen_any S A c ws hn hw hr w hr')
  clear hn hw hr hr' hc
  go_enter Tryz.func130, Tryz.ntmps130
  go_wp2_with fail
  refine HC.out.mono ?_
  rintro e w1 ⟨r, rfl, hL, rfl⟩
  go_wp2
  go_ret
  exact ⟨r, rfl, hL, rfl⟩

theorem nv_mod {ws : List Int} (hw : WL ws) : nv ws % 18446744073709551616 = ws[0]?.getD 0 := by
  cases ws with
  | nil => rfl
  | cons x xs =>
    have h := (WL.cons.1 hw).1
    simp only [nv, List.getElem?_cons_zero, Option.getD_some]
    omega
theorem low64_any (S : Nat → Prop) (A : Option Addr) (c : Nat) (ws : List Int) (hw : WL ws) (w : World) (h : Rd w S A (ints .u64 ws)) :
    Calls Tryz.prog 140 #[.slice A ws.length c] w fun e w' => e = .returned (.int .u64 (nv ws % 18446744073709551616)) ∧ w' = w := by
  rw [nv_mod hw]
  by_cases h0 : ws = []
  · subst h0
    go_enter Tryz.func140, Tryz.ntmps140
    go_wp2
    go_ret
    exact ⟨rfl, rfl⟩
  · have hl := List.length_pos_iff.2 h0
    obtain ⟨b, o, rfl, hSb, hc⟩ := rd_int h (j := 0) hl
    obtain ⟨m, hm⟩ : ∃ m, m = ws.length := ⟨_, rfl⟩
    obtain ⟨x, hx⟩ : ∃ x, x = ws[0]?.getD 0 := ⟨_, rfl⟩
    rw [← hm] at hl ⊢
    rw [← hx] at hc ⊢
    rw [Nat.add_zero] at hc
    have hm0 : ¬ m = 0 := by omega
    clear h h0 hw hm hx
    go_enter Tryz.func140, Tryz.ntmps140
    go_wp2
    go_ret
    exact ⟨rfl, rfl⟩

theorem w64 (x : Int) : IntKind.i64.wrap x = wrap64 x := by
  rw [IntKind.wrap_i64]
  unfold wrap64
  omega
/-- What a number is worth. -/
def wv (neg : Bool) (ws : List Int) : Int := if neg then -(nv ws) else nv ws

theorem int64_any (S : Nat → Prop) (b o : Nat) (neg : Bool) (ws : List Int) (hw : WL ws) (w : World) (h : BigV w S b o neg ws) :
    Calls Tryz.prog 126 #[.pointer (some ⟨b, o, none⟩)] w fun e w' => e = .returned (.int .i64 (IntKind.i64.wrap (wv neg ws))) ∧ w' = w := by
  obtain ⟨v, hSb, c0, c1, A, c, rfl, hc, hr'⟩ := h
  have HC := Lib.hid (low64_any S A c ws hw w hr')
  have HW : Hid (IntKind.i64.wrap (wv neg ws) = if neg then IntKind.i64.wrap (-(IntKind.i64.wrap (nv ws % 18446744073709551616))) else IntKind.i64.wrap (nv ws % 18446744073709551616)) := by
    show _ = _
    unfold wv
    cases neg <;> simp only [IntKind.wrap_i64, if_true, if_false, Bool.false_eq_true] <;> omega
  obtain ⟨y, hy⟩ : ∃ y, y = nv ws % 18446744073709551616 := ⟨_, rfl⟩
  obtain ⟨z, hz⟩ : ∃ z, z = IntKind.i64.wrap y := ⟨_, rfl⟩
  rw [← hy] at HC HW
  rw [← hz] at HW
  have HZ := Lib.hid hz
  clear hw hr' hc hy hz
  cases neg
  · go_enter Tryz.func126, Tryz.ntmps126
    go_wp2_with fail
    refine HC.out.mono ?_
    rintro e w1 ⟨rfl, rfl⟩
    go_wp2
    go_ret
    exact ⟨by rw [HW.out, HZ.out]; simp only [Bool.false_eq_true, if_false, if_true, w64]; rfl, rfl⟩
  · go_enter Tryz.func126, Tryz.ntmps126
    go_wp2_with fail
    refine HC.out.mono ?_
    rintro e w1 ⟨rfl, rfl⟩
    go_wp2
    go_ret
    exact ⟨by rw [HW.out, HZ.out]; simp only [Bool.false_eq_true, if_false, if_true, w64]; rfl, rfl⟩

theorem uint64_any (S : Nat → Prop) (b o : Nat) (neg : Bool) (ws : List Int) (hw : WL ws) (w : World) (h : BigV w S b o neg ws) :
    Calls Tryz.prog 131 #[.pointer (some ⟨b, o, none⟩)] w fun e w' => e = .returned (.int .u64 (nv ws % 18446744073709551616)) ∧ w' = w := by
  obtain ⟨v, hSb, c0, c1, A, c, rfl, hc, hr'⟩ := h
  have HC := Lib.hid (low64_any S A c ws hw w hr')
  clear hw hr' hc
  go_enter Tryz.func131, Tryz.ntmps131
  go_wp2_with fail
  refine HC.out.mono ?_
  rintro e w1 ⟨rfl, rfl⟩
  go_wp2
  go_ret
  exact ⟨rfl, rfl⟩
end Go.Proofs.YtloloifngbmibaaGreatDoor
set_option linter.unusedVariables false
set_option maxRecDepth 4000
namespace Go.Proofs.YtloloifngbmibaaGreatDoor
open Go.RowKit

def iv (neg : Bool) (l : List Int) : Int := if neg then -(bv l) else bv l
def sgnc (x y : Int) : Int := if x < y then -1 else if x = y then 0 else 1
theorem sgnc_self (x : Int) : sgnc x x = 0 := by simp [sgnc]
theorem sgnc_lt {x y : Int} (h : x < y) : sgnc x y = -1 := by unfold sgnc; rw [if_pos h]
theorem sgnc_gt {x y : Int} (h : y < x) : sgnc x y = 1 := by unfold sgnc; rw [if_neg (by omega), if_neg (by omega)]
theorem sgnc_congr {x y x' y' : Int} (h : (x < y ↔ x' < y') ∧ (x = y ↔ x' = y')) : sgnc x y = sgnc x' y' := by
  rcases Int.lt_trichotomy x y with h1 | h1 | h1
  · rw [sgnc_lt h1, sgnc_lt (h.1.1 h1)]
  · rw [h1, h.2.1 h1, sgnc_self, sgnc_self]
  · have h2 : ¬ x' < y' := fun h3 => by have := h.1.2 h3; omega
    have h3 : ¬ x' = y' := fun h3 => by have := h.2.2 h3; omega
    rw [sgnc_gt h1, sgnc_gt (by omega)]
theorem sgnc_eq0 {x y : Int} (h : sgnc x y = 0) : x = y := by
  rcases Int.lt_trichotomy x y with h1 | h1 | h1
  · rw [sgnc_lt h1] at h; simp at h
  · exact h1
  · rw [sgnc_gt h1] at h; simp at h
theorem pw256 {a b : Nat} (h : a ≤ b) : (256 : Int) ^ a ≤ 256 ^ b := by
  obtain ⟨k, rfl⟩ := Nat.exists_eq_add_of_le h
  rw [Int.pow_add]
  have hp : (0 : Int) < 256 ^ a := Int.pow_pos (by decide)
  have hq : (0 : Int) < 256 ^ k := Int.pow_pos (by decide)
  have := Int.mul_le_mul_of_nonneg_left (show (1 : Int) ≤ 256 ^ k by omega) (show (0 : Int) ≤ 256 ^ a by omega)
  omega
theorem cmpL_bv : ∀ {a b : List Int}, a.length = b.length → ByL a → ByL b → cmpL a b = sgnc (bv a) (bv b)
  | [], [], _, _, _ => rfl
  | x :: xs, y :: ys, hl, ha, hb => by
    have hl' : xs.length = ys.length := by simpa using hl
    have h1 := bv_bd (ByL.cons.1 ha).2
    have h2 := bv_bd (ByL.cons.1 hb).2
    have hp : (0 : Int) < 256 ^ ys.length := Int.pow_pos (by decide)
    have ih := cmpL_bv hl' (ByL.cons.1 ha).2 (ByL.cons.1 hb).2
    rw [hl'] at h1
    simp only [cmpL, bv, hl']
    by_cases hxy : x = y
    · subst hxy
      rw [if_pos rfl, ih]
      exact sgnc_congr ⟨by omega, by omega⟩
    · rw [if_neg hxy]
      by_cases h3 : x < y
      · have := Int.mul_le_mul_of_nonneg_right (show x + 1 ≤ y by omega) (show (0 : Int) ≤ 256 ^ ys.length by omega)
        rw [Int.add_mul] at this
        rw [if_pos h3, sgnc_lt (by omega)]
      · have := Int.mul_le_mul_of_nonneg_right (show y + 1 ≤ x by omega) (show (0 : Int) ≤ 256 ^ ys.length by omega)
        rw [Int.add_mul] at this
        rw [if_neg h3, sgnc_gt (by omega)]
  | [], _ :: _, hl, _, _ => by simp at hl
  | _ :: _, [], hl, _, _ => by simp at hl
theorem short_lt {a b : List Int} (ha : ByL a) (hb : ByL b) (lb : Lead b) (h : a.length < b.length) : bv a < bv b := by
  have h1 := (bv_bd ha).2
  have h2 := bv_pos hb lb (by rintro rfl; simp at h)
  have h3 := pw256 (show a.length ≤ b.length - 1 by omega)
  omega
theorem ordL_bv {a b : List Int} (ha : ByL a) (hb : ByL b) (la : Lead a) (lb : Lead b) : ordL a b = sgnc (bv a) (bv b) := by
  unfold ordL
  by_cases h : a.length = b.length
  · rw [if_pos h, cmpL_bv h ha hb]
  · rw [if_neg h]
    unfold sgnc
    by_cases h1 : a.length < b.length
    · rw [if_pos h1, if_pos (short_lt ha hb lb h1)]
    · have := short_lt hb ha la (by omega : b.length < a.length)
      rw [if_neg h1, if_neg (by omega), if_neg (by omega)]
theorem bv_ne {a : List Int} (ha : ByL a) (la : Lead a) (h : a.length ≠ 0) : 0 < bv a := by
  have h2 := bv_pos ha la (by rintro rfl; simp at h)
  have hp : (0 : Int) < 256 ^ (a.length - 1) := Int.pow_pos (by decide)
  omega
theorem cmpI_iv {n1 n2 : Bool} {a b : List Int} (ha : ByL a) (hb : ByL b) (la : Lead a) (lb : Lead b) (h1 : n1 = true → a ≠ []) (h2 : n2 = true → b ≠ []) : cmpI n1 a n2 b = sgnc (iv n1 a) (iv n2 b) := by
  have key : ∀ {n : Bool} {l : List Int}, ByL l → Lead l → (n = true → l ≠ []) → (sgI n l.length = if iv n l < 0 then -1 else if iv n l = 0 then 0 else 1) := by
    intro n l hl ll hn
    unfold sgI iv
    by_cases h0 : l.length = 0
    · have : l = [] := List.eq_nil_of_length_eq_zero h0
      subst this
      cases n
      · simp [bv]
      · exact absurd rfl (hn rfl)
    · have hp := bv_ne hl ll h0
      rw [if_neg h0]
      cases n
      · simp only [Bool.false_eq_true, if_false]
        rw [if_neg (by omega), if_neg (by omega)]
      · simp only [if_true]
        rw [if_pos (by omega)]
  have k1 := key ha la h1
  have k2 := key hb lb h2
  have b1 := (bv_bd ha).1
  have b2 := (bv_bd hb).1
  have hcase : ∀ {n : Bool} {l : List Int}, ByL l → Lead l → (n = true → l ≠ []) → (n = true ∧ iv n l < 0) ∨ (n = false ∧ 0 ≤ iv n l) := by
    intro n l hl ll hn
    cases n
    · exact .inr ⟨rfl, (bv_bd hl).1⟩
    · have h0 : l.length ≠ 0 := fun h => hn rfl (List.eq_nil_of_length_eq_zero h)
      have := bv_ne hl ll h0
      exact .inl ⟨rfl, by unfold iv; rw [if_pos rfl]; omega⟩
  have c1 := hcase ha la h1
  have c2 := hcase hb lb h2
  unfold cmpI
  rw [k1, k2]
  rcases c1 with ⟨rfl, x0⟩ | ⟨rfl, x0⟩ <;> rcases c2 with ⟨rfl, y0⟩ | ⟨rfl, y0⟩
  · rw [if_pos x0, if_pos y0, if_pos rfl, if_pos rfl, ordL_bv hb ha lb la]
    unfold iv
    rw [if_pos rfl, if_pos rfl]
    exact sgnc_congr ⟨by omega, by omega⟩
  · rw [sgnc_lt (show iv true a < iv false b by omega), if_pos x0, if_neg (show ¬ iv false b < 0 by omega)]
    by_cases y1 : iv false b = 0
    · rw [if_pos y1]; simp
    · rw [if_neg y1]; simp
  · rw [sgnc_gt (show iv true b < iv false a by omega), if_pos y0, if_neg (show ¬ iv false a < 0 by omega)]
    by_cases y1 : iv false a = 0
    · rw [if_pos y1]; simp
    · rw [if_neg y1]; simp
  · rw [if_neg (show ¬ iv false a < 0 by omega), if_neg (show ¬ iv false b < 0 by omega)]
    by_cases x1 : iv false a = 0 <;> by_cases y1 : iv false b = 0
    · rw [if_pos x1, if_pos y1, if_pos rfl, if_neg (by simp), ordL_bv ha hb la lb]
      rfl
    · rw [if_pos x1, if_neg y1, sgnc_lt (show iv false a < iv false b by omega)]
      simp
    · rw [if_neg x1, if_pos y1, sgnc_gt (show iv false b < iv false a by omega)]
      simp
    · rw [if_neg x1, if_neg y1, if_pos rfl, if_neg (by simp), ordL_bv ha hb la lb]
      rfl

/-- Digits of the base 256, the lowest first. -/
def dv : List Int → Int
  | [] => 0
  | d :: ds => d + 256 * dv ds
theorem dv_app : ∀ (xs ys : List Int), dv (xs ++ ys) = dv xs + 256 ^ xs.length * dv ys
  | [], ys => by simp [dv]
  | x :: xs, ys => by
    simp only [List.cons_append, dv, dv_app xs ys, List.length_cons, Int.pow_succ, Int.mul_add]
    rw [Int.mul_comm (256 ^ xs.length) 256, Int.mul_assoc]
    omega
theorem dv_rev : ∀ (xs : List Int), dv xs.reverse = bv xs
  | [] => rfl
  | x :: xs => by
    rw [List.reverse_cons, dv_app, dv_rev xs, List.length_reverse]
    simp only [dv, bv, Int.mul_zero, Int.add_zero]
    rw [Int.mul_comm x]
    omega
theorem dv_bd {xs : List Int} (h : ByL xs) : 0 ≤ dv xs ∧ dv xs < 256 ^ xs.length := by
  have h1 : ByL xs.reverse := fun x hx => h x (List.mem_reverse.1 hx)
  have h2 := bv_bd h1
  rw [← dv_rev, List.reverse_reverse, List.length_reverse] at h2
  exact h2
theorem dv_take (xs : List Int) (k : Nat) : dv (xs.take (k + 1)) = dv (xs.take k) + (xs[k]?.getD 0) * 256 ^ k := by
  by_cases hk : k < xs.length
  · rw [List.take_succ_eq_append_getElem hk, dv_app, List.length_take, Nat.min_eq_left (by omega)]
    simp only [dv, Int.mul_zero, Int.add_zero, hk, List.getElem?_eq_getElem, Option.getD_some]
    rw [Int.mul_comm]
  · rw [List.take_of_length_le (by omega), List.take_of_length_le (by omega), List.getElem?_eq_none (by omega)]
    simp
theorem dv_zeros : ∀ (n : Nat), dv (List.replicate n 0) = 0
  | 0 => rfl
  | n + 1 => by simp [List.replicate_succ, dv, dv_zeros n]
theorem dv_set : ∀ (xs : List Int) (j : Nat) (v : Int), j < xs.length → dv (xs.set j v) = dv xs + (v - xs[j]?.getD 0) * 256 ^ j
  | [], j, v, h => by simp at h
  | x :: xs, 0, v, h => by simp [dv]; omega
  | x :: xs, j + 1, v, h => by
    have ih := dv_set xs j v (by simpa using h)
    simp only [List.set_cons_succ, dv, ih, List.getElem?_cons_succ, Int.pow_succ, Int.mul_add]
    rw [Int.mul_comm 256 ((v - xs[j]?.getD 0) * 256 ^ j), Int.mul_assoc]
    omega
theorem ByL.set {xs : List Int} (h : ByL xs) (k : Nat) {x : Int} (h0 : 0 ≤ x) (h1 : x < 256) : ByL (xs.set k x) := fun y hy => by
  rcases List.mem_or_eq_of_mem_set hy with hy | rfl
  · exact h y hy
  · exact ⟨h0, h1⟩
theorem ByL.zeros (n : Nat) : ByL (List.replicate n 0) := fun x hx => by
  have := (List.mem_replicate.1 hx).2
  omega
theorem ByL.rev {xs : List Int} (h : ByL xs) : ByL xs.reverse := fun x hx => h x (List.mem_reverse.1 hx)
end Go.Proofs.YtloloifngbmibaaGreatDoor
