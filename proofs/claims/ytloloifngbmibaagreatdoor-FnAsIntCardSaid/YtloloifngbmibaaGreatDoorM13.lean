/- Walk of Rat.Cmp. Walks of lshVU and lsh of one word. -/
import Derived.Test.YtloloifngbmibaaGreatDoorM12
set_option linter.unusedVariables false
set_option maxRecDepth 4000
namespace Go.Proofs.YtloloifngbmibaaGreatDoor
open Go.RowKit

theorem pw_pos (n : Nat) : (0 : Int) < 18446744073709551616 ^ n := by
  induction n with
  | zero => decide
  | succ n ih => rw [Int.pow_succ]; omega
theorem pw_le {n m : Nat} (h : n ≤ m) : (18446744073709551616 : Int) ^ n ≤ 18446744073709551616 ^ m := by
  obtain ⟨k, rfl⟩ := Nat.exists_eq_add_of_le h
  clear h
  induction k with
  | zero => exact Int.le_refl _
  | succ k ih =>
    rw [← Nat.add_assoc, Int.pow_succ]
    have := pw_pos (n + k)
    omega
theorem nv_lt : ∀ {xs : List Int}, WL xs → nv xs < 18446744073709551616 ^ xs.length
  | [], _ => by simp [nv]
  | x :: xs, h => by
    have h1 := (WL.cons.1 h).1
    have h2 := nv_lt (WL.cons.1 h).2
    simp only [nv, List.length_cons, Int.pow_succ]
    omega
theorem nv_ge : ∀ {xs : List Int}, WL xs → Nrm xs → ∀ n, xs.length = n + 1 → 18446744073709551616 ^ n ≤ nv xs
  | [], _, _, _, h => by simp at h
  | [x], hw, hn, n, h => by
    have h1 := (WL.cons.1 hw).1
    have hx : ¬ x = 0 := hn
    have : n = 0 := by simpa using h.symm
    subst this
    simp [nv]
    omega
  | x :: y :: ys, hw, hn, n, h => by
    have h1 := (WL.cons.1 hw).1
    obtain ⟨m, rfl⟩ : ∃ m, n = m + 1 := ⟨n - 1, by simp at h; omega⟩
    have ih := nv_ge (xs := y :: ys) (WL.cons.1 hw).2 hn m (by simpa using h)
    have e : nv (x :: y :: ys) = x + 18446744073709551616 * nv (y :: ys) := rfl
    rw [e, Int.pow_succ]
    omega
theorem len_le {xs : List Int} {n : Nat} (hw : WL xs) (hn : Nrm xs) (h : nv xs < 18446744073709551616 ^ n) : xs.length ≤ n := by
  rcases Nat.lt_or_ge n xs.length with hlt | hge
  · obtain ⟨m, hm⟩ : ∃ m, xs.length = m + 1 := ⟨xs.length - 1, by omega⟩
    have h1 := nv_ge hw hn m hm
    have h2 : (18446744073709551616 : Int) ^ n ≤ 18446744073709551616 ^ m := pw_le (by omega)
    omega
  · exact hge
theorem mul_len {xs ys ps : List Int} (hX : WL xs) (hY : WL ys) (hx : xs.length ≤ 30) (hy : ys.length ≤ 30) (hw : WL ps) (hn : Nrm ps) (h : nv ps = nv xs * nv ys) : ps.length ≤ 60 := by
  refine len_le hw hn ?_
  have h1 := nv_lt hX
  have h2 := nv_lt hY
  have h3 := nv_nonneg hX
  have h4 := nv_nonneg hY
  have e1 : (18446744073709551616 : Int) ^ xs.length ≤ 18446744073709551616 ^ 30 := pw_le hx
  have e2 : (18446744073709551616 : Int) ^ ys.length ≤ 18446744073709551616 ^ 30 := pw_le hy
  have h5 : nv xs * nv ys ≤ nv xs * 18446744073709551616 ^ 30 := Int.mul_le_mul_of_nonneg_left (by omega) h3
  have h6 : nv xs * 18446744073709551616 ^ 30 < 18446744073709551616 ^ 30 * 18446744073709551616 ^ 30 := Int.mul_lt_mul_of_pos_right (by omega) (by decide)
  rw [h, show (60 : Nat) = 30 + 30 from rfl, Int.pow_add]
  omega

/-- A rational number in a block of its own. -/
structure RatV (W : World) (S : Nat → Prop) (b : Nat) (neg : Bool) (xs ds : List Int) : Prop where
  bk : ∃ va vb, Blk W b 292 #[.bool neg, va, .bool false, vb] ∧ SlV W S .u64 va xs ∧ SlV W S .u64 vb ds
  own : S b
  lt : ∀ k, S k → k < W.heap.size
theorem RatV.still {W W' : World} {S : Nat → Prop} {b : Nat} {neg : Bool} {xs ds : List Int} (h : RatV W S b neg xs ds) (hk : Still S W W') (hs : W.heap.size ≤ W'.heap.size) : RatV W' S b neg xs ds := by
  obtain ⟨⟨va, vb, h1, h2, h3⟩, ho, hl⟩ := h
  exact ⟨⟨va, vb, h1.keep (hk b ho), h2.keep hk, h3.keep hk⟩, ho, fun k hk => Nat.lt_of_lt_of_le (hl k hk) hs⟩
theorem RatV.up {W W' : World} {S : Nat → Prop} {b : Nat} {neg : Bool} {xs ds : List Int} (h : RatV W S b neg xs ds) (hb : Below W.heap.size W W') : RatV W' S b neg xs ds :=
  h.still (still_below hb h.lt) hb.size
theorem RatV.num {W : World} {S : Nat → Prop} {b : Nat} {neg : Bool} {xs ds : List Int} (h : RatV W S b neg xs ds) : BigV W S b 0 neg xs := by
  obtain ⟨⟨va, vb, h1, h2, h3⟩, ho, hl⟩ := h
  exact ⟨va, ho, by rw [h1.cell]; rfl, by rw [h1.cell]; rfl, h2⟩
theorem RatV.den {W : World} {S : Nat → Prop} {b : Nat} {neg : Bool} {xs ds : List Int} (h : RatV W S b neg xs ds) : BigV W S b 2 false ds := by
  obtain ⟨⟨va, vb, h1, h2, h3⟩, ho, hl⟩ := h
  exact ⟨vb, ho, by rw [h1.cell]; rfl, by rw [h1.cell]; rfl, h3⟩

theorem ScaleOut.but {zb : Nat} {neg : Bool} {p : Int} {w w' : World} (h : ScaleOut zb neg p w w') : But (fun k => k = zb) w w' := by
  obtain ⟨_, _, _, _, _, _, _, h⟩ := h
  exact h
/-- What Rat.Cmp tells. -/
def RatCmp (n1 : Bool) (x1 d1 : Int) (n2 : Bool) (x2 d2 : Int) (C : Int) : Prop :=
  ∃ ps qs, C = cmpB n1 ps n2 qs ∧ WL ps ∧ WL qs ∧ Nrm ps ∧ Nrm qs ∧ nv ps = x1 * d2 ∧ nv qs = x2 * d1

set_option maxHeartbeats 2000000 in
theorem ratCmp_any (S S' : Nat → Prop) (b1 b2 : Nat) (n1 n2 : Bool) (xs ds ys es : List Int) (hn1 : xs.length ≤ 30) (hn2 : ds.length ≤ 30) (hn3 : ys.length ≤ 30) (hn4 : es.length ≤ 30) (hd : 0 < ds.length) (he : 0 < es.length) (hX : WL xs) (hD : WL ds) (hY : WL ys) (hE : WL es) (w : World)
    (hx : RatV w S b1 n1 xs ds) (hy : RatV w S' b2 n2 ys es) (hG : w.cell? ⟨2, 0, none⟩ = some (.int .i64 40)) :
    Calls Tryz.prog 154 #[.pointer (some ⟨b1, 0, none⟩), .pointer (some ⟨b2, 0, none⟩)] w fun e w' => ∃ C, e = .returned (.int .i64 C) ∧ RatCmp n1 (nv xs) (nv ds) n2 (nv ys) (nv es) C ∧ Below w.heap.size w w' := by
  have HX := Lib.hid hx
  have HY := Lib.hid hy
  have HG := Lib.hid hG
  have HW := Lib.hid (show WL xs ∧ WL ds ∧ WL ys ∧ WL es from ⟨hX, hD, hY, hE⟩)
  have lg := World.block_lt_of_cell? w _ hG
  clear hx hy hG hX hD hY hE
  go_enter_defers Tryz.func154, Tryz.ntmps154
  go_upto_region 4 with (go_at_call 161; refine (getStack_any _).mono ?_; rintro e w' ⟨rfl, rfl⟩)
  obtain ⟨W0, hW0⟩ : ∃ W0, W0 = (((w.alloc (.cells #[.bool false, .slice none 0 0] 189)).alloc (.cells #[.bool false, .slice none 0 0] 189)).alloc (.cells #[.pointer none] 302)) := ⟨_, rfl⟩
  obtain ⟨za, hza⟩ : ∃ za, za = w.heap.size := ⟨_, rfl⟩
  have B0 : Below w.heap.size w W0 := by rw [hW0]; exact below_al (below_al (below_al (Below.refl _ _) _) _) _
  have KA : Blk W0 za 189 #[.bool false, .slice none 0 0] := by rw [hW0, hza]; exact ((Blk.new w _ _).alloc _).alloc _
  have KB : Blk W0 (za + 1) 189 #[.bool false, .slice none 0 0] := by
    have h := (Blk.new (w.alloc (.cells #[.bool false, .slice none 0 0] 189)) 189 #[.bool false, .slice none 0 0]).alloc (.cells #[.pointer none] 302)
    rw [hW0, hza]
    simpa using h
  have KS : Blk W0 (za + 1 + 1) 302 #[.pointer none] := by
    have h := Blk.new ((w.alloc (.cells #[.bool false, .slice none 0 0] 189)).alloc (.cells #[.bool false, .slice none 0 0] 189)) 302 #[.pointer none]
    rw [hW0, hza]
    simpa using h
  rw [← hW0, ← hza]
  clear hW0
  have X0 := HX.out.up B0
  have Y0 := HY.out.up B0
  have SX : ∀ k, S k → k < za := fun k hk => by rw [hza]; exact HX.out.lt k hk
  have SY : ∀ k, S' k → k < za := fun k hk => by rw [hza]; exact HY.out.lt k hk
  have lb1 := SX _ HX.out.own
  have lb2 := SY _ HY.out.own
  have hs0 := KS.lt
  have g0 := (B0.cell (p := ⟨2, 0, none⟩) lg).trans HG.out
  obtain ⟨⟨vx, dx, kx, sx, dsx⟩, _, _⟩ := id X0
  obtain ⟨⟨vy, dy, ky, sy, dsy⟩, _, _⟩ := id Y0
  obtain ⟨Ax, cx, rfl, _, rdx⟩ := dsx
  obtain ⟨Ay, cy, rfl, _, rdy⟩ := dsy
  have c1 := kx.cell 3
  have c2 := ky.cell 3
  simp at c1 c2
  have HS1 := Lib.hid (scaleDenom_any S S' za b1 0 (.pointer (some ⟨za + 1 + 1, 0, none⟩)) rfl Ay cy n1 xs es (by omega) (by omega) (.inl (by omega)) he HW.out.1 HW.out.2.2.2 W0.drew KA.drew X0.num rdy (fun k hk => ⟨Nat.lt_trans (SX k hk) KA.lt, by have := SX k hk; omega⟩) (fun k hk => Nat.lt_trans (SY k hk) KA.lt) g0)
  have HS2 : Hid (∀ w1, But (fun k => k = za) W0.drew w1 → Calls Tryz.prog 163 #[.pointer (some ⟨za + 1, 0, none⟩), .pointer (some ⟨za + 1 + 1, 0, none⟩), .pointer (some ⟨b2, 0, none⟩), .slice Ax ds.length cx] w1.drew fun e w' => e = .returned (.tuple #[]) ∧ ScaleOut (za + 1) n2 (nv ys * nv ds) w1.drew w') := Lib.hid fun w1 hb => by
    have stX : Still S W0 w1 := fun k hk => hb.block k (Nat.lt_trans (SX k hk) KA.lt) (by have := SX k hk; omega)
    have stY : Still S' W0 w1 := fun k hk => hb.block k (Nat.lt_trans (SY k hk) KA.lt) (by have := SY k hk; omega)
    have hsz := hb.size
    have kb := KB.keep (hb.block (za + 1) KB.lt (by omega))
    have gg := (World.cell?_of_block (a := ⟨2, 0, none⟩) (hb.block 2 (Nat.lt_of_lt_of_le lg B0.size) (by rw [hza]; omega))).trans g0
    exact scaleDenom_any S' S (za + 1) b2 0 (.pointer (some ⟨za + 1 + 1, 0, none⟩)) rfl Ax cx n2 ys ds (by omega) (by omega) (.inl (by omega)) hd HW.out.2.2.1 HW.out.2.1 w1.drew kb (Y0.still stY hsz).num (rdx.keep stX) (fun k hk => ⟨kb.lt |> Nat.lt_trans (by have := SY k hk; omega), by have := SY k hk; omega⟩) (fun k hk => kb.lt |> Nat.lt_trans (by have := SX k hk; omega)) gg
  have c1' : Hid (∀ w1, But (fun k => k = za) W0.drew w1 → w1.cell? ⟨b1, 3, none⟩ = some (.slice Ax ds.length cx)) := Lib.hid fun w1 hb => (World.cell?_of_block (a := ⟨b1, 3, none⟩) (hb.block b1 (Nat.lt_trans lb1 KA.lt) (by omega))).trans c1
  have c2' : Hid (∀ w1, But (fun k => k = za) W0.drew w1 → w1.cell? ⟨b2, 3, none⟩ = some (.slice Ay es.length cy)) := Lib.hid fun w1 hb => (World.cell?_of_block (a := ⟨b2, 3, none⟩) (hb.block b2 (Nat.lt_trans lb2 KA.lt) (by omega))).trans c2
  have HKA := Lib.hid KA
  have HKB := Lib.hid KB
  have HKS := Lib.hid KS
  have HB0 := Lib.hid B0
  have HZA := Lib.hid hza
  clear kx ky sx sy rdx rdy KA KB KS B0 X0 Y0 SX SY hza HX HY HG g0
  go_region_held3 (fun W => W.cell? ⟨b2, 3, none⟩ = some (.slice Ay es.length cy)) (first | exact c2 | exact True.intro)
    ((go_at_call 163; (with_reducible refine HS1.out.mono ?_); rintro e w1 ⟨rfl, o1⟩; have O1 := Lib.hid o1; clear o1; have c2 := c2'.out w1 (ScaleOut.but O1.out)))
  have HT1 := Lib.hid (ScaleOut.but O1.out)
  have c1 := c1'.out _ HT1.out
  go_wp2_with fail
  go_region_held3 (fun W => W.cell? ⟨b1, 3, none⟩ = some (.slice Ax ds.length cx)) (first | exact c1 | exact True.intro)
    ((go_at_call 163; (with_reducible refine (HS2.out w1 HT1.out).mono ?_); rintro e w2 ⟨rfl, o2⟩; have O2 := Lib.hid o2; clear o2; have c1 := (World.cell?_of_block (a := ⟨b1, 3, none⟩) ((ScaleOut.but O2.out).block b1 (Nat.lt_of_lt_of_le (Nat.lt_trans lb1 HKA.out.lt) HT1.out.size) (Nat.ne_of_lt (Nat.lt_succ_of_lt lb1)))).trans c1))
  obtain ⟨va, ps, ka, sa, wp, np, ep, hba⟩ := O1.out
  obtain ⟨vb, qs, kb, sb, wq, nq, eq, hbb⟩ := O2.out
  have lA : za + 1 + 1 < w1.heap.size := Nat.lt_of_lt_of_le hs0 hba.size
  have ka2 := ka.keep (hbb.block za (Nat.lt_trans (by omega) lA) (by omega))
  have sa2 := sa.keep (hbb.still (fun k hk => ⟨hk.1.2, by have h1 : W0.heap.size ≤ k := hk.1.1; omega⟩))
  have ks2 := (HKS.out.keep (hba.block (za + 1 + 1) hs0 (by omega))).keep (hbb.block (za + 1 + 1) lA (by omega))
  have HCP := Lib.hid (intCmp_any (fun k => k = za ∨ (Nw W0.drew w1 k ∧ k ≠ za)) (fun k => k = za + 1 ∨ (Nw w1.drew w2 k ∧ k ≠ za + 1)) za 0 (za + 1) 0 n1 n2 ps qs (by have := mul_len HW.out.1 HW.out.2.2.2 hn1 hn4 wp np ep; omega) (by have := mul_len HW.out.2.2.1 HW.out.2.1 hn3 hn2 wq nq eq; omega) w2 _ _ ka2 _ _ kb (by omega) (BigV.of_blk ka2 (.inl rfl) (sa2.mono (fun k hk => .inr hk))) (BigV.of_blk kb (.inl rfl) (sb.mono (fun k hk => .inr hk))))
  have HR := Lib.hid (show RatCmp n1 (nv xs) (nv ds) n2 (nv ys) (nv es) (cmpB n1 ps n2 qs) from ⟨ps, qs, rfl, wp, wq, np, nq, ep, eq⟩)
  have HBL : Hid (Below w.heap.size w w2) := Lib.hid (HB0.out.trans ((((But.undrew hba).mono (T' := fun k => k = za ∨ k = za + 1) (fun k hk => .inl hk)).trans ((But.undrew hbb).mono (fun k hk => .inr hk))).below HB0.out.size (fun k hk => by rw [← HZA.out]; rcases hk with rfl | rfl <;> omega)))
  have cs := ks2.cell 0
  simp at cs
  obtain ⟨C, hC⟩ : ∃ C, C = cmpB n1 ps n2 qs := ⟨_, rfl⟩
  rw [← hC] at HCP HR
  clear hC ka kb sa sb wp wq np nq ep eq hba hbb ka2 sa2 HS1 HS2 c1' c2' O1 O2
  go_wp2_with fail
  refine HCP.out.mono ?_
  rintro e w3 ⟨rfl, n, rfl⟩
  go_wp2
  refine leaves_cons (f := 162) (args := #[.pointer (some ⟨za + 1 + 1, 0, none⟩)]) (by simp) (by simp [go_sem]) ?_
  refine (free_def (za + 1 + 1) .returning _ ?_).mono ?_
  · exact cs
  rintro e u' w'' ⟨rfl, rfl, rfl⟩
  exact ⟨_, results_tmp rfl _ _ _, C, rfl, HR.out, below_drewN' HBL.out _⟩
end Go.Proofs.YtloloifngbmibaaGreatDoor
set_option linter.unusedVariables false
set_option maxRecDepth 4000
namespace Go.Proofs.YtloloifngbmibaaGreatDoor
open Go.RowKit

theorem make_over (A : Option Addr) (m c n : Nat) (h1 : 2 ≤ n) (h2 : n ≤ 4294967296) (hc : c < n) (w : World) :
    Calls Tryz.prog 134 #[.slice A m c, .int .i64 n] w fun e w' => e = .returned (.slice (some ⟨w.heap.size, 0, none⟩) n (n + 4)) ∧ w.alloc (.cells (madeCells #[.int .u64 0] (n + 4)) 236) = w' := by
  obtain ⟨i0, hi, hz0, hz1, hz2⟩ := info_parts info_word
  have hmk : ∀ w, (Instr.makeSlice 187 (.int .i64 (n : Int)) (.int .i64 ((n : Int) + 4))).run Tryz.prog w = .ok (.slice (some ⟨w.heap.size, 0, none⟩) n (n + 4)) (w.alloc (.cells (madeCells #[.int .u64 0] (n + 4)) 236)) := fun w => by
    have h := run_make (P := Tryz.prog) w 187 236 i0 (.int .u64 0) Tryz.underlying187 hi hz0 .i64 .i64 (n : Int) ((n : Int) + 4) (by omega) (by omega) (by rw [hz2]; omega) (by omega)
    rw [hz1] at h
    have e : ((n : Int) + 4).toNat = n + 4 := by omega
    simpa [e, Value.cells] using h
  have e1 := dec_no (show ¬ (n : Int) ≤ (c : Int) by omega)
  go_enter Tryz.func134, Tryz.ntmps134
  go_wp2
  go_ret
  exact ⟨rfl, rfl⟩

theorem and63 (s : Nat) (hs : s < 18446744073709551616) : bits .and .u64 (s : Int) 63 = ((s % 64 : Nat) : Int) := by
  have h := bits_and_u64_nat s 63 hs (by decide)
  rw [show s &&& 63 = s % 64 from Nat.and_two_pow_sub_one_eq_mod s 6] at h
  exact h

theorem lsh1VU_any (g o cz xb xo cx x s : Nat) (hs0 : 0 < s) (hs1 : s < 64) (hx : x < 18446744073709551616) (w : World) (u : Value) (hc : w.cell? ⟨xb, xo, none⟩ = some (.int .u64 x)) (hz : w.cell? ⟨g, o, none⟩ = some u) (fz : w.frozen? ⟨g, o, none⟩ = false) (hgl : g < w.heap.size) :
    Calls Tryz.prog 213 #[.slice (some ⟨g, o, none⟩) 1 cz, .slice (some ⟨xb, xo, none⟩) 1 cx, .int .u64 s] w fun e w' => e = .returned (.int .u64 ((x / 2 ^ (64 - s) : Nat) : Int)) ∧ w' = w.setCell ⟨g, o, none⟩ (.int .u64 ((x * 2 ^ s % 18446744073709551616 : Nat) : Int)) := by
  have e1 : ((s : Int) == 0) = false := beq_no (by omega)
  have f1 : bits .and .u64 (s : Int) 63 = (s : Int) := by rw [and63 s (by omega), Nat.mod_eq_of_lt hs1]
  obtain ⟨k, hk⟩ : ∃ k, k = 64 - s := ⟨_, rfl⟩
  have f2 : IntKind.u64.wrap (64 - (s : Int)) = (k : Int) := wrap_k (by omega) hk
  have f3 : bits .and .u64 (k : Int) 63 = (k : Int) := by rw [and63 k (by omega), Nat.mod_eq_of_lt (by omega)]
  have m1 : min s 64 = s := by omega
  have m2 : min k 64 = k := by omega
  rw [← hk]
  obtain ⟨a, ha⟩ : ∃ a, a = x / 2 ^ k := ⟨_, rfl⟩
  have f4 : (x : Int) / 2 ^ k = (a : Int) := by rw [ha]; simp
  obtain ⟨b, hb⟩ : ∃ b, b = x * 2 ^ s % 18446744073709551616 := ⟨_, rfl⟩
  have f5 : IntKind.u64.wrap ((x : Int) * 2 ^ s) = (b : Int) := by
    have e : (x : Int) * 2 ^ s = ((x * 2 ^ s : Nat) : Int) := by simp
    rw [e, hb]
    exact wrap_mod _
  rw [← ha, ← hb]
  clear hk ha hb
  go_enter Tryz.func213, Tryz.ntmps213
  go_wp2
  go_loop [8] (fun i => i = .int .i64 0) (fun _ => 0)
  case atStart => rfl
  case round =>
    subst hrel
    go_wp2
    go_ret
    exact ⟨rfl, rfl⟩
theorem lsh1VU_top (g o cz xb xo cx x s : Nat) (hs0 : 0 < s) (hs1 : s < 64) (hx : x < 18446744073709551616) (w : World) (u : Value) (hc : w.cell? ⟨xb, xo, none⟩ = some (.int .u64 x)) (hz : w.cell? ⟨g, o, none⟩ = some u) (fz : w.frozen? ⟨g, o, none⟩ = false) (hgl : g < w.heap.size) :
    Calls Tryz.prog 195 #[.slice (some ⟨g, o, none⟩) 1 cz, .slice (some ⟨xb, xo, none⟩) 1 cx, .int .u64 s] w fun e w' => e = .returned (.int .u64 ((x / 2 ^ (64 - s) : Nat) : Int)) ∧ w' = w.setCell ⟨g, o, none⟩ (.int .u64 ((x * 2 ^ s % 18446744073709551616 : Nat) : Int)) := by
  have H := Lib.hid (lsh1VU_any g o cz xb xo cx x s hs0 hs1 hx w u hc hz fz hgl)
  obtain ⟨a, ha⟩ : ∃ a, a = x / 2 ^ (64 - s) := ⟨_, rfl⟩
  obtain ⟨b, hb⟩ : ∃ b, b = x * 2 ^ s % 18446744073709551616 := ⟨_, rfl⟩
  rw [← ha, ← hb] at H ⊢
  clear ha hb hc hz fz
  go_enter Tryz.func195, Tryz.ntmps195
  go_wp2_with fail
  refine H.out.mono ?_
  rintro e w' ⟨rfl, rfl⟩
  go_wp2
  go_ret
  exact ⟨rfl, rfl⟩
end Go.Proofs.YtloloifngbmibaaGreatDoor
