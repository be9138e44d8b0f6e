/- Floats as fractions: the parts, what SetFloat64's pieces leave. -/
import Derived.Test.YtloloifngbmibaaGreatDoorM15
import Derived.Laws.FloatArith
set_option linter.unusedVariables false
set_option linter.unusedSimpArgs false
set_option maxRecDepth 4000
set_option exponentiation.threshold 3000
namespace Go.Proofs.YtloloifngbmibaaGreatDoor
open Go.RowKit

def fex (u : Nat) : Nat := u / 4503599627370496 % 2048
def fm (u : Nat) : Nat := if fex u = 0 then u % 4503599627370496 else u % 4503599627370496 + 4503599627370496
def fs (u : Nat) : Int := if fex u = 0 then 1074 else 1075 - (fex u : Int)
def fneg (u : Nat) : Bool := decide (9223372036854775808 ≤ u) && decide (¬ fm u = 0)

theorem fbits_call (u : Nat) (w : World) :
    (callFunc 103 #[.float .f64 u]).run Tryz.prog w = .ok (.value (.int .u64 u)) w := by
  rw [run_callFunc_extern Tryz.func103 (by kernel_rfl) (by kernel_rfl) (by kernel_rfl) (e := Extern.MathFloatBits.float64bits) (by kernel_rfl)]
  rfl

theorem and52 (u : Nat) (hu : u < 18446744073709551616) : bits .and .u64 (u : Int) 4503599627370495 = ((u % 4503599627370496 : Nat) : Int) := by
  have h := bits_and_u64_nat u 4503599627370495 hu (by decide)
  rw [show ((4503599627370495 : Nat) : Int) = 4503599627370495 from rfl] at h
  rw [h, show (4503599627370495 : Nat) = 2 ^ 52 - 1 from rfl, Nat.and_two_pow_sub_one_eq_mod]
theorem and2047 (u : Nat) (hu : u < 18446744073709551616) : bits .and .u64 ((u : Int) / 4503599627370496) 2047 = (fex u : Int) := by
  have h := bits_and_u64_nat (u / 4503599627370496) 2047 (by omega) (by decide)
  rw [show ((2047 : Nat) : Int) = 2047 from rfl, show ((u / 4503599627370496 : Nat) : Int) = (u : Int) / 4503599627370496 by omega] at h
  rw [h, show (2047 : Nat) = 2 ^ 11 - 1 from rfl, Nat.and_two_pow_sub_one_eq_mod]
  rfl
theorem or52 (m : Nat) (hm : m < 4503599627370496) : bits .or .u64 (m : Int) 4503599627370496 = ((m + 4503599627370496 : Nat) : Int) := by
  have h := bits_or_u64_nat m 4503599627370496 (by omega) (by decide)
  rw [show ((4503599627370496 : Nat) : Int) = 4503599627370496 from rfl] at h
  rw [h]
  congr 1
  have h2 := Nat.two_pow_add_eq_or_of_lt (i := 52) (b := m) (by omega) 1
  rw [Nat.or_comm]
  simp at h2
  omega

/-- What the loop keeps: the mantissa, the shift. -/
def FltR (u M : Nat) (T : Int) : Prop := ∃ k : Nat, T = fs u - k ∧ fm u = M * 2 ^ k ∧ (0 < k → 0 ≤ T)
theorem FltR.start (u : Nat) : FltR u (fm u) (fs u) := ⟨0, by simp, by simp, by simp⟩
theorem FltR.step {u M : Nat} {T : Int} (h : FltR u M T) (h0 : M % 2 = 0) (h1 : 0 < T) : FltR u (M / 2) (T - 1) := by
  obtain ⟨k, e1, e2, e3⟩ := h
  refine ⟨k + 1, by omega, ?_, by omega⟩
  rw [e2, Nat.pow_succ, Nat.mul_comm (2 ^ k) 2, ← Nat.mul_assoc, Nat.div_mul_cancel (Nat.dvd_of_mod_eq_zero h0)]
theorem fm_lt (u : Nat) : fm u < 9007199254740992 := by
  unfold fm
  split <;> omega
theorem FltR.lt {u M : Nat} {T : Int} (h : FltR u M T) : M < 9007199254740992 := by
  obtain ⟨k, _, e2, _⟩ := h
  have := fm_lt u
  have h1 : M * 1 ≤ M * 2 ^ k := Nat.mul_le_mul_left _ (Nat.one_le_two_pow)
  omega
theorem fs_bd (u : Nat) : -972 ≤ fs u ∧ fs u ≤ 1074 := by
  unfold fs fex
  split <;> omega
theorem FltR.bd {u M : Nat} {T : Int} (h : FltR u M T) : -972 ≤ T ∧ T ≤ 1074 := by
  obtain ⟨k, e1, _, e3⟩ := h
  have := fs_bd u
  rcases Nat.eq_zero_or_pos k with h0 | h0
  · omega
  · have := e3 h0
    omega

/-- What a finite float stands for. -/
theorem read_fin (u : Nat) (hu : u < 18446744073709551616) (hf : fex u ≠ 2047) : Ieee.double.read u = .number (decide (9223372036854775808 ≤ u)) (fm u) (-(fs u)) := by
  have e1 : Ieee.double.signWeight = 9223372036854775808 := by decide +kernel
  have e2 : Ieee.double.binade = 4503599627370496 := by decide +kernel
  have e3 : Ieee.double.infRung = 9218868437227405312 := by decide +kernel
  have e4 : Ieee.double.leastPlace = -1074 := by decide +kernel
  have e5 : (u / 9223372036854775808 % 2 == 1) = decide (9223372036854775808 ≤ u) := by
    by_cases h : 9223372036854775808 ≤ u
    · rw [show u / 9223372036854775808 % 2 = 1 by omega, decide_eq_true h]
      rfl
    · rw [show u / 9223372036854775808 % 2 = 0 by omega, decide_eq_false h]
      rfl
  unfold Ieee.Format.read
  simp only [e1, e2, e3, e4, e5]
  unfold fex at hf
  by_cases hx : u / 4503599627370496 % 2048 = 0
  · have h1 : u % 9223372036854775808 < 4503599627370496 := by omega
    rw [if_pos h1]
    unfold fm fs fex
    rw [if_pos hx, if_pos hx, show u % 9223372036854775808 = u % 4503599627370496 by omega]
  · have h1 : ¬ u % 9223372036854775808 < 4503599627370496 := by omega
    have h2 : u % 9223372036854775808 < 9218868437227405312 := by omega
    rw [if_neg h1, if_pos h2]
    unfold fm fs fex
    rw [if_neg hx, if_neg hx]
    congr 1
    · omega
    · omega
/-- 'f < 0'. -/
theorem flt_neg (u : Nat) (hu : u < 18446744073709551616) (hf : fex u ≠ 2047) : (FloatKind.f64.format.order u 0 == some Ordering.lt) = fneg u := by
  show (Ieee.Datum.order (Ieee.double.read u) (Ieee.double.read 0) == some Ordering.lt) = fneg u
  rw [read_fin u hu hf, read_fin 0 (by decide) (by decide)]
  unfold Ieee.Datum.order fneg
  simp only [show fm 0 = 0 from rfl]
  obtain ⟨k, hk⟩ : ∃ k, k = (-(fs u) - min (-(fs u)) (-(fs 0))).toNat := ⟨_, rfl⟩
  obtain ⟨j, hj⟩ : ∃ j, j = (-(fs 0) - min (-(fs u)) (-(fs 0))).toNat := ⟨_, rfl⟩
  rw [← hk, ← hj]
  have h0 : Ieee.signed (decide (9223372036854775808 ≤ 0)) 0 j = 0 := by simp [Ieee.signed]
  rw [h0]
  unfold Ieee.signed
  have hp : 0 < 2 ^ k := Nat.two_pow_pos k
  rw [Nat.shiftLeft_eq]
  by_cases hs : 9223372036854775808 ≤ u
  · by_cases hm : fm u = 0
    · simp [hs, hm]
    · have : 0 < fm u * 2 ^ k := Nat.mul_pos (by omega) hp
      obtain ⟨q, hq⟩ : ∃ q, q = fm u * 2 ^ k := ⟨_, rfl⟩
      rw [← hq] at this ⊢
      simp [hs, hm]
      rw [Int.compare_eq_lt]
      omega
  · obtain ⟨q, hq⟩ : ∃ q, q = fm u * 2 ^ k := ⟨_, rfl⟩
    rw [← hq]
    simp [hs]
    intro h
    rw [Int.compare_eq_lt] at h
    omega

/-- A magnitude of one word at most: nil, or one new word. -/
def AbsAt (M : Nat) (w W : World) (va : Value) : Prop :=
  (M = 0 ∧ va = .slice none 0 0) ∨ (M ≠ 0 ∧ ∃ g, va = .slice (some ⟨g, 0, none⟩) 1 1 ∧ WB W g [(M : Int)] ∧ w.heap.size ≤ g)
theorem AbsAt.up {M : Nat} {w W W' : World} {va : Value} {rb : Nat} (h : AbsAt M w W va) (hb : But (fun k => k = rb) W W') (hr : rb < w.heap.size) : AbsAt M w W' va := by
  rcases h with ⟨h1, h2⟩ | ⟨h1, g, h2, h3, h4⟩
  · exact .inl ⟨h1, h2⟩
  · exact .inr ⟨h1, g, h2, Blk.keep h3 (hb.block g h3.lt (by omega)), h4⟩

theorem set_one (g c : Nat) (x : Int) (w : World) (hr : w.cell? ⟨g, 0, none⟩ = some (.int .u64 x)) :
    Calls Tryz.prog 132 #[.slice none 0 0, .slice (some ⟨g, 0, none⟩) 1 c] w fun e w' => e = .returned (.slice (some ⟨w.heap.size, 0, none⟩) 1 1) ∧ w.alloc (.cells #[.int .u64 x] 236) = w' := by
  have hb : g < w.heap.size := World.block_lt_of_cell? w ⟨g, 0, none⟩ hr
  have hc1 : Hid (∀ (o' : Obj) (j : Nat) (v : Value), (ints .u64 [x])[j]? = some v → (w.alloc o').cell? ((⟨g, 0, none⟩ : Addr).add j) = some v) := by
    intro o' j v hj
    have hj0 : j < 1 := by
      have := (List.getElem?_eq_some_iff.1 hj).1
      simpa [ints_length] using this
    obtain rfl : j = 0 := by omega
    have e : (⟨g, 0, none⟩ : Addr).add 0 = ⟨g, 0, none⟩ := by unfold Addr.add; rfl
    rw [e, World.cell?_alloc_lt w _ _ hb, hr]
    simpa [ints] using hj
  clear hr
  go_enter Tryz.func132, Tryz.ntmps132
  go_wp2_with (first | (go_at_call 134; refine (make_nil1 _).mono ?_; rintro e w' ⟨rfl, rfl⟩) | (refine wpList_copy_own rfl _ _ 187 187 rfl 236 Tryz.underlying187 size_word w.heap.size 0 1 1 ⟨g, 0, none⟩ 1 c rfl rfl #[.int .u64 0] 236 (heap_alloc_new w _) (ints .u64 [x]) rfl (hc1.out _) (by simp [ints]) (ints_one _ _) ?_; rw [setRow_alloc]))
  go_ret
  exact ⟨rfl, rfl⟩

/-- 'z.Set(x)', z a nil integer anywhere in a block, x of one word. -/
theorem setO_one (w : World) (b o b1 o1 : Nat) (u neg : Bool) (x : Int) (t : TypeId) (cs : Array Value) (hb : Blk w b t cs) (c0 : w.cell? ⟨b, o, none⟩ = some (.bool u)) (c1 : w.cell? ⟨b, o + 1, none⟩ = some (.slice none 0 0)) (g c : Nat) (t1 : TypeId) (cs1 : Array Value) (hb1 : Blk w b1 t1 cs1) (hne : b ≠ b1)
    (x0 : w.cell? ⟨b1, o1, none⟩ = some (.bool neg)) (x1 : w.cell? ⟨b1, o1 + 1, none⟩ = some (.slice (some ⟨g, 0, none⟩) 1 c)) (hr : w.cell? ⟨g, 0, none⟩ = some (.int .u64 x)) :
    Calls Tryz.prog 114 #[.pointer (some ⟨b, o, none⟩), .pointer (some ⟨b1, o1, none⟩)] w fun e w' => e = .returned (.pointer (some ⟨b, o, none⟩)) ∧
      Alk w' (((w.setCell ⟨b, o + 1, none⟩ (.slice (some ⟨w.heap.size, 0, none⟩) 1 1)).setCell ⟨b, o, none⟩ (.bool neg)).alloc (.cells #[.int .u64 x] 236)) := by
  have hlt := hb.lt
  have hlt1 := hb1.lt
  have f0 := hb.frozen o
  have f1 := hb.frozen (o + 1)
  have hn1 := neq_ptr_far (n := 1) w Tryz.underlying113 (by kernel_rfl) (by intro h; injection h; exact hne ‹_›) hb (a := ⟨b, o, none⟩) (b := ⟨b1, o1, none⟩) hb1
  have hr' : Hid (∀ W : World, W.heap = w.heap → W.cell? ⟨g, 0, none⟩ = some (.int .u64 x)) := fun W hW => by
    rw [← hr]
    exact World.cell?_of_block (a := ⟨g, 0, none⟩) (by rw [hW])
  clear hr
  go_enter Tryz.func114, Tryz.ntmps114
  go_wp2
  go_region_with (go_at_call 132; refine (set_one g c x _ (by exact hr'.out _ rfl)).mono ?_; rintro e w' ⟨rfl, rfl⟩)
  all_goals
    clear hn1
    go_wp2
    go_ret
    exact ⟨rfl, rfl, rfl, rfl, rfl⟩

/-- What SetFloat64 has laid ahead of norm. -/
def FltB (rb u : Nat) (w W : World) : Prop :=
  ∃ va vb ms ds, Blk W rb 292 #[.bool (fneg u), va, .bool false, vb] ∧ SlV W (Nw w W) .u64 va ms ∧ SlV W (Nw w W) .u64 vb ds ∧ (WL ms ∧ Nrm ms ∧ WL ds ∧ Nrm ds) ∧ (0 < ms.length ∧ 0 < ds.length ∧ ms.length ≤ 30 ∧ ds.length ≤ 30) ∧
    (ms.length = 1 ∨ ds.length = 1) ∧ Nat.gcd (nv ms).toNat (nv ds).toNat = 1 ∧ nv ms * 2 ^ (fs u).toNat = (fm u : Int) * nv ds * 2 ^ (-(fs u)).toNat ∧ But (fun k => k = rb) w W
/-- What SetFloat64 leaves. -/
def FltOut (rb u : Nat) (w W : World) : Prop :=
  ∃ va vb ms ds, Blk W rb 292 #[.bool (fneg u), va, .bool false, vb] ∧ SlV W (Nw w W) .u64 va ms ∧ SlV W (Nw w W) .u64 vb ds ∧ (WL ms ∧ Nrm ms ∧ WL ds ∧ Nrm ds) ∧ (0 < ds.length ∧ ms.length ≤ 30 ∧ ds.length ≤ 30) ∧
    nv ms * 2 ^ (fs u).toNat = (fm u : Int) * nv ds * 2 ^ (-(fs u)).toNat ∧ Nat.gcd (nv ms).toNat (nv ds).toNat = 1 ∧ But (fun k => k = rb) w W

theorem odd_gcd (M s : Nat) (h : M % 2 = 1) : Nat.gcd M (2 ^ s) = 1 := by
  have h2 : Nat.Coprime M 2 := by
    unfold Nat.Coprime
    rw [Nat.gcd_comm, Nat.gcd_rec, h]
    rfl
  exact Nat.Coprime.pow_right s h2

theorem flt_den {u M T : Nat} {rb g1 : Nat} {va : Value} {w w4 : World} (hlb : rb < w.heap.size) (hR : FltR u M T) (hT : 0 < T) (hM : M % 2 = 1)
    (K4 : Blk w4 rb 292 #[.bool (fneg u), va, .bool false, .slice (some ⟨g1, 0, none⟩) 1 1]) (N4 : WB w4 g1 [1]) (lg : w.heap.size ≤ g1) (A4 : AbsAt M w w4 va) (T4 : But (fun k => k = rb) w w4) :
    Calls Tryz.prog 169 #[.pointer (some ⟨rb, 2, none⟩), .pointer (some ⟨rb, 2, none⟩), .int .u64 T] w4 fun e w' => e = .returned (.pointer (some ⟨rb, 2, none⟩)) ∧ FltB rb u w w' := by
  have hb := hR.bd
  refine (intLsh_one rb 2 g1 1 T false _ _ (by omega) hT (by omega) w4 K4 (by rw [K4.cell]; rfl) (by rw [K4.cell]; rfl) (by have h := N4.cell (i := 0) (by simp); simpa using h)).mono ?_
  rintro e w' ⟨rfl, v, ps, kb, sv, hw, hn, hv, bt⟩
  refine ⟨rfl, ?_⟩
  rcases A4 with ⟨h1, _⟩ | ⟨h1, g0, rfl, wb0, lg0⟩
  · omega
  have wb0' : WB w' g0 [(M : Int)] := Blk.keep wb0 (bt.block g0 wb0.lt (by omega))
  have hML := hR.lt
  have hp : nv ps = 2 ^ T := by rw [hv]; simp
  have hpn : (nv ps).toNat = 2 ^ T := by rw [hp]; rw [show (2 : Int) ^ T = ((2 ^ T : Nat) : Int) by simp]; exact Int.toNat_natCast _
  have hpp : (0 : Int) < 2 ^ T := Int.pow_pos (by decide)
  have hlen : ps.length ≤ 30 := by
    refine len_le hw hn ?_
    have h1 : 2 ^ T < 2 ^ 1920 := Nat.pow_lt_pow_right (by decide) (by omega)
    rw [hp, show (18446744073709551616 : Int) ^ 30 = ((2 ^ 1920 : Nat) : Int) by decide +kernel, show (2 : Int) ^ T = ((2 ^ T : Nat) : Int) by simp]
    exact Int.ofNat_lt.2 h1
  have hpos : 0 < ps.length := by
    cases ps with
    | nil =>
      rw [show nv [] = 0 from rfl] at hp
      omega
    | cons a b => simp
  refine ⟨_, v, [(M : Int)], ps, kb, ⟨_, _, rfl, by simp, (WB.rd (o := 0) (xs := [(M : Int)]) (zs := []) wb0' rfl).mono (fun k hk => by subst hk; exact ⟨lg0, wb0'.lt⟩)⟩, sv.mono (fun k hk => ⟨by have := hk.1.1; have := T4.size; omega, hk.1.2⟩), ⟨WL.cons.2 ⟨by omega, WL.nil⟩, ?_, hw, hn⟩, ⟨by simp, hpos, by simp, hlen⟩, .inl rfl, ?_, ?_, T4.trans bt⟩
  · show ¬ ((M : Int) = 0)
    omega
  · rw [hpn]
    simp only [nv]
    rw [show ((M : Int) + 18446744073709551616 * 0).toNat = M by omega]
    exact odd_gcd M T hM
  · obtain ⟨k, e1, e2, e3⟩ := hR
    rw [hp, e2]
    have f1 : (fs u).toNat = T + k := by omega
    have f2 : (-(fs u)).toNat = 0 := by omega
    rw [f1, f2]
    simp only [nv]
    rw [Int.natCast_mul, show ((2 ^ k : Nat) : Int) = 2 ^ k by simp, Int.pow_add]
    have h0 : (2 : Int) ^ 0 = 1 := rfl
    rw [h0, Int.mul_one, show (M : Int) + 18446744073709551616 * 0 = M by omega, Int.mul_assoc, Int.mul_comm (2 ^ T) (2 ^ k)]

/-- The numerator shifted (a magnitude of one word, not 0). -/
theorem flt_num {u M s : Nat} {T : Int} {rb g1 : Nat} {va : Value} {w w4 : World} (hlb : rb < w.heap.size) (hR : FltR u M T) (hT : T ≤ 0) (hs : T = -(s : Int)) (hM : M ≠ 0)
    (K4 : Blk w4 rb 292 #[.bool (fneg u), va, .bool false, .slice (some ⟨g1, 0, none⟩) 1 1]) (N4 : WB w4 g1 [1]) (lg : w.heap.size ≤ g1) (A4 : AbsAt M w w4 va) (T4 : But (fun k => k = rb) w w4) :
    Calls Tryz.prog 169 #[.pointer (some ⟨rb, 0, none⟩), .pointer (some ⟨rb, 0, none⟩), .int .u64 s] w4 fun e w' => e = .returned (.pointer (some ⟨rb, 0, none⟩)) ∧ FltB rb u w w' := by
  have hb := hR.bd
  have hML := hR.lt
  rcases A4 with ⟨h1, _⟩ | ⟨h1, g0, rfl, wb0, lg0⟩
  · omega
  have lg0' := wb0.lt
  have lg1' := N4.lt
  have key : ∀ ps v w', Blk w' rb 292 #[.bool (fneg u), v, .bool false, .slice (some ⟨g1, 0, none⟩) 1 1] → SlV w' (Nw w w') .u64 v ps → WL ps → Nrm ps → nv ps = (M : Int) * 2 ^ s → But (fun k => k = rb) w4 w' → FltB rb u w w' := by
    intro ps v w' kb sv hw hn hv bt
    have wb1 : WB w' g1 [(1 : Int)] := Blk.keep N4 (bt.block g1 lg1' (by omega))
    have hpp : (0 : Int) < 2 ^ s := Int.pow_pos (by decide)
    have hpM : 0 < (M : Int) * 2 ^ s := Int.mul_pos (by omega) hpp
    have hlen : ps.length ≤ 30 := by
      refine len_le hw hn ?_
      have h1 : 2 ^ s ≤ 2 ^ 972 := Nat.pow_le_pow_right (by decide) (by omega)
      have h2 : M * 2 ^ s ≤ 9007199254740992 * 2 ^ 972 := Nat.mul_le_mul (by omega) h1
      have h3 : 9007199254740992 * 2 ^ 972 < 2 ^ 1920 := by decide +kernel
      rw [hv, show (18446744073709551616 : Int) ^ 30 = ((2 ^ 1920 : Nat) : Int) by decide +kernel, show (2 : Int) ^ s = ((2 ^ s : Nat) : Int) by simp, ← Int.natCast_mul]
      exact Int.ofNat_lt.2 (Nat.lt_of_le_of_lt h2 h3)
    have hpos : 0 < ps.length := by
      cases ps with
      | nil =>
        rw [show nv [] = 0 from rfl] at hv
        omega
      | cons a b => simp
    refine ⟨v, _, ps, [1], kb, sv, ⟨_, _, rfl, by simp, (WB.rd (o := 0) (xs := [(1 : Int)]) (zs := []) wb1 rfl).mono (fun k hk => by subst hk; exact ⟨lg, wb1.lt⟩)⟩, ⟨hw, hn, WL.one (by decide) (by decide), by show ¬ ((1 : Int) = 0); decide⟩, ⟨hpos, by simp, hlen, by simp⟩, .inr rfl, ?_, ?_, T4.trans bt⟩
    · rw [show nv [1] = 1 from rfl]
      exact Nat.gcd_one_right _
    · obtain ⟨k, e1, e2, e3⟩ := hR
      rw [hv, e2, show nv [1] = 1 from rfl, Int.mul_one]
      by_cases hk : k = 0
      · have f1 : (fs u).toNat = 0 := by omega
        have f2 : (-(fs u)).toNat = s := by omega
        rw [f1, f2, hk, show (2 : Int) ^ 0 = 1 from rfl, Nat.pow_zero, Nat.mul_one, Int.mul_one]
      · have h0 := e3 (by omega)
        have hs0 : s = 0 := by omega
        have f1 : (fs u).toNat = k := by omega
        have f2 : (-(fs u)).toNat = 0 := by omega
        rw [f1, f2, hs0, show (2 : Int) ^ 0 = 1 from rfl, Int.mul_one, Int.mul_one, Int.natCast_mul]
        simp
  by_cases hs0 : s = 0
  · subst hs0
    have HL : Calls Tryz.prog 180 #[.slice (some ⟨g0, 0, none⟩) 1 1, .slice (some ⟨g0, 0, none⟩) 1 1, .int .u64 0] w4.drew fun e w' => e = .returned (.slice (some ⟨g0, 0, none⟩) 1 1) ∧ ∃ m, w4.drewN m = w' := by
      refine (lsh_same g0 0 1 1 (by decide) w4.drew).mono ?_
      rintro e w' ⟨rfl, m, rfl⟩
      exact ⟨rfl, 1 + m, by rw [show w4.drew = w4.drewN 1 from rfl, World.drewN_drewN]⟩
    refine (intLsh_id rb 0 (fneg u) (some ⟨g0, 0, none⟩) 1 1 _ _ w4 K4 (by rw [K4.cell]; rfl) (by rw [K4.cell]; rfl) HL).mono ?_
    rintro e w' ⟨rfl, ha⟩
    have hbt := ((But.refl (fun k => k = rb) w4).set (p := ⟨rb, 0 + 1, none⟩) rfl (.slice (some ⟨g0, 0, none⟩) 1 1)).set (p := ⟨rb, 0, none⟩) rfl (.bool (fneg u))
    have wb0' : WB w' g0 [(M : Int)] := Blk.keep wb0 ((hbt.alk ha).block g0 wb0.lt (by omega))
    refine ⟨rfl, key [(M : Int)] (.slice (some ⟨g0, 0, none⟩) 1 1) w' (ha.blk ((K4.set 1 _).set 0 _)) ⟨_, _, rfl, by simp, (WB.rd (o := 0) (xs := [(M : Int)]) (zs := []) wb0' rfl).mono (fun k hk => by subst hk; exact ⟨lg0, wb0'.lt⟩)⟩ (WL.one (by omega) (by omega)) (by show ¬ ((M : Int) = 0); omega) (by simp [nv]) (hbt.alk ha)⟩
  · refine (intLsh_one rb 0 g0 M s (fneg u) _ _ (by omega) (by omega) (by omega) w4 K4 (by rw [K4.cell]; rfl) (by rw [K4.cell]; rfl) (by have h := wb0.cell (i := 0) (by simp); simpa using h)).mono ?_
    rintro e w' ⟨rfl, v, ps, kb, sv, hw, hn, hv, bt⟩
    exact ⟨rfl, key ps v w' kb (sv.mono (fun k hk => ⟨by have := hk.1.1; have := T4.size; omega, hk.1.2⟩)) hw hn hv bt⟩

theorem FltB.norm {rb u : Nat} {w w5 : World} (hlb : rb < w.heap.size) (h : FltB rb u w w5) :
    Calls Tryz.prog 170 #[.pointer (some ⟨rb, 0, none⟩)] w5 fun e w' => e = .returned (.pointer (some ⟨rb, 0, none⟩)) ∧ FltOut rb u w w' := by
  obtain ⟨va, vb, ms, ds, kb, sa, sb, ⟨h1, h2, h3, h4⟩, ⟨h5, h6, h7, h8⟩, h9, h10, h11, bt⟩ := h
  refine (norm_coprime (Nw w w5) rb (fneg u) false ms ds h5 h6 (by omega) (by omega) h1 h2 h3 h4 h9 h10 va vb w5 kb sa sb (fun k hk => ⟨hk.2, by have := hk.1; omega⟩)).mono ?_
  rintro e w' ⟨rfl, kb', bt'⟩
  have hst : Still (Nw w w5) w5 w' := bt'.still (fun k hk => ⟨hk.2, by have := hk.1; omega⟩)
  have hsz := bt'.size
  exact ⟨rfl, va, vb, ms, ds, kb', (sa.keep hst).mono (fun k hk => ⟨hk.1, by have := hk.2; omega⟩), (sb.keep hst).mono (fun k hk => ⟨hk.1, by have := hk.2; omega⟩), ⟨h1, h2, h3, h4⟩, ⟨h6, h7, h8⟩, h11, h10, bt.trans bt'⟩

/-- A zero ahead of norm. -/
def FltZ (rb u : Nat) (w W : World) : Prop :=
  ∃ g1, fm u = 0 ∧ Blk W rb 292 #[.bool (fneg u), .slice none 0 0, .bool false, .slice (some ⟨g1, 0, none⟩) 1 1] ∧ WB W g1 [1] ∧ w.heap.size ≤ g1 ∧ But (fun k => k = rb) w W
theorem flt_zero {u rb g1 : Nat} {T : Int} {va : Value} {w w4 : World} (hlb : rb < w.heap.size) (hR : FltR u 0 T) (hT : T ≤ 0)
    (K4 : Blk w4 rb 292 #[.bool (fneg u), va, .bool false, .slice (some ⟨g1, 0, none⟩) 1 1]) (N4 : WB w4 g1 [1]) (lg : w.heap.size ≤ g1) (A4 : AbsAt 0 w w4 va) (T4 : But (fun k => k = rb) w w4) :
    T = 0 ∧ Calls Tryz.prog 169 #[.pointer (some ⟨rb, 0, none⟩), .pointer (some ⟨rb, 0, none⟩), .int .u64 0] w4 fun e w' => e = .returned (.pointer (some ⟨rb, 0, none⟩)) ∧ FltZ rb u w w' := by
  have hva : va = .slice none 0 0 := by
    rcases A4 with ⟨_, h⟩ | ⟨h, _⟩
    · exact h
    · exact absurd rfl h
  subst hva
  obtain ⟨k, e1, e2, e3⟩ := hR
  have hm : fm u = 0 := by rw [e2]; simp
  have hx : fs u = 1074 := by
    unfold fm at hm
    unfold fs
    split at hm
    · rename_i h
      rw [if_pos h]
    · omega
  have hT0 : T = 0 := by
    by_cases hk : k = 0
    · omega
    · have := e3 (by omega)
      omega
  refine ⟨hT0, ?_⟩
  have HL : Calls Tryz.prog 180 #[.slice none 0 0, .slice none 0 0, .int .u64 0] w4.drew fun e w' => e = .returned (.slice none 0 0) ∧ ∃ m, w4.drewN m = w' := by
    refine (lsh_nil0 w4.drew).mono ?_
    rintro e w' ⟨rfl, m, rfl⟩
    exact ⟨rfl, 1 + m, by rw [show w4.drew = w4.drewN 1 from rfl, World.drewN_drewN]⟩
  refine (intLsh_id rb 0 (fneg u) none 0 0 _ _ w4 K4 (by rw [K4.cell]; rfl) (by rw [K4.cell]; rfl) HL).mono ?_
  rintro e w' ⟨rfl, ha⟩
  have hbt := (((But.refl (fun k => k = rb) w4).set (p := ⟨rb, 0 + 1, none⟩) rfl (.slice none 0 0)).set (p := ⟨rb, 0, none⟩) rfl (.bool (fneg u))).alk ha
  exact ⟨rfl, g1, hm, ha.blk ((K4.set 1 _).set 0 _), Blk.keep N4 (hbt.block g1 N4.lt (by omega)), lg, T4.trans hbt⟩
theorem FltZ.norm {rb u : Nat} {w w5 : World} (hlb : rb < w.heap.size) (h : FltZ rb u w w5) :
    Calls Tryz.prog 170 #[.pointer (some ⟨rb, 0, none⟩)] w5 fun e w' => e = .returned (.pointer (some ⟨rb, 0, none⟩)) ∧ FltOut rb u w w' := by
  obtain ⟨g1, hm, kb, wb, lg, bt⟩ := h
  have hn : fneg u = false := by simp [fneg, hm]
  have hlt := wb.lt
  refine (norm_zero rb g1 1 (fneg u) false none 0 (by decide) w5 kb (.int .u64 1) (by have h := wb.cell (i := 0) (by simp); simpa using h) (by exact Blk.frozen wb 0) (by omega)).mono ?_
  rintro e w' ⟨rfl, ha⟩
  have h1 : WB ((w5.setCell ⟨rb, 0, none⟩ (.bool false)).setCell ⟨g1, 0, none⟩ (.int .u64 1)) g1 [1] := by
    have h := WB.set (Blk.far (p := ⟨rb, 0, none⟩) wb (by simp; omega) (.bool false)) 0 1
    simpa using h
  have h2 : WB w' g1 [1] := ha.blk (Blk.far (p := ⟨rb, 3, none⟩) h1 (by simp; omega) _)
  have hbt : But (fun k => k = rb) w w' := by
    refine ⟨ha.os.trans bt.os, ha.tape.trans bt.tape, ha.output.trans bt.output, ?_, fun k hk hne => ?_⟩
    · rw [ha.heap]
      simp [World.setCell]
      exact bt.size
    · rw [ha.heap, Below.heap_setCell _ _ _ _ (by simp; omega), Below.heap_setCell _ _ _ _ (by simp; omega), Below.heap_setCell _ _ _ _ (by simp; omega)]
      exact bt.block k hk hne
  refine ⟨rfl, .slice none 0 0, .slice (some ⟨g1, 0, none⟩) 1 1, [], [1], ?_, SlV.nil _ _ _, ⟨_, _, rfl, by simp, (WB.rd (o := 0) (xs := [(1 : Int)]) (zs := []) h2 rfl).mono (fun k hk => by subst hk; exact ⟨lg, h2.lt⟩)⟩, ⟨WL.nil, trivial, WL.one (by decide) (by decide), by show ¬ ((1 : Int) = 0); decide⟩, ⟨by simp, by simp, by simp⟩, ?_, by simp [nv], hbt⟩
  · rw [hn]
    exact ha.blk (((kb.set 0 _).far (p := ⟨g1, 0, none⟩) (by simp; omega) _).set 3 _)
  · rw [hm]
    simp [nv]
end Go.Proofs.YtloloifngbmibaaGreatDoor
