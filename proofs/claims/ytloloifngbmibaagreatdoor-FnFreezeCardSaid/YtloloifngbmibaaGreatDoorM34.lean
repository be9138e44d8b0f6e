/- Telling: what a frozen list's and a frozen set's iterators tell. -/
import Derived.Test.YtloloifngbmibaaGreatDoorM33
set_option linter.unusedVariables false
set_option linter.unusedSimpArgs false
set_option maxRecDepth 4000
namespace Go.Proofs.YtloloifngbmibaaGreatDoor
open Go.RowKit

theorem NextE.last {gi c n : Nat} {TI : TypeId} {P : Value} {st : Nat → Value} {y y' : Value} {i : Nat} {w w' : World} {e : Ending} (h : NextE gi c n TI P st y i w e w') (hi : ¬ i < n) : NextE gi c n TI P st y' i w e w' := ⟨fun h' => absurd h' hi, h.2⟩
/-- What gone hands back of n values. -/
def GoneOut (ys : List Value) (n : Nat) (w : World) (e : Ending) (w' : World) : Prop := ∃ A c, e = .returned (.slice A n c) ∧ Below w.heap.size w w' ∧ Rd w' (fun k => k < w'.heap.size) A ys
theorem goneList (g n cc : Nat) (A : Option Addr) (u2 : Value) (S : Nat → Prop) (ys : List Value) (hl : ys.length = n) (hn : n ≤ 1000) (hone : ∀ y ∈ ys, ∃ T x, y = .iface T x) (w : World) (hB : Blk w g 158 #[.slice A n cc, .bool true, u2]) (hr : Rd w S A ys) (hS : ∀ k, S k → k < w.heap.size) :
    Calls Tryz.prog 75 #[.iface 193 (.pointer (some ⟨w.heap.size, 0, none⟩))] (w.alloc (.cells #[.pointer (some ⟨g, 0, none⟩), .int .i64 0] 195)) (GoneOut ys n w) := by
  have hal : Below w.heap.size w (w.alloc (.cells #[.pointer (some ⟨g, 0, none⟩), .int .i64 0] 195)) := below_al (Below.refl _ _) _
  have hs1 : (w.alloc (.cells #[.pointer (some ⟨g, 0, none⟩), .int .i64 0] 195)).heap.size = w.heap.size + 1 := by simp
  refine (gone_any n ys hl hn hone w.heap.size w.heap.size 195 (.pointer (some ⟨g, 0, none⟩)) (fun i => .int .i64 i) 193 (.pointer (some ⟨w.heap.size, 0, none⟩)) 356 355 _ hal.size (Nat.le_refl _) (Blk.new w _ _) (fun W => by kernel_rfl) (fun W c => by kernel_rfl) (fun W => by kernel_rfl) (fun W => by kernel_rfl) (fun i c u y W hW hi hc hlc hin hy => ?_) (fun W hW hi => ?_)).mono (fun e w' h => ?_)
  · have hgl := hB.lt
    have hBW := (hB.below hal hgl).below hW hgl
    by_cases hlt : i < n
    · have hy1 := hy hlt
      obtain ⟨TY, xy, rfl⟩ := hone y (List.mem_of_getElem? hy1)
      refine listNext g w.heap.size c n cc A _ _ u TY xy i hn W hBW hi hc (fun _ => ?_) (by omega) (by omega) (by omega)
      obtain ⟨b, o, hA, hSb, hce⟩ := hr.at_ (k := i) (by omega)
      have hbw := hS b hSb
      rw [List.getElem?_eq_getElem (by omega)] at hy1
      injection hy1 with hy1
      rw [hy1] at hce
      exact ⟨b, o, hA, (World.cell?_of_block (a := ⟨b, o + i, none⟩) ((hW.block b hbw).trans (hal.block b hbw))).trans hce, by omega, by omega⟩
    · exact (listNext g w.heap.size c n cc A _ _ u 145 (.int .u8 0) i hn W hBW hi hc (fun h => absurd h hlt) (by omega) (by omega) (by omega)).mono (fun e w' h => h.last hlt)
  · exact listDone g w.heap.size _ W hi (by rw [((hB.below hal hB.lt).below hW hB.lt).cell]; rfl)
  · obtain ⟨v, h1, h2, h3⟩ := h
    obtain ⟨A', c', rfl, _, hrd, _⟩ := own_rd h2
    exact ⟨A', c', h1, hal.trans h3, hrd.mono (fun k hk => hk.2)⟩
theorem goneSet (g n : Nat) (es : List En) (hnl : es.length = n) (hn : n ≤ 8) (hone : ∀ e ∈ es, ∃ T x, e.k = .iface T x) (w : World) (hB : Blk w g 175 (htC g es true).toArray) :
    Calls Tryz.prog 75 #[.iface 197 (.pointer (some ⟨w.heap.size, 0, none⟩))] (w.alloc (.cells #[.pointer (some ⟨g, 0, none⟩), ptE g n 0] 245)) (GoneOut (es.map En.k) n w) := by
  have hal : Below w.heap.size w (w.alloc (.cells #[.pointer (some ⟨g, 0, none⟩), ptE g n 0] 245)) := below_al (Below.refl _ _) _
  have hs1 : (w.alloc (.cells #[.pointer (some ⟨g, 0, none⟩), ptE g n 0] 245)).heap.size = w.heap.size + 1 := by simp
  refine (gone_any n (es.map En.k) (by rw [List.length_map, hnl]) (by omega) (fun y hy => ?_) w.heap.size w.heap.size 245 (.pointer (some ⟨g, 0, none⟩)) (ptE g n) 197 (.pointer (some ⟨w.heap.size, 0, none⟩)) 358 357 _ hal.size (Nat.le_refl _) (Blk.new w _ _) (fun W => by kernel_rfl) (fun W c => by kernel_rfl) (fun W => by kernel_rfl) (fun W => by kernel_rfl) (fun i c u y W hW hi hc hlc hin hy => ?_) (fun W hW hi => ?_)).mono (fun e w' h => ?_)
  · obtain ⟨e, he, rfl⟩ := List.mem_map.1 hy
    exact hone e he
  · have hgl := hB.lt
    have hBW := (hB.below hal hgl).below hW hgl
    by_cases hlt : i < n
    · have hil : i < es.length := by omega
      have hy1 := hy hlt
      rw [List.getElem?_map, List.getElem?_eq_getElem hil] at hy1
      injection hy1 with hy1
      obtain ⟨TY, xy, hk⟩ := hone es[i] (List.getElem_mem hil)
      rw [← hy1, hk]
      refine keyNext g w.heap.size c n u TY xy i hin hn W hi hc (fun _ => ?_) (by omega) (by omega) (by omega)
      obtain ⟨h1, _, h3⟩ := htC_entry hBW (by omega) i hil
      rw [hk] at h1
      rw [hnl] at h3
      exact ⟨h1, h3⟩
    · exact (keyNext g w.heap.size c n u 145 (.int .u8 0) i hin hn W hi hc (fun h => absurd h hlt) (by omega) (by omega) (by omega)).mono (fun e w' h => h.last hlt)
  · exact keyDone g w.heap.size _ W hi (htC_head ((hB.below hal hB.lt).below hW hB.lt)).2
  · obtain ⟨v, h1, h2, h3⟩ := h
    obtain ⟨A', c', rfl, _, hrd, _⟩ := own_rd h2
    exact ⟨A', c', h1, hal.trans h3, hrd.mono (fun k hk => hk.2)⟩

/-- The result's cells ahead of their being written. -/
@[reducible] def valZ0 : Array Value := #[.int .i64 0, .bool false, .slice none 0 0, .int .u64 0, .string { data := #[] }, .slice none 0 0]
theorem HVB.lower {B B' d : Nat} {t : Tr} {x : Vc} {W : World} (h : HVB B d t x W) (hB : B' ≤ B) : HVB B' d t x W := h.low (fun k hk => hk.elim (fun h => .inl h) (fun h => .inr (Nat.le_trans hB h)))
/-- The node's tree. -/
theorem TaR.val {d : Nat} {t : Tr} {w W : World} {A : Option Addr} {c n : Nat} (h : TaR d t.kids w n (.slice A n c) W) (hn : t.kids.length = n) (g : GoodH t) (hk : 6 ≤ t.k) : HVB w.heap.size (d + 2) t ⟨t.k, false, .slice none 0 0, 0, ⟨#[]⟩, .slice A n c⟩ W := by
  have h1 := h.row
  rw [← hn, List.take_length] at h1
  have h2 := h1.val t.k trivial
  have e1 := g.nfm (by omega)
  have e2 := g.nfb (by omega) (by omega)
  have e3 := g.notx (by omega) (by omega)
  have e : t = ⟨t.k, false, [], 0, ⟨#[]⟩, t.kids⟩ := by
    obtain ⟨k, n, m, b, x, ks⟩ := t
    simp only [Tr.neg, Tr.mag, Tr.bits, Tr.text, Tr.k, Tr.kids, noText] at e1 e2 e3 ⊢
    obtain ⟨e1a, e1b⟩ := e1
    subst e1a e1b e2 e3
    rfl
  rw [← e, hn] at h2
  exact h2
end Go.Proofs.YtloloifngbmibaaGreatDoor
