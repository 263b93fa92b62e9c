/-
  THE WALK of (*textReader).open (17), fewer than 32 deep: the place moves over the bracket; a step more on the path.
-/
import Derived.Test.Qxb6612244aFmtWd
namespace Go.Proofs.Qxb6612244aFmt
open Go.RowKit

/-- THE PATH with an open array: a row of the call's own (from block bp on) at block g: d zero steps, then an array step with index x. -/
structure Pth (w : World) (bp g d c : Nat) (x : Int) : Prop where
  own : ∃ xs, w.ownsRow bp 44 3 (.slice (some ⟨g, 0, none⟩) (d + 1) c) (d + 1) xs
  zs : Zs w g d
  l0 : w.cell? ⟨g, d * 3, none⟩ = some (.bool true)
  l1 : w.cell? ⟨g, d * 3 + 1, none⟩ = some (.string ⟨#[]⟩)
  l2 : w.cell? ⟨g, d * 3 + 2, none⟩ = some (.int .i64 x)

theorem own_facts {w : World} {bp g d c : Nat} {xs : List Value} (h : w.ownsRow bp 44 3 (.slice (some ⟨g, 0, none⟩) d c) d xs) : bp ≤ g ∧ d ≤ c ∧ c ≤ maxLen ∧ ∃ cur, w.heap[g]? = some (.cells cur 44 (0, 0)) := by
  rcases h.2 with ⟨h', _⟩ | ⟨g', cap', cur, h', hb, hg, hn, hm, _⟩
  · simp at h'
  · simp only [Value.slice.injEq, Option.some.injEq, Addr.mk.injEq, and_true, true_and] at h'
    obtain ⟨rfl, rfl⟩ := h'
    exact ⟨hb, hn, hm, cur, hg⟩

theorem own_ne {w : World} {bp g d c B bd n : Nat} {xs : List Value} {pos : Int} {pv : Value} (h : w.ownsRow bp 44 3 (.slice (some ⟨g, 0, none⟩) d c) d xs) (hr : Rd w B bd n pos pv) : g ≠ B := by
  obtain ⟨_, _, _, cur, hg⟩ := own_facts h
  intro e
  subst e
  unfold Rd at hr
  rw [hg] at hr
  simp at hr

theorem Pth.grown {w w' : World} {bp g d c : Nat} {x : Int} {r : Option Nat} (h : Pth w bp g d c x) (hg : w.grownBy w' r) (hne : some g ≠ r) : Pth w' bp g d c x := by
  obtain ⟨xs, ho⟩ := h.own
  exact ⟨⟨xs, ho.kept hg (Or.inr (by simpa [Value.ownBlock] using hne))⟩, h.zs.grown hg hne, hg.cell h.l0 hne, hg.cell h.l1 hne, hg.cell h.l2 hne⟩

theorem new_cells (w : World) (N : Nat) (hN : w.heap.size = N) (cs : List Value) (t : TypeId) : ∀ j u, cs[j]? = some u → (w.alloc (.cells cs.toArray t)).cell? ((⟨N, 0, none⟩ : Addr).add j) = some u := by
  intro j u hj
  subst hN
  rw [Addr.add_lit, Nat.zero_add, cell_of_row _ _ j _ t (0, 0) (heap_alloc_new w (.cells cs.toArray t))]
  simpa using hj

set_option maxHeartbeats 1000000 in
theorem open_any {w : World} {B bd n pos bp g d c : Nat} {xs : List Value} (hr : Rd w B bd n pos (.slice (some ⟨g, 0, none⟩) d c)) (hown : w.ownsRow bp 44 3 (.slice (some ⟨g, 0, none⟩) d c) d xs) (hz : Zs w g d)
    (hd : d ≤ 31) (hpos : pos ≤ 1048576) (hbp : bp ≤ B) :
    Calls Tryf.prog 17 #[.pointer (some ⟨B, 0, none⟩), .bool true] w fun e w' => e = .returned .nilIface ∧ ∃ g' c', Rd w' B bd n ((pos + 1 : Nat) : Int) (.slice (some ⟨g', 0, none⟩) (d + 1) c') ∧ Pth w' bp g' d c' 0 ∧ Below bp w w' := by
  obtain ⟨i0, hi, hz0, hz1, hz2⟩ := info_parts Tryf.info44
  have hne := own_ne hown hr
  obtain ⟨hbg, hdc, hcm, cur, hg⟩ := own_facts hown
  have c1 := hr.c1
  have c2 := hr.c2
  have f1 := hr.free 1
  have hB := hr.lt
  have hr1 := hr.setPos ((pos : Int) + 1)
  have ho1 := (ownsRow_setCell_other (a := ⟨B, 1, none⟩) hown (by simpa [Value.ownBlock] using hne) (.int .i64 ((pos : Int) + 1))).alloc (.cells #[.bool true, .string ⟨#[]⟩, .int .i64 0] 44)
  go_enter Tryf.func17, Tryf.ntmps17
  go_wp2_with (at_builtin; refine wpList_append_own _ rfl _ _ 36 rfl bp 44 i0 _ 3 32 Tryf.underlying36 hi hz0 hz1 hz2 rfl (by decide) _ _ _ rfl ho1 ⟨w.heap.size, 0, none⟩ 1 1 [.bool true, .string ⟨#[]⟩, .int .i64 0] rfl rfl ?c1 ?c2 ?c3 ?c4 ?c5 ?_)
  case c1 => exact new_cells _ _ (by simp [World.setCell]) [.bool true, .string ⟨#[]⟩, .int .i64 0] 44
  case c2 => intro u hu; simp at hu; rcases hu with rfl | rfl | rfl <;> rfl
  case c3 => unfold maxLen; omega
  case c4 => omega
  case c5 => simp; omega
  intro v' w1 hown' hgrow hniff
  obtain ⟨g', c', hv⟩ : ∃ g' c', v' = .slice (some ⟨g', 0, none⟩) (d + 1) c' := by
    rcases hown'.2 with ⟨_, h⟩ | ⟨g', c', _, h, _⟩
    · omega
    · exact ⟨g', c', h⟩
  rw [hv] at hown' ⊢
  clear hniff hv
  have hRn : Rd w1 B bd n ((pos : Int) + 1) (.slice (some ⟨g, 0, none⟩) d c) := (hr1.alloc _).grown hgrow (by simpa [Value.ownBlock] using fun e => hne e.symm)
  have hbel : Below bp w w1 := (((Below.refl bp w).setCell (p := ⟨B, 1, none⟩) hbp _).alloc (by simp [World.setCell]; omega) _).grown hgrow (by simp [World.setCell]; omega) (fun k h => by simp [Value.ownBlock] at h; omega)
  have hne' := own_ne hown' hRn
  have hP : Pth w1 bp g' d c' 0 := by
    have hl := hown.1
    have hx : ∀ j, j < d * 3 → w1.cell? ⟨g', j, none⟩ = w.cell? ⟨g, j, none⟩ := fun j hj => by
      rw [hown'.cellAt j (by omega), List.getElem?_append_left (by omega), ← hown.cellAt j hj]
    refine ⟨⟨_, hown'⟩, fun i hi => ?_, ?_, ?_, ?_⟩
    · rw [hx _ (by omega), hx _ (by omega), hx _ (by omega)]; exact hz i hi
    · rw [hown'.cellAt _ (by omega), List.getElem?_append_right (by omega), hl]; simp
    · rw [hown'.cellAt _ (by omega), List.getElem?_append_right (by omega), hl]; simp
    · rw [hown'.cellAt _ (by omega), List.getElem?_append_right (by omega), hl]; simp
  have k2 := hRn.c2
  have q2 := hRn.free 2
  clear hown' hgrow ho1 hr1 c1 c2 f1 hg hr hown hz
  go_wp2
  go_ret
  have hset := grownBy_setCell (World.grownBy.refl w1 (some B)) 2 (.slice (some ⟨g', 0, none⟩) (d + 1) c')
  refine ⟨rfl, g', c', hRn.setPath _, hP.grown hset (by simpa using hne'), hbel.setCell hbp _⟩

end Go.Proofs.Qxb6612244aFmt
