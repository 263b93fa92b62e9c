/-
  THE WALKS of ZZscan (18), ZZfield (19), zzmReadAll (7).
-/
import Derived.Test.Qxb6613537aFmtWl
import Derived.Test.Qxb6613537aFmtWn
import Derived.Test.Qxb6613537aFmtWo
namespace Go.Proofs.Qxb6613537aFmt
open Go.RowKit
open Pl

/-- What every world of the law holds. -/
structure Gl (w : World) (ev : Value) (m : Int) : Prop where
  hT : Lib.Utf8Tabs 8 9 w
  hm : w.cell? ⟨7, 0, none⟩ = some (.int .i64 m)
  he : w.cell? ⟨4, 0, none⟩ = some ev
  hev : ∃ ty pe, ev = .iface ty (.pointer pe)

theorem cell_kept {w w' : World} (hb : Below w.heap.size w w') {p : Addr} {v : Value} (h : w.cell? p = some v) : w'.cell? p = some v := by
  rw [hb.cell (World.block_lt_of_cell? w p h)]; exact h

theorem Gl.below {w w' : World} {ev : Value} {m : Int} (h : Gl w ev m) (hb : Below w.heap.size w w') : Gl w' ev m := ⟨tabs_below h.hT hb, cell_kept hb h.hm, cell_kept hb h.he, h.hev⟩

theorem Gl.ten {w : World} {ev : Value} {m : Int} (h : Gl w ev m) : 10 ≤ w.heap.size := by
  have := World.block_lt_of_cell? w _ (h.hT.2 0 (by omega)).1
  have h2 : (9 : Nat) < w.heap.size := this
  omega

/-- The blocks of other kinds stay. -/
def FrT (w w' : World) : Prop := ∀ (g : Nat) (cur : Array Value) (T : TypeId), w.heap[g]? = some (.cells cur T (0, 0)) → T ≠ 65 → T ≠ 58 → T ≠ 5 → w'.heap[g]? = some (.cells cur T (0, 0))

structure RSt (w : World) (Bs M S R : Nat) (src : ByteArray) (rem : List UInt8) (ev : Value) : Prop where
  m : w.cell? ⟨M, 0, none⟩ = some (.pointer (some ⟨S, 0, none⟩))
  mb : ∃ cm, w.heap[M]? = some (.cells cm 50 (0, 0))
  st : ∃ B N st en i tok eof emp sc cur X, Sc w S R B src i N st en tok (ErrV eof ev) emp sc cur ∧ st ≤ en ∧ en ≤ N ∧ 65536 ≤ N ∧ N ≤ 2097152 ∧ i ≤ src.size ∧ (eof = true → i = src.size) ∧ (cur.toList.drop st).take (en - st) = Lib.byteCells X ∧ X ++ src.data.toList.drop i = rem ∧ Bs ≤ B
  hS : Bs ≤ S
  hR : Bs ≤ R

/-- What a scan leaves. -/
def StepEnd (w : World) (Bs M S R : Nat) (src : ByteArray) (rem : List UInt8) (ev : Value) (e : Ending) (w' : World) : Prop :=
  FrT w w' ∧ Below Bs w w' ∧ ((rem = [] ∧ e = .returned (.bool false)) ∨ (rem ≠ [] ∧ e = .returned (.bool true) ∧ RSt w' Bs M S R src (rem.drop (tokLen rem)) ev ∧
    ∃ B st c, w'.cell? ⟨S, 3, none⟩ = some (.slice (some ⟨B, st, none⟩) (tokLen rem) c) ∧ tokLen rem ≤ c ∧ c ≤ 2097152 ∧ ∀ j x, (rem.take (tokLen rem))[j]? = some x → w'.cell? ⟨B, st + j, none⟩ = some (.int .u8 x.toNat)))

theorem frT_kept {w w' : World} {S R B0 : Nat} {cs cr cb : Array Value} (hS : w.heap[S]? = some (.cells cs 65 (0, 0))) (hR : w.heap[R]? = some (.cells cr 58 (0, 0))) (hB : w.heap[B0]? = some (.cells cb 5 (0, 0))) (h : Kept w w' (X3 S R B0)) : FrT w w' := by
  intro g cur T hg h1 h2 h3
  rw [h.block g (lt_of_block hg) ?_]
  · exact hg
  · rintro (h | h | h)
    · exact block_ne hg hS h1 h
    · exact block_ne hg hR h2 h
    · exact block_ne hg hB h3 h

set_option maxHeartbeats 2000000 in
theorem step_any (w : World) (Bs M S R : Nat) (src : ByteArray) (rem : List UInt8) (ev : Value) (m : Int) (gl : Gl w ev m) (h10 : 10 ≤ Bs) (hBw : Bs ≤ w.heap.size) (hrem : rem.length ≤ 1048576) (hsrc : src.size ≤ 1048576) (h : RSt w Bs M S R src rem ev) :
    Calls Tryf.prog 18 #[.pointer (some ⟨M, 0, none⟩)] w (StepEnd w Bs M S R src rem ev) := by
  obtain ⟨B, N, st, en, i, tok, eof, emp, sc, cur, X, hsc, a1, a2, a3, a4, a5, a6, a7, a8, a9⟩ := h.st
  obtain ⟨pr, hR⟩ := hsc.hR
  have hRS : R ≠ S := block_ne hR hsc.hS (by decide)
  have hBS : B ≠ S := block_ne hsc.hB hsc.hS (by decide)
  have cx : Cx w S R B src ev m := ⟨gl.hT, gl.hm, gl.he, gl.hev, hsrc, Nat.le_trans h10 h.hS, Nat.le_trans h10 h.hR, Nat.le_trans h10 a9⟩
  have hls : LS w (w.setCell ⟨S, 9, none⟩ (.bool true)) S R B src rem B N st en i tok (ErrV eof ev) emp cur X :=
    ⟨⟨set_block w S 9 (.bool true) _ 65 hsc.hS, ⟨pr, (set_other w S 9 R _ hRS).trans hR⟩, (set_other w S 9 B _ hBS).trans hsc.hB, hsc.hN⟩, a1, a2, a3, a4, a5, a7, a8, Kept.set (X := X3 S R B) (Kept.refl w _) (Or.inl rfl) _, Or.inl rfl⟩
  have c9 := (cell_of_row w S 9 _ 65 (0, 0) hsc.hS)
  have c10 := (cell_of_row w S 10 _ 65 (0, 0) hsc.hS)
  have SC : Hid (_) := scan_any w S R B src rem hrem ev m cx B N st en i tok eof emp sc cur X hls a6 (c9.trans rfl) (frozen_of_row w S 9 _ 65 hsc.hS) (c10.trans rfl)
  have FIN : Hid (∀ e w', ScanEnd w S R B src rem ev e w' → StepEnd w Bs M S R src rem ev e w') := by
    intro e w' hend
    rcases hend with ⟨r0, rfl, hk⟩ | ⟨r0, rfl, B', N', st', en', i', eof', emp', cur', X', c, hl, he, hc1, hc2, htk⟩
    · exact ⟨frT_kept hsc.hS hR hsc.hB hk, hk.below hBw (by rintro j (h1 | h1 | h1) <;> subst h1 <;> first | exact h.hS | exact h.hR | exact a9), Or.inl ⟨r0, rfl⟩⟩
    · have hfr := frT_kept hsc.hS hR hsc.hB hl.kept
      obtain ⟨cm, hM⟩ := h.mb
      have hM' := hfr M cm 50 hM (by decide) (by decide) (by decide)
      have hB' : Bs ≤ B' := by rcases hl.hB with h1 | h1 <;> omega
      refine ⟨hfr, hl.kept.below hBw (by rintro j (h1 | h1 | h1) <;> subst h1 <;> first | exact h.hS | exact h.hR | exact a9), Or.inr ⟨r0, rfl, ⟨?_, ⟨cm, hM'⟩, ⟨B', N', _, en', i', _, eof', emp', true, cur', X', hl.sc, hl.hst, hl.hen, hl.hN1, hl.hN2, hl.hi, he, hl.data, hl.eq, hB'⟩, h.hS, h.hR⟩, B', st', c, ?_, hc1, hc2, ?_⟩⟩
      · rw [World.cell?_of_block (w := w) (hM'.trans hM.symm)]; exact h.m
      · rw [cell_of_row w' S 3 _ 65 (0, 0) hl.sc.hS]; rfl
      · intro j x hj
        have hjl : j < tokLen rem := by
          have := (List.getElem?_eq_some_iff.1 hj).1
          rw [List.length_take] at this
          omega
        have h1 : (Lib.byteCells (rem.take (tokLen rem)))[j]? = some (.int .u8 x.toNat) := by simp only [Lib.byteCells, List.getElem?_map, hj]; rfl
        rw [← htk, List.getElem?_take_of_lt hjl, List.getElem?_drop] at h1
        rw [cell_of_row w' B' _ _ 5 (0, 0) hl.sc.hB, ← Array.getElem?_toList]
        exact h1
  have hm := h.m
  clear hls cx gl h hsc a1 a2 a3 a4 a5 a6 a7 a8 a9 c9 c10
  go_enter Tryf.func18, Tryf.ntmps18
  go_wp2_with fail
  refine Calls.mono SC.out ?_
  intro e w1 hend
  rcases hend with ⟨r0, rfl, hk⟩ | ⟨r0, rfl, hk⟩
  · replace r0 : Hid (_) := r0
    replace hk : Hid (_) := hk
    go_wp2
    go_ret
    exact FIN.out _ _ (Or.inl ⟨r0.out, rfl, hk.out⟩)
  · replace r0 : Hid (rem ≠ []) := r0
    replace hk : Hid (_) := hk
    go_wp2
    go_ret
    exact FIN.out _ _ (Or.inr ⟨r0.out, rfl, hk.out⟩)

set_option maxHeartbeats 2000000 in
theorem zzfield_any (M S B st c : Nat) (f : List UInt8) (tl : List UInt8) (eb : Bool) (w : World) (hM : w.cell? ⟨M, 0, none⟩ = some (.pointer (some ⟨S, 0, none⟩))) (h3 : w.cell? ⟨S, 3, none⟩ = some (.slice (some ⟨B, st, none⟩) (f.length + tl.length) c)) (hc : f.length + tl.length ≤ c) (hcm : c ≤ 2097152)
    (hb : Hid (∀ j x, (f ++ tl)[j]? = some x → w.cell? ⟨B, st + j, none⟩ = some (.int .u8 x.toNat))) (htl : (tl = [] ∧ f ≠ [] ∧ (∀ x ∈ f, isSep x = false) ∧ eb = false) ∨ (tl = [32] ∧ eb = false) ∨ (tl = [10] ∧ eb = true)) :
    Calls Tryf.prog 19 #[.pointer (some ⟨M, 0, none⟩)] w fun e w' => FieldEnd f eb e ∧ Below w.heap.size w w' := by
  have FA : Hid (_) := field_any M S B st c f tl eb w hM h3 hc hcm hb htl
  clear hM h3 hc hcm hb htl
  go_enter Tryf.func19, Tryf.ntmps19
  go_wp2_with fail
  refine Calls.mono FA.out ?_
  rintro e w1 ⟨hE, hb1⟩
  replace hb1 : Hid (_) := hb1
  rcases hE with ⟨hok, rfl⟩ | ⟨hok, t, v, rfl⟩
  · go_wp2
    go_ret3
    exact ⟨Or.inl ⟨hok, rfl⟩, hb1.out⟩
  · go_wp2
    go_ret3
    exact ⟨Or.inr ⟨hok, _, _, rfl⟩, hb1.out⟩

end Go.Proofs.Qxb6613537aFmt
