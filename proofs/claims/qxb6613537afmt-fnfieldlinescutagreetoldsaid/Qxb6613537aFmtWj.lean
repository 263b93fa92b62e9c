/-
  Scan (26): bytes are read.
-/
import Derived.Test.Qxb6613537aFmtWg
import Derived.Test.Qxb6613537aFmtWh
namespace Go.Proofs.Qxb6613537aFmt
open Go.RowKit
open Pl

abbrev ePost (w0 : World) (S R B0 : Nat) (src : ByteArray) (rem : List UInt8) (ev : Value) (i : Nat) (E : Nat) : Exit → Act → World → Prop := fun e a w' =>
  match e with
  | .exit x => x = E ∧ ∃ B N st en i' tok eof emp cur X, FR S a ∧ LS w0 w' S R B0 src rem B N st en i' tok (ErrV eof ev) emp cur X ∧ (eof = true → i' = src.size) ∧ (if eof = true then 0 else src.size - i' + 1) < src.size - i + 1
  | _ => False

theorem kept_two {w0 w w' : World} {S R B0 g : Nat} (h : Kept w0 w (X3 S R B0)) (k : Kept w w' (X2 R g)) (hg : w0.heap.size ≤ g) : Kept w0 w' (X3 S R B0) :=
  ⟨k.os.trans h.os, k.tape.trans h.tape, k.output.trans h.output, Nat.le_trans h.size k.size, fun j hj hx => (k.block j (Nat.lt_of_lt_of_le hj h.size) (by
    rintro (h1 | h1)
    · exact hx (Or.inr (Or.inl h1))
    · omega)).trans (h.block j hj hx)⟩

/-- Bytes have come. -/
theorem LS.read {w0 w w' : World} {S R B0 : Nat} {src : ByteArray} {rem : List UInt8} {B N st en i : Nat} {tok err : Value} {emp : Int} {cur : Array Value} {X : List UInt8} (h : LS w0 w S R B0 src rem B N st en i tok err emp cur X) (k : Nat) (hk1 : en + k ≤ N) (hk2 : i + k ≤ src.size) (emp' : Int)
    (hS : w'.heap[S]? = some (.cells (scArr R tok B N st ((en + k : Nat) : Int) err emp' true) 65 (0, 0))) (hR : ∃ pr, w'.heap[R]? = some (.cells #[.string src, .int .i64 ((i + k : Nat) : Int), pr] 58 (0, 0)))
    (hB : w'.heap[B]? = some (.cells (splice cur.toList en (Lib.byteCells ((src.data.toList.drop i).take k))).toArray 5 (0, 0))) (hk : Kept w0 w' (X3 S R B0)) :
    LS w0 w' S R B0 src rem B N st (en + k) (i + k) tok err emp' (splice cur.toList en (Lib.byteCells ((src.data.toList.drop i).take k))).toArray (X ++ (src.data.toList.drop i).take k) := by
  have hl := h.len
  have hN := h.sc.hN
  have hst := h.hst
  have hsl : src.data.toList.length = src.size := Array.length_toList
  have hT : ((src.data.toList.drop i).take k).length = k := by rw [List.length_take, List.length_drop, hsl]; omega
  have hcl : (Lib.byteCells ((src.data.toList.drop i).take k)).length = k := by rw [Lib.byteCells_length, hT]
  have hcl2 : cur.toList.length = N := by rw [Array.length_toList]; exact hN
  refine ⟨⟨hS, hR, hB, ?_⟩, by omega, hk1, h.hN1, h.hN2, hk2, ?_, ?_, hk, h.hB⟩
  · rw [List.size_toArray, length_splice _ _ _ (by rw [hcl, hcl2]; exact hk1)]
    exact hcl2
  · show ((splice cur.toList en (Lib.byteCells ((src.data.toList.drop i).take k))).drop st).take (en + k - st) = _
    unfold splice
    have e2 : (cur.toList.take en).drop st = Lib.byteCells X := by rw [List.drop_take]; exact h.data
    have e3 : (Lib.byteCells X).length = en - st := by rw [Lib.byteCells_length, hl]
    rw [List.drop_append_of_le_length (by rw [List.length_take, hcl2]; omega), e2, show en + k - st = (Lib.byteCells X).length + k from by rw [e3]; omega, List.take_length_add_append, List.take_left' hcl]
    simp [Lib.byteCells]
  · rw [List.append_assoc, ← h.eq]
    congr 1
    rw [← List.drop_drop]
    exact List.take_append_drop k _

set_option maxHeartbeats 16000000 in
set_option maxRecDepth 1000000 in
theorem scanE (w0 : World) (S R B0 : Nat) (src : ByteArray) (rem : List UInt8) (ev : Value) (m : Int) (cx : Cx w0 S R B0 src ev m) (B N st en i : Nat) (tok : Value) (emp : Int) (cur : Array Value) (X : List UInt8) (w : World)
    (HL : Hid (LS w0 w S R B0 src rem B N st en i tok .nilIface emp cur X)) (hlt : en < N) (a : Act) (ha : FR S a) (h8 : ∃ v : Int, a.tmps[8]? = some (.int .i64 v)) (E : Nat) (hE : E = 2) :
    Code.wp Tryf.prog (((Tryf.f26.body.bind firstLoop).bind firstLoop).getD .skip) (ePost w0 S R B0 src rem ev i E) a w := by
  conv => arg 2; whnf
  obtain ⟨u, rfl⟩ := ha.open
  obtain ⟨v8, h8⟩ := h8
  have h8' : u 8 = .int .i64 v8 := Option.some.inj h8
  clear ha h8
  obtain ⟨⟨c0, c1, c2, c3, c4, c5, c6, c7, c8, c9, c10⟩, f3, f4, f5, f6, f7, f8, f9⟩ := sc_cells HL.out.sc.hS
  have hN1 := HL.out.hN1
  have hN2 := HL.out.hN2
  have hst := HL.out.hst
  have hi := HL.out.hi
  have hsrc := cx.hsrc
  have hcN := HL.out.sc.hN
  obtain ⟨pr, hR⟩ := HL.out.sc.hR
  obtain ⟨ty, pe, hev⟩ := cx.hev
  have hSB : S ≠ B := block_ne HL.out.sc.hS HL.out.sc.hB (by decide)
  have hRS : R ≠ S := block_ne hR HL.out.sc.hS (by decide)
  have hRB : R ≠ B := block_ne hR HL.out.sc.hB (by decide)
  have hSl := lt_of_block HL.out.sc.hS
  obtain ⟨_, _, g3⟩ := cx.cells HL.out.drew.kept
  have e1 : (N == en) = false := by rw [beq_eq_false_iff_ne]; omega
  have e2 : ¬ N = en := by omega
  have e3 : (en : Int) ≤ (N : Int) := by omega
  rw [h8']
  by_cases hend : i = src.size
  · subst hend
    have r0 : w.drew.cell? ⟨R, 0, none⟩ = some (.string src) := (cell_of_row w.drew _ 0 _ 58 (0, 0) hR).trans rfl
    have r1 : w.drew.cell? ⟨R, 1, none⟩ = some (.int .i64 src.size) := (cell_of_row w.drew _ 1 _ 58 (0, 0) hR).trans rfl
    have RE : Hid (_) := read_end R src ev w.drew (.slice (some ⟨B, en, none⟩) (N - en) (N - en)) r0 r1 (by omega) g3
    clear r0 r1
    go_wp2_with fail
    refine wp_region_call 20 (by kernel_rfl) (by kernel_rfl) (fun ⟨_, _, h⟩ => h) ?_
    simp only [List.take_succ_cons, List.take_zero, List.drop_succ_cons, List.drop_zero]
    repeat still_step
    try refine wpStill_nil ?_
    go_wp2_with fail
    refine Calls.mono RE.out ?_
    rintro e w1 ⟨rfl, hK1⟩
    have hS1 : w1.heap[S]? = some (.cells (scArr R tok B N st en .nilIface emp true) 65 (0, 0)) := (hK1.block S hSl (fun h => h)).trans HL.out.sc.hS
    have hR1 := (hK1.block R (lt_of_block hR) (fun h => h)).trans hR
    have hB1 := (hK1.block B (lt_of_block HL.out.sc.hB) (fun h => h)).trans HL.out.sc.hB
    have HK1 : Hid (Kept w0 w1 (X3 S R B0)) := HL.out.kept.drew.trans (hK1.mono (fun j hj => hj.elim))
    clear hK1 RE c0 c1 c2 c3 c4 c5 c6 c7 c8 c9 c10 f3 f4 f5 f6 f7 f8 f9 g3
    obtain ⟨⟨c0, c1, c2, c3, c4, c5, c6, c7, c8, c9, c10⟩, f3, f4, f5, f6, f7, f8, f9⟩ := sc_cells hS1
    replace hS1 : Hid (_) := hS1
    replace hR1 : Hid (_) := hR1
    replace hB1 : Hid (_) := hB1
    have q2 : decide ((N : Int) - (en : Int) < 0) = false := by simp; omega
    rw [hev]
    go_wp2_with fail
    go_quiet (fail)
    have SE : Hid (_) := setErr_nil S ((w1.drewN nq).setCell ⟨S, 6, none⟩ (.int .i64 en)) (by
      rw [cell_of_row _ _ 7 _ 65 (0, 0) (set_block (w1.drewN nq) _ _ _ _ _ hS1.out)]; rfl) (frozen_of_row _ _ 7 _ 65 (set_block (w1.drewN nq) _ _ _ _ _ hS1.out)) (.iface ty (.pointer pe)) ty pe rfl
    go_wp2_with fail
    refine Calls.mono SE.out ?_
    rintro e w2 ⟨rfl, n2, rfl⟩
    go_wp2
    refine ⟨hE.symm, B, N, st, en, src.size, tok, true, emp, cur, X, ⟨rfl, rfl, rfl⟩, ⟨⟨?_, ⟨pr, (set_other _ S _ R _ hRS).trans ((set_other _ S _ R _ hRS).trans hR1.out)⟩, (set_other _ S _ B _ (Ne.symm hSB)).trans ((set_other _ S _ B _ (Ne.symm hSB)).trans hB1.out), hcN⟩, hst, HL.out.hen, hN1, hN2, hi, HL.out.data, HL.out.eq, ?_, HL.out.hB⟩, fun _ => rfl, ?_⟩
    · have := set_block _ _ 7 (.iface ty (.pointer pe)) _ _ (set_block (w1.drewN nq) _ 6 (.int .i64 en) _ _ hS1.out)
      refine this.trans ?_
      simp [scArr, ErrV, hev]
    · exact Kept.set (X := X3 S R B0) ((Kept.set (X := X3 S R B0) (HK1.out.drewN nq) (Or.inl rfl) _).drewN n2) (Or.inl rfl) _
    · rw [if_pos rfl]; omega
  · have RS : Hid (_) := read_some R B en (N - en) i src pr w.drew cur hR HL.out.sc.hB (by omega) (by omega) (by omega) (by omega) (by omega)
    go_wp2_with fail
    refine wp_region_call 20 (by kernel_rfl) (by kernel_rfl) (fun ⟨_, _, h⟩ => h) ?_
    simp only [List.take_succ_cons, List.take_zero, List.drop_succ_cons, List.drop_zero]
    repeat still_step
    try refine wpStill_nil ?_
    go_wp2_with fail
    refine Calls.mono RS.out ?_
    rintro e w1 ⟨k, hk0, hk1, hk2, rfl, hK1, hR1, hB1⟩
    have hS1 : w1.heap[S]? = some (.cells (scArr R tok B N st en .nilIface emp true) 65 (0, 0)) := (hK1.block S hSl (by rintro (h | h) <;> omega)).trans HL.out.sc.hS
    have HK1 : Hid (Kept w0 w1 (X3 S R B0)) := by
      rcases HL.out.hB with h | h
      · exact HL.out.kept.drew.trans (hK1.mono (fun j hj => by
          rcases hj with h1 | h1
          · exact Or.inr (Or.inl h1)
          · exact Or.inr (Or.inr (by rw [h1, h]))))
      · exact kept_two HL.out.kept.drew hK1 h
    clear hK1 RS c0 c1 c2 c3 c4 c5 c6 c7 c8 c9 c10 f3 f4 f5 f6 f7 f8 f9 g3
    obtain ⟨⟨c0, c1, c2, c3, c4, c5, c6, c7, c8, c9, c10⟩, f3, f4, f5, f6, f7, f8, f9⟩ := sc_cells hS1
    replace hS1 : Hid (_) := hS1
    replace hR1 : Hid (_) := hR1
    replace hB1 : Hid (_) := hB1
    have q1 : decide ((k : Int) < 0) = false := by simp
    have q2 : decide ((N : Int) - (en : Int) < (k : Int)) = false := by simp; omega
    have q3 : decide ((0 : Int) < (k : Int)) = true := by simp; omega
    have q4 : decide (0 < k) = true := by simp; omega
    go_wp2_with fail
    go_quiet (fail)
    go_wp2
    refine ⟨hE.symm, B, N, st, en + k, i + k, tok, false, 0, _, _, ⟨rfl, rfl, rfl⟩, HL.out.read k (by omega) (by omega) 0 ?_ ⟨_, (set_other _ S _ R _ hRS).trans ((set_other _ S _ R _ hRS).trans hR1.out)⟩ ((set_other _ S _ B _ (Ne.symm hSB)).trans ((set_other _ S _ B _ (Ne.symm hSB)).trans hB1.out)) ?_, fun h => absurd h (by decide), ?_⟩
    · have := set_block _ _ 8 (.int .i64 0) _ _ (set_block (w1.drewN nq) _ 6 (.int .i64 ((en : Int) + (k : Int))) _ _ hS1.out)
      rw [this]
      simp [scArr]
    · exact Kept.set (X := X3 S R B0) (Kept.set (X := X3 S R B0) (HK1.out.drewN nq) (Or.inl rfl) _) (Or.inl rfl) _
    · rw [if_neg (by decide)]; omega

end Go.Proofs.Qxb6613537aFmt
