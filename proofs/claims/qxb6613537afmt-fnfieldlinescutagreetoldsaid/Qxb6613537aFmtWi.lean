/-
  Scan (26): the buffer grows.
-/
import Derived.Test.Qxb6613537aFmtWh
import Derived.OwnWalk
namespace Go.Proofs.Qxb6613537aFmt
open Go.RowKit
open Pl

abbrev dPost (w0 : World) (S R B0 : Nat) (src : ByteArray) (rem : List UInt8) (i : Nat) (X : List UInt8) : Exit → Act → World → Prop := fun e a w' =>
  match e with
  | .normal => ∃ B N st en tok emp cur, FR S a ∧ LS w0 w' S R B0 src rem B N st en i tok .nilIface emp cur X ∧ en < N
  | _ => False

set_option maxHeartbeats 16000000 in
set_option maxRecDepth 1000000 in
theorem scanD (w0 : World) (S R B0 : Nat) (src : ByteArray) (rem : List UInt8) (hrem : rem.length ≤ 1048576) (B N i : Nat) (tok : Value) (emp : Int) (cur : Array Value) (X : List UInt8) (w : World)
    (HL : Hid (LS w0 w S R B0 src rem B N 0 N i tok .nilIface emp cur X)) (a : Act) (ha : FR S a) :
    Code.wp Tryf.prog ((Tryf.f26.body.bind (thenOf 195)).getD .skip) (dPost w0 S R B0 src rem i X) a w := by
  conv => arg 2; whnf
  obtain ⟨u, rfl⟩ := ha.open
  clear ha
  obtain ⟨i5, hi5, z5a, z5b, z5c⟩ := info_parts Tryf.info5
  obtain ⟨⟨c0, c1, c2, c3, c4, c5, c6, c7, c8, c9, c10⟩, f3, f4, f5, f6, f7, f8, f9⟩ := sc_cells HL.out.sc.hS
  have hN1 := HL.out.hN1
  have hN2 := HL.out.hN2
  have hXl := HL.out.len
  rw [Nat.sub_zero] at hXl
  have hN3 : N ≤ 1048576 := by
    have := congrArg List.length HL.out.eq
    rw [List.length_append] at this
    omega
  have hcN := HL.out.sc.hN
  have hBl : B < w.heap.size := lt_of_block HL.out.sc.hB
  obtain ⟨pr, hR⟩ := HL.out.sc.hR
  have hRS : R ≠ S := block_ne hR HL.out.sc.hS (by decide)
  have hRl := lt_of_block hR
  have hSl := lt_of_block HL.out.sc.hS
  have g1 : decide ((9223372036854775807 : Int) ≤ (N : Int)) = false := by simp; omega
  have g2 : decide ((4611686018427387903 : Int) < (N : Int)) = false := by simp; omega
  have g3 : ((N : Int) * 2 == 0) = false := by rw [beq_eq_false_iff_ne]; omega
  have g4 : ¬ ((9223372036854775807 : Int) < (N : Int) * 2) := by omega
  have g5 : (N : Int) * 2 ≤ 9223372036854775807 := by omega
  obtain ⟨cs, hcs⟩ : ∃ cs, Lib.byteCells X = cs := ⟨_, rfl⟩
  have hcl : cs.length = N := by rw [← hcs, Lib.byteCells_length, hXl]
  have hcs1 : Hid (∀ v ∈ cs, v.oneCell' = true) := by
    show ∀ v ∈ cs, v.oneCell' = true
    rw [← hcs]; exact Lib.byteCells_one X
  have hcells : Hid (∀ j v, cs[j]? = some v → w.cell? ⟨B, j, none⟩ = some v) := fun j v hj => by
    rw [← hcs] at hj
    simp only [Lib.byteCells, List.getElem?_map] at hj
    cases hx : X[j]? with
    | none => rw [hx] at hj; simp at hj
    | some x =>
      rw [hx] at hj
      simp at hj
      subst hj
      have := HL.out.bytes j x hx
      rwa [Nat.zero_add] at this
  replace hcs : Hid (_) := hcs
  have hSk : Hid (_) := HL.out.sc.hS
  have hRk : Hid (_) := hR
  go_wp2_with fail
  go_quiet (fail)
  go_wp2_with (at_make; refine wpList_make_full _ rfl _ _ 43 rfl w.heap.size 5 i5 _ 1 Tryf.underlying43 hi5 z5a z5b _ _ _ _ (N * 2) rfl rfl (by omega) (by omega) ?q1 ?q2 ?q3 ?_)
  case q1 => rw [z5c]; omega
  case q2 => unfold maxLen; omega
  case q3 => exact Nat.le_refl _
  intro w1 o1 gr1
  obtain ⟨cur1, hG1, hcs1', _⟩ := make_block o1
  have hS1 := (gr1.block S hSl (by simp)).trans hSk.out
  have hR1 := (gr1.block R hRl (by simp)).trans hRk.out
  have hcells1 : Hid (∀ j v, cs[j]? = some v → w1.drew.cell? ⟨B, j, none⟩ = some v) := fun j v hj => by
    have h1 : w1.cell? ⟨B, j, none⟩ = w.cell? ⟨B, j, none⟩ := World.cell?_of_block (w := w) (gr1.block B hBl (by simp))
    show w1.cell? ⟨B, j, none⟩ = some v
    rw [h1]
    exact hcells.out j v hj
  have hk01 : Hid (Kept w0 w1 (X3 S R B0)) := HL.out.kept.trans ⟨gr1.os, gr1.tape, gr1.output, gr1.size, fun j hj _ => gr1.block j hj (by simp)⟩
  have hGS : w.heap.size ≠ S := by omega
  have hGR : w.heap.size ≠ R := by omega
  have hSG : S ≠ w.heap.size := by omega
  have hRG : R ≠ w.heap.size := by omega
  have hw0 := HL.out.kept.size
  clear o1 gr1 hcells c0 c1 c2 c3 c4 c5 c6 c7 c8 c9 c10 f3 f4 f5 f6 f7 f8 f9 hSk hRk
  obtain ⟨⟨c0, c1, c2, c3, c4, c5, c6, c7, c8, c9, c10⟩, f3, f4, f5, f6, f7, f8, f9⟩ := sc_cells hS1
  have c5' : w1.cell? ⟨S, 5, none⟩ = some (.int .i64 0) := c5
  clear c5
  have hSl1 := lt_of_block hS1
  have hRl1 := lt_of_block hR1
  replace hS1 : Hid (_) := hS1
  replace hR1 : Hid (_) := hR1
  have hGk : Hid (w1.drew.heap[w.heap.size]? = some (.cells cur1.toList.toArray 5 (0, 0))) := hG1
  clear hG1
  generalize hG : w.heap.size = G at *
  have e1 : (N == 0) = false := by rw [beq_eq_false_iff_ne]; omega
  go_wp2_with fail
  refine wp_region_tail 14 (by kernel_rfl) (by kernel_rfl) ?_
  simp only [List.take_succ_cons, List.take_zero, List.drop_succ_cons, List.drop_zero]
  repeat still_step
  try refine wpStill_nil ?_
  refine wpList_copy_kept rfl (.tmp 233) (.tmp 246) 43 43 rfl 5 Tryf.underlying43 info5s (some ⟨G, 0, none⟩) (some ⟨B, 0, none⟩) (N * 2) (N * 2) N N rfl rfl G 0 cur1.toList 5 hGk.out cs (by rw [hcl]; exact (Nat.min_eq_left (by omega)).symm) (fun _ => ⟨rfl, ⟨B, 0, none⟩, rfl, fun j v hj => by rw [Addr.add_lit, Nat.zero_add]; exact hcells1.out j v hj⟩) (by rw [hcl, Array.length_toList]; omega) hcs1.out ?_
  intro w2 hG2 hk2
  have hS2 := (hk2.block S hSl1 hSG).trans hS1.out
  have hR2 := (hk2.block R hRl1 hRG).trans hR1.out
  have HK2 : Hid (Kept w0 w2 (X3 S R B0)) := kept_new hk01.out.drew hk2 (by omega)
  clear hk2 hk01 c0 c1 c2 c3 c4 c5' c6 c7 c8 c9 c10 f3 f4 f5 f6 f7 f8 f9 hcells1 hGk
  obtain ⟨⟨c0, c1, c2, c3, c4, c5, c6, c7, c8, c9, c10⟩, f3, f4, f5, f6, f7, f8, f9⟩ := sc_cells hS2
  have c5' : w2.cell? ⟨S, 5, none⟩ = some (.int .i64 0) := c5
  clear c5
  replace hS2 : Hid (_) := hS2
  replace hR2 : Hid (_) := hR2
  go_wp2_with fail
  refine wp_region_tail 11 (by kernel_rfl) (by kernel_rfl) ?_
  simp only [List.take_succ_cons, List.take_zero, List.drop_succ_cons, List.drop_zero]
  repeat still_step
  try refine wpStill_nil ?_
  go_wp2
  have hxe : (N : Int) = (X.length : Int) := by omega
  rw [hxe]
  exact ⟨G, N * 2, 0, X.length, tok, emp, _, ⟨rfl, rfl, rfl⟩, HL.out.moved G (N * 2) (splice cur1.toList 0 cs) ((set_other _ S _ G _ hGS).trans ((set_other _ S _ G _ hGS).trans ((set_other _ S _ G _ hGS).trans hG2.out))) (by rw [hXl, ← hcl, splice_zero]; exact hcs.out.symm) (by rw [length_splice _ _ _ (by rw [hcl, Array.length_toList]; omega), Array.length_toList]; exact hcs1') (by omega) (by omega) (by omega) (Or.inr (by omega))
    (Kept.set (X := X3 S R B0) (Kept.set (X := X3 S R B0) (Kept.set (X := X3 S R B0) HK2.out.drew (Or.inl rfl) _) (Or.inl rfl) _) (Or.inl rfl) _) (set_block _ _ _ _ _ _ (set_block _ _ _ _ _ _ (set_block _ _ _ _ _ _ hS2.out))) ⟨pr, (set_other _ S _ R _ hRS).trans ((set_other _ S _ R _ hRS).trans ((set_other _ S _ R _ hRS).trans hR2.out))⟩, by omega⟩

end Go.Proofs.Qxb6613537aFmt
