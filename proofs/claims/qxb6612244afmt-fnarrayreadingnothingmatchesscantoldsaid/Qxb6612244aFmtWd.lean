/-
  THE WALKS of zzCloneBytes (5), ZZnewTextReader (6), (*textReader).open (17) above the bound's reach.
-/
import Derived.Test.Qxb6612244aFmtWc
namespace Go.Proofs.Qxb6612244aFmt
open Go.RowKit

theorem Tryf.info5 : (Tryf.prog.info? 5).map (fun i => (i.zero, i.size, i.bytes)) = some (some (.int .u8 0), 1, 1) := by kernel_rfl
theorem Tryf.info44 : (Tryf.prog.info? 44).map (fun i => (i.zero, i.size, i.bytes)) = some (some (.agg #[.bool false, .string ⟨#[]⟩, .int .i64 0]), 3, 32) := by kernel_rfl

set_option maxHeartbeats 1000000 in
theorem clone_any {w : World} {b off n cap : Nat} {z : List Int} (hn : n ≤ 1048576) (hz : z.length = n) (hb : b < w.heap.size)
    (hc : ∀ j, j < n → w.cell? ⟨b, off + j, none⟩ = some (.int .u8 (z.getD j 0))) :
    Calls Tryf.prog 5 #[.slice (some ⟨b, off, none⟩) n cap] w fun e w' => e = .returned (.slice (some ⟨w.heap.size, 0, none⟩) n n) ∧ Dat w' w.heap.size z ∧ Below w.heap.size w w' ∧ w.heap.size < w'.heap.size := by
  obtain ⟨i0, hi, hz0, hz1, hz2⟩ := info_parts Tryf.info5
  have hnil := fun w => Lib.run_eql_slice_nil (P := Tryf.prog) w 22 5 (some ⟨b, off, none⟩) n cap 0 0 Tryf.underlying22
  go_enter Tryf.func5, Tryf.ntmps5
  go_wp2_with (at_make; refine wpList_make_full _ rfl _ _ 22 rfl w.heap.size 5 i0 (.int .u8 0) 1 Tryf.underlying22 hi hz0 hz1 _ _ _ _ n rfl rfl rfl rfl ?b2 ?b3 ?b4 ?_)
  case b2 => rw [hz2]; omega
  case b3 => unfold maxLen; omega
  case b4 => exact Nat.le_refl _
  intro w1 hown hgr
  obtain ⟨cur, hcur, hsz⟩ : ∃ cur : Array Value, w1.heap[w.heap.size]? = some (.cells cur 5 (0, 0)) ∧ cur.size = n := by
    rcases hown.2 with ⟨h, _⟩ | ⟨g, cp, cur, h, _, hg, _, _, hs, _⟩
    · simp at h
    · simp only [Value.slice.injEq, Option.some.injEq, Addr.mk.injEq, and_true, true_and] at h
      obtain ⟨rfl, rfl⟩ := h
      exact ⟨cur, hg, by simpa using hs⟩
  have hB1 : Below w.heap.size w w1 := (Below.refl _ _).grown hgr (Nat.le_refl _) (fun k h => by cases h)
  clear hown hgr
  go_wp2
  go_loopg [4] n (fun q i wr => ∃ m : Nat, m ≤ n ∧ n ≤ m + q ∧ i = .int .i64 m ∧ Below w.heap.size w wr ∧ ∃ cu : Array Value, wr.heap[w.heap.size]? = some (.cells cu 5 (0, 0)) ∧ cu.size = n ∧ ∀ j, j < m → cu[j]? = some (.int .u8 (z.getD j 0)))
  case atStart => exact ⟨0, by omega, by omega, rfl, hB1, cur, hcur, hsz, fun j h => absurd h (by omega)⟩
  case round =>
    obtain ⟨m, hm, hq, rfl, hB, cu, hcu, hs, hj⟩ := hrel
    have hlt1 := lt_of_block hcu
    by_cases hlt : m < n
    · have hx : wr.cell? ⟨b, off + m, none⟩ = some (.int .u8 (z.getD m 0)) := (hB.cell hb).trans (hc m hlt)
      have hy : wr.cell? ⟨w.heap.size, m, none⟩ = some (cu[m]'(by omega)) := by rw [cell_of_row wr _ m cu 5 (0, 0) hcu]; simp [hs, hlt]
      have hf : wr.frozen? ⟨w.heap.size, m, none⟩ = false := frozen_of_row wr _ m cu 5 hcu
      have HN : Hid (∃ cu' : Array Value, (wr.setCell ⟨w.heap.size, m, none⟩ (.int .u8 (z.getD m 0))).heap[w.heap.size]? = some (.cells cu' 5 (0, 0)) ∧ cu'.size = n ∧ ∀ j, j < m + 1 → cu'[j]? = some (.int .u8 (z.getD j 0))) := by
        refine ⟨_, heap_setCell_same wr _ m cu 5 _ hcu, by simpa using hs, fun j hjm => ?_⟩
        rw [Array.getElem?_setIfInBounds]
        by_cases e : m = j
        · subst e; simp [hs, hlt]
        · rw [if_neg e]; exact hj j (by omega)
      clear hj hcu
      generalize z.getD m 0 = x at hx HN
      go_wp2
      go_roundg (gk - 1)
      case measure => omega
      case rel => exact ⟨m + 1, by omega, by omega, by go_num, hB.setCell (Nat.le_refl _) _, HN.out⟩
    · go_wp2
      go_ret
      refine ⟨rfl, fun j h => ?_, hB, hlt1⟩
      rw [cell_of_row wr _ j cu 5 (0, 0) hcu]
      exact hj j (by omega)

theorem made3 (a b c : Value) (d i : Nat) (hi : i < d) :
    (madeCells #[a, b, c] (d * 3)).toList[i * 3]? = some a ∧ (madeCells #[a, b, c] (d * 3)).toList[i * 3 + 1]? = some b ∧ (madeCells #[a, b, c] (d * 3)).toList[i * 3 + 2]? = some c := by
  have h0 : i * 3 < d * 3 := by omega
  have h1 : i * 3 + 1 < d * 3 := by omega
  have h2 : i * 3 + 2 < d * 3 := by omega
  have e0 : i * 3 % 3 = 0 := by omega
  have e1 : (i * 3 + 1) % 3 = 1 := by omega
  have e2 : (i * 3 + 2) % 3 = 2 := by omega
  simp [madeCells, h1, h2, e1, e2, hi]

set_option maxHeartbeats 1000000 in
theorem new_any {w : World} {bd n d pos : Nat} (hd : d ≤ 32) :
    Calls Tryf.prog 6 #[.slice (some ⟨bd, 0, none⟩) n n, .int .i64 pos, .int .i64 d] w fun e w' => ∃ B, e = .returned (.pointer (some ⟨B, 0, none⟩)) ∧ w.heap.size < B ∧ Rd w' B bd n pos (.slice (some ⟨w.heap.size, 0, none⟩) d d) ∧ Zs w' w.heap.size d ∧
      (∃ xs, w'.ownsRow w.heap.size 44 3 (.slice (some ⟨w.heap.size, 0, none⟩) d d) d xs) ∧ Below w.heap.size w w' := by
  obtain ⟨i0, hi, hz0, hz1, hz2⟩ := info_parts Tryf.info44
  go_enter Tryf.func6, Tryf.ntmps6
  go_wp2_with (at_make; refine wpList_make_full _ rfl _ _ 36 rfl w.heap.size 44 i0 _ 3 Tryf.underlying36 hi hz0 hz1 _ _ _ _ d rfl rfl rfl rfl ?b2 ?b3 ?b4 ?_)
  case b2 => rw [hz2]; omega
  case b3 => unfold maxLen; omega
  case b4 => exact Nat.le_refl _
  intro w1 hown hgr
  go_wp2
  go_ret
  have hlt := hgr.size
  have hlt1 := (hown.lt _ rfl).2
  refine ⟨w1.heap.size, rfl, hlt1, heap_alloc_new _ _, fun i hi => ?_, ⟨_, hown.alloc _⟩, ((Below.refl _ _).grown hgr (Nat.le_refl _) (fun k h => by cases h)).alloc hlt _⟩
  have h3 := made3 (.bool false) (.string ⟨#[]⟩) (.int .i64 0) d i hi
  have ho := hown.alloc (.cells #[.slice (some ⟨bd, 0, none⟩) n n, .int .i64 pos, .slice (some ⟨w.heap.size, 0, none⟩) d d, .slice none 0 0, .bool false] 40)
  refine ⟨?_, ?_, ?_⟩
  · rw [ho.cellAt _ (by omega)]; exact h3.1
  · rw [ho.cellAt _ (by omega)]; exact h3.2.1
  · rw [ho.cellAt _ (by omega)]; exact h3.2.2

end Go.Proofs.Qxb6612244aFmt
