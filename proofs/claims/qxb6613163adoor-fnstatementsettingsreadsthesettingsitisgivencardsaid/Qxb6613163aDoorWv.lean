/-
  THE WALK of Itoa (10).
-/
import Derived.Test.Qxb6613163aDoorWc
import Derived.Lib.SlBytesRow
namespace Go.Proofs.Qxb6613163aDoor
open Go.RowKit

def digF : Nat → Nat → List UInt8 → List UInt8
  | 0, _, acc => acc
  | f + 1, x, acc => if x = 0 then acc else digF f (x / 10) (UInt8.ofNat (48 + x % 10) :: acc)

def digs (x : Nat) : List UInt8 := if x = 0 then [48] else digF 20 x []

set_option maxHeartbeats 4000000 in
set_option maxRecDepth 100000 in
theorem itoa_any (x : Nat) (w : World) (hx : x < 18446744073709551616) :
    Calls Tryd.prog 10 #[.int .u64 x] w fun e w' => e = .returned (.string ⟨(digs x).toArray⟩) ∧ Below w.heap.size w w' := by
  by_cases h0 : x = 0
  · subst h0
    go_enter Tryd.func10, Tryd.ntmps10
    go_wp2
    go_ret
    exact ⟨rfl, Below.refl _ _⟩
  have e0 : ((x : Int) == 0) = false := by rw [beq_eq_false_iff_ne]; omega
  obtain ⟨D, hD⟩ : ∃ D, digs x = D := ⟨_, rfl⟩
  rw [hD]
  have hD2 : Hid (digF 20 x [] = D) := by rw [← hD]; exact (if_neg h0).symm
  have hxne : Hid (x ≠ 0) := h0
  clear hD h0
  go_enter Tryd.func10, Tryd.ntmps10
  go_wp2
  go_loopg [4, 0] 20 (fun q iv xv wr => ∃ (i x' : Nat) (acc : List UInt8) (cur : Array Value), i ≤ 20 ∧ (x' = 0 → i < 20) ∧ i ≤ q ∧ iv = .int .i64 i ∧ xv = .int .u64 x' ∧ x' < 18446744073709551616 ∧ Hid (x' < 10 ^ i) ∧ acc.length = 20 - i ∧ Hid (digF i x' acc = D) ∧ Hid (wr.heap[w.heap.size]? = some (.cells cur 49 (0, 0))) ∧ cur.size = 20 ∧ Hid (cur.toList.drop i = Lib.byteCells acc) ∧ Hid (Below w.heap.size w wr))
  case atStart =>
    refine ⟨20, x, [], _, by omega, fun h => absurd h hxne.out, by omega, rfl, rfl, hx, ?_, rfl, hD2, heap_alloc_new w _, ?_, ?_, (Below.refl _ w).alloc (Nat.le_refl _) _⟩
    · show x < 10 ^ 20; omega
    · rfl
    · rfl
  case round =>
    obtain ⟨i, x', acc, cur, hi, hi20, hq, rfl, rfl, hx', HP, hal, HD, Hb, hcs, Hc, HB⟩ := hrel
    by_cases hx0 : x' = 0
    · subst hx0
      have HF : Hid (acc = D) := by
        show acc = D
        rw [← HD.out]
        cases i with
        | zero => rfl
        | succ i => simp [digF]
      have hby : Lib.Bytes wr w.heap.size i ⟨acc.toArray⟩ := fun j hj => by
        have hj' : j < acc.length := hj
        rw [cell_of_row wr _ _ _ 49 (0, 0) Hb.out, ← Array.getElem?_toList]
        have e : (cur.toList.drop i)[j]? = cur.toList[i + j]? := List.getElem?_drop
        rw [← e, Hc.out]
        simp [Lib.byteCells, hj']
        rfl
      have hconv : (convert 41 9 (.slice (some ⟨w.heap.size, i, none⟩) (20 - i) (20 - i))).run Tryd.prog wr = .ok (.string ⟨acc.toArray⟩) wr := by
        have := Lib.run_convert_whole (P := Tryd.prog) wr 41 5 9 Tryd.underlying41 Tryd.underlying5 Tryd.underlying9 w.heap.size i ⟨acc.toArray⟩ hby (20 - i)
        have hsz : (ByteArray.mk acc.toArray).size = 20 - i := hal
        rw [hsz] at this
        exact this
      have hi' : (i : Int) ≤ 20 := by omega
      have hi2 : i < 20 := hi20 rfl
      have hi3 : ((20 : Nat) == i) = false := by rw [beq_eq_false_iff_ne]; omega
      have hi4 : ¬ 20 = i := by omega
      clear hby HD HP hi20
      go_wp2
      go_ret
      exact ⟨by rw [← HF.out]; rfl, HB.out⟩
    · have hi1 : 1 ≤ i := by
        rcases Nat.eq_zero_or_pos i with h | h
        · subst h; have := HP.out; simp at this; omega
        · exact h
      obtain ⟨i, rfl⟩ : ∃ i', i = i' + 1 := ⟨i - 1, by omega⟩
      have hpos : decide ((0 : Int) < (x' : Int)) = true := by simp; omega
      have hcell : ∃ v, wr.cell? ⟨w.heap.size, i, none⟩ = some v := by
        rw [cell_of_row wr _ _ _ 49 (0, 0) Hb.out]
        exact ⟨cur[i], Array.getElem?_eq_getElem (by omega)⟩
      obtain ⟨v, hcell⟩ := hcell
      have hfz : wr.frozen? ⟨w.heap.size, i, none⟩ = false := frozen_of_row wr _ i _ 49 Hb.out
      have hii : ((i + 1 : Nat) : Int) - 1 = (i : Int) := by omega
      have hix : (i : Int) < 20 := by omega
      have HP2 : Hid (x' / 10 < 10 ^ i) := by
        show x' / 10 < 10 ^ i
        have := HP.out
        rw [Nat.pow_succ] at this
        omega
      have HD3 : Hid (digF i (x' / 10) (UInt8.ofNat (48 + x' % 10) :: acc) = D) := by
        show _ = D
        rw [← HD.out]
        simp [digF, hx0]
      have hdv : ((UInt8.ofNat (48 + x' % 10)).toNat : Int) = 48 + (x' : Int) % 10 := by
        have h1 : x' % 10 < 10 := Nat.mod_lt _ (by omega)
        have h2 : (UInt8.ofNat (48 + x' % 10)).toNat = 48 + x' % 10 := by
          rw [UInt8.toNat_ofNat']
          exact Nat.mod_eq_of_lt (by omega)
        rw [h2]; omega
      replace hdv : Hid (_) := hdv
      clear HP HD
      go_wp2
      go_roundg i
      case measure => omega
      case rel =>
        refine ⟨i, x' / 10, UInt8.ofNat (48 + x' % 10) :: acc, cur.setIfInBounds i (.int .u8 (48 + (x' : Int) % 10)), by omega, fun _ => by omega, by omega, rfl, by go_num, by omega, HP2, by simp; omega, HD3, ?_, by simp; omega, ?_, HB.out.setCell (p := ⟨w.heap.size, i, none⟩) (Nat.le_refl _) _⟩
        · show _ = _
          simp [World.setCell, Array.getElem?_modify, Hb.out]
        · show _ = _
          rw [Array.toList_setIfInBounds, List.drop_set, if_neg (by omega), Nat.sub_self, List.drop_eq_getElem_cons (by rw [Array.length_toList]; omega), List.set_cons_zero, Hc.out]
          simp only [Lib.byteCells, List.map_cons]
          rw [hdv.out]

end Go.Proofs.Qxb6613163aDoor
