/-
  THE WALKS of bytes.makeASCIISet (45), asciiSet.contains (46), shouldUseASCIISet (44).
-/
import Derived.Test.Qxb6613537aFmtWb
import Derived.Lib.AsciiSet
import Derived.Laws.ResultCell
import Derived.Laws.Strings3
import Derived.Deep.WholeRow
namespace Go.Proofs.Qxb6613537aFmt
open Go.RowKit

theorem info85 : (Tryf.prog.info? 85).map (fun i => (i.zero, i.size)) = some (some (.agg (Array.replicate 256 (.bool false))), 256) := by kernel_rfl

theorem wp_load_whole {P : Program} {o : Oper} {a : Act} {w : World} {K : Act → World → Prop} {Q : Exit → Act → World → Prop} (t : TypeId) (p : Operand) (ho : o.op = .load t p) (pv v : Value) (ha : a.eval p = pv) (hrun : (Instr.loadAt t pv).run P w = .ok v w)
    (h : K (a.put o.dst v) w) : Oper.wp P o a w K Q := by
  unfold Oper.wp
  simp [execOp, ho, ha, hrun, Result.andThen]
  exact h

section

set_option maxHeartbeats 4000000 in
set_option maxRecDepth 1000000 in
theorem makeSet_any (chars : ByteArray) (w : World) (hs : chars.size < 4294967281)
    (hascii : Hid (∀ (j : Nat) b, chars.data.toList[j]? = some b → b.toNat < 128)) :
    Calls Tryf.prog 45 #[.string chars] w fun e w' => e = .returned (.tuple #[.agg (Lib.setCells chars.data.toList), .bool true]) ∧ w' = w.alloc (.cells (Lib.setCells chars.data.toList) 85) := by
  obtain ⟨hv85, hi85⟩ := zero_of_info info85
  go_enter Tryf.func45, Tryf.ntmps45
  go_wp2
  rw [← Lib.setCells_nil]
  go_loopg [4] chars.size (fun g s4 wx => ∃ i : Nat, i + g = chars.size ∧ s4 = .int .i64 i ∧ wx = w.alloc (.cells (Lib.setCells (chars.data.toList.take i)) 85))
  case atStart => exact ⟨0, by omega, rfl, rfl⟩
  case round =>
    obtain ⟨i, hig, rfl, rfl⟩ := hrel
    cases gk with
    | zero =>
      obtain rfl : i = chars.size := by omega
      have hiz : ¬ ((chars.size : Int) < (chars.size : Int)) := by omega
      rw [show chars.data.toList.take chars.size = chars.data.toList from List.take_of_length_le (by rw [← Lib.size_eq]; exact Nat.le_refl _)]
      have hld := run_loadVar_new (P := Tryf.prog) w 85 (Lib.setCells chars.data.toList) 256 4 Tryf.underlying85 (by rw [Lib.setCells_size]; exact hi85)
      have hsz := Lib.setCells_size chars.data.toList
      have hla := run_loadAt_new (P := Tryf.prog) w 85 (Lib.setCells chars.data.toList) 256 4 Tryf.underlying85 (by rw [hsz]; exact hi85)
      have hsc : Hid (_) := run_storeCells_new (P := Tryf.prog) w 85 (Lib.setCells chars.data.toList) (Lib.setCells chars.data.toList) (by rw [hsz]; exact hi85) rfl (Lib.setCells_one _)
      replace hla : Hid (_) := hla
      go_wp2
      refine wp_load_whole 85 _ rfl _ _ rfl hla.out ?_
      go_wp2
      simp only [Result.andThen, hsc.out]
      rw [Oper.upon_skip]
      go_wp2
      (try simp only [Exit.inBlock, Exit.then])
      refine bodyPost_ret (v := .tuple #[.agg (Lib.setCells chars.data.toList), .bool true]) ?_ rfl ⟨rfl, rfl⟩
      rw [results_cell_tmp rfl]
      simp [asAddr, Result.andThen, hld]
    | succ g =>
      have hi : i < chars.size := by omega
      have hiz : (i : Int) < (chars.size : Int) := by omega
      obtain ⟨x, hx⟩ : ∃ x : UInt8, chars[i]'hi = x := ⟨_, rfl⟩
      have hxl : chars.data.toList[i]? = some x := by rw [← hx]; exact Lib.data_getElem? chars i hi
      have hx128 : ¬ ((128 : Int) ≤ (x.toNat : Int)) := by have := hascii.out i x hxl; omega
      have hx256 : (x.toNat : Int) < 256 := by have := hascii.out i x hxl; omega
      have hcell := Lib.setCells_at (chars.data.toList.take i) x
      have Hx : Hid (chars.data.toList[i]? = some x) := hxl
      clear hxl
      go_wp2
      go_roundg g
      case measure => omega
      case rel => exact ⟨i + 1, by omega, by first | rfl | simp, by rw [List.take_add_one, Hx.out]; simp only [Option.toList]; rw [Lib.setCells_snoc]⟩
end

set_option maxHeartbeats 2000000 in
theorem contains_any (b : Nat) (x : UInt8) (v : Bool) (w : World) (hc : w.cell? ⟨b, x.toNat, none⟩ = some (.bool v)) :
    Calls Tryf.prog 46 #[.pointer (some ⟨b, 0, none⟩), .int .u8 x.toNat] w fun e w' => e = .returned (.bool v) ∧ w' = w := by
  have hx256 : (x.toNat : Int) < 256 := by have := UInt8.toNat_lt x; omega
  go_enter Tryf.func46, Tryf.ntmps46
  go_wp2
  go_ret
  exact ⟨rfl, rfl⟩

theorem shouldUse_any (n : Nat) (w : World) : Calls Tryf.prog 44 #[.int .i64 n] w fun e w' => e = .returned (.bool (decide (8 < n))) ∧ w' = w := by
  have e : decide ((8 : Int) < (n : Int)) = decide (8 < n) := by simp; omega
  go_enter Tryf.func44, Tryf.ntmps44
  go_wp2
  go_ret
  exact ⟨by simp, rfl⟩

end Go.Proofs.Qxb6613537aFmt
