/-
  THE START THAT IS SHOWN TO BE THERE: the heap that the door's own run leaves, with Go's table unicode/utf8.first (pinned) laid in its block.
-/
import Derived.Test.Qxb6612244aFmtRows
import Derived.ProofKit
import Derived.LaidMore
import Derived.Lib.LaidU8T
import Derived.PinnedBridge
import Derived.Deep.DeepWitnessRowRef
import Derived.Deep.DeepWitnessRef
namespace Go.Proofs.Qxb6612244aFmt
open Go.Shelf

def withFirst (w : World) : World := { w with heap := w.heap.modify 0 fun
    | .cells _ t fr => .cells (Lib.firstTab.map (Value.int .u8)).toArray t fr
    | o => o }

set_option maxRecDepth 1000000 in
theorem door_met (os : Os) (args : Array Value) : laidMetH Tryf.prog Rows.fnArrayReadingNothingMatchesScanRow.laid ((withFirst (World.doorLaid Tryf.prog 34 os)).forCall (fun _ _ => 0) ⟨#[], args, []⟩).memory :=
  laidMetH_of_parts3 (fuel := 8) (laidMet_of_run' 8 (by kernel_rfl) (by kernel_rfl)) (by kernel_rfl) (by kernel_rfl)

set_option maxRecDepth 1000000 in
theorem witness_row (os : Os) {H : Type} (enc : TypeId × Value → H) :
    (OpenSpec.ofChange Rows.fnArrayReadingNothingMatchesScanSpec).preRow enc Tryf.prog Tryf.f3 Rows.fnArrayReadingNothingMatchesScanRow.domain false Rows.fnArrayReadingNothingMatchesScanRow.laid ((withFirst (World.doorLaid Tryf.prog 34 os)).forCall (fun _ _ => 0) ⟨#[], #[.slice none 0 0, .int .i64 0, .int .i64 0], []⟩).memory #[.slice none 0 0, .int .i64 0, .int .i64 0] := by
  have hw : (DataW.whole enc Tryf.prog ((withFirst (World.doorLaid Tryf.prog 34 os)).forCall (fun _ _ => 0) ⟨#[], #[.slice none 0 0, .int .i64 0, .int .i64 0], []⟩).memory Tryf.f3.params.toList (OpenSpec.ofChange Rows.fnArrayReadingNothingMatchesScanSpec).vars false #[Value.slice none 0 0, .int .i64 0, .int .i64 0].toList 8).map (fun x => (x.1, x.2.1)) =
      some ([.nil, .lit (.int .i64 0), .lit (.int .i64 0)], []) := by kernel_rfl
  obtain ⟨⟨x1, x2, x3⟩, hx, hx1⟩ := Option.map_eq_some_iff.1 hw
  simp only [Prod.mk.injEq] at hx1
  obtain ⟨rfl, rfl⟩ := hx1
  exact OpenSpec.preRow_of_cond 8 hx (by kernel_rfl) (fun k hk => by cases hk) (by kernel_rfl) (door_met os _)

/-- The two tables of unicode/utf8, off 'laid'. -/
def u8ren : Ren := ⟨fun n => n, fun | 5 => 5 | 119 => 60 | 138 => 63 | 139 => 64 | n => n, fun | 3 => 0 | 4 => 1 | n => n⟩
theorem tabs_of_laid {W : World} (h : laidMetH Tryf.prog Rows.fnArrayReadingNothingMatchesScanRow.laid W) : Lib.Utf8Tabs 0 1 W := by
  rw [MakeChecks.laidMetH_plain _ _ _ (by kernel_rfl)] at h
  have e4 : Rows.laid_unicode_utf8_acceptRanges = Lib.acceptData := by kernel_rfl
  refine utf8Tabs_of_readsT (ρ := u8ren) ⟨Tryf.underlying5, Tryf.underlying60, Tryf.underlying63, Tryf.underlying64⟩ ⟨by kernel_rfl, by kernel_rfl, by kernel_rfl, by kernel_rfl, by kernel_rfl, by kernel_rfl, by kernel_rfl⟩ ?_ ?_
  · rw [← Pinned.utf8First_eq]
    exact Lib.laidMet.reads h (by simp [Rows.fnArrayReadingNothingMatchesScanRow, Rows.laid_unicode_utf8_first])
  · rw [← e4]
    exact Lib.laidMet.reads h (by simp [Rows.fnArrayReadingNothingMatchesScanRow])

end Go.Proofs.Qxb6612244aFmt
