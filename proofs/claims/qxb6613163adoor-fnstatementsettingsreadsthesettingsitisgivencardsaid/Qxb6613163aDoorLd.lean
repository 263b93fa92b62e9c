/-
  THE START THAT IS SHOWN TO BE THERE: all the listed variables laid by the kit's own function ('World.laidAll').
-/
import Derived.Test.Qxb6613163aDoorRows
import Derived.ProofKit
import Derived.LaidMore
import Derived.Lay
import Derived.Deep.DeepHandedRow
import Derived.MakeChecks
namespace Go.Proofs.Qxb6613163aDoor

theorem laidOut : laidOutB Tryd.prog = true := by kernel_rfl
theorem own : ownKnob Tryd.prog.godebug = none := by kernel_rfl

def argsW : Array Value := #[.slice none 0 0, .slice none 0 0, .string ⟨#[]⟩, .bool false, .bool false, .bool false]

set_option maxRecDepth 1000000 in
theorem met (os : Os) : laidMetH Tryd.prog Rows.fnStatementSettingsReadsTheSettingsItIsGivenRow.laid ((World.laidAll Tryd.prog os Rows.fnStatementSettingsReadsTheSettingsItIsGivenRow.laid).forCall (fun _ _ => 0) ⟨#[], argsW, []⟩).memory := by
  rw [MakeChecks.laidMetH_plain _ _ _ (by kernel_rfl)]
  exact laidMet_laidAll _ (by kernel_rfl) (by kernel_rfl)

set_option maxRecDepth 1000000 in
theorem witness_row (os : Os) {H : Type} (enc : TypeId × Value → H) :
    (OpenSpec.ofChange Rows.fnStatementSettingsReadsTheSettingsItIsGivenSpec).preRow enc Tryd.prog Tryd.f5 Rows.fnStatementSettingsReadsTheSettingsItIsGivenRow.domain false Rows.fnStatementSettingsReadsTheSettingsItIsGivenRow.laid ((World.laidAll Tryd.prog os Rows.fnStatementSettingsReadsTheSettingsItIsGivenRow.laid).forCall (fun _ _ => 0) ⟨#[], argsW, []⟩).memory argsW := by
  have hw : (DataW.whole enc Tryd.prog ((World.laidAll Tryd.prog os Rows.fnStatementSettingsReadsTheSettingsItIsGivenRow.laid).forCall (fun _ _ => 0) ⟨#[], argsW, []⟩).memory Tryd.f5.params.toList (OpenSpec.ofChange Rows.fnStatementSettingsReadsTheSettingsItIsGivenSpec).vars false argsW.toList 8).map (fun x => (x.1, x.2.1)) =
      some ([.nil, .nil, .lit (.string []), .lit (.bool false), .lit (.bool false), .lit (.bool false)], []) := by kernel_rfl
  obtain ⟨⟨x1, x2, x3⟩, hx, hx1⟩ := Option.map_eq_some_iff.1 hw
  simp only [Prod.mk.injEq] at hx1
  obtain ⟨rfl, rfl⟩ := hx1
  exact OpenSpec.preRow_of_cond 8 hx (by kernel_rfl) (fun k hk => by cases hk) (by kernel_rfl) (met os)

set_option maxRecDepth 1000000 in
theorem witness (os : Os) {H : Type} (enc : TypeId × Value → H) :
    ∃ (w : World) (tape : Tape) (i : Input), w.os = os ∧ (w.forCall tape i).Shaped Tryd.prog ∧ i.vars = [] ∧ Input.okWide Tryd.prog (w.forCall tape i) .any w.heap.size 5 i ∧
      (OpenSpec.ofChange Rows.fnStatementSettingsReadsTheSettingsItIsGivenSpec).preRow enc Tryd.prog Tryd.f5 Rows.fnStatementSettingsReadsTheSettingsItIsGivenRow.domain false Rows.fnStatementSettingsReadsTheSettingsItIsGivenRow.laid (w.forCall tape i).memory i.args ∧ ({ modest := false } : Assume).holds Tryd.prog (lone (Frame.enter Tryd.prog 5 i.args .normal) [] (w.forCall tape i)) := by
  have hok : Input.okWideB Tryd.prog ((World.laidAll Tryd.prog os Rows.fnStatementSettingsReadsTheSettingsItIsGivenRow.laid).forCall (fun _ _ => 0) ⟨#[], argsW, []⟩) 5 ⟨#[], argsW, []⟩ = true := by kernel_rfl
  exact ⟨World.laidAll Tryd.prog os Rows.fnStatementSettingsReadsTheSettingsItIsGivenRow.laid, fun _ _ => 0, ⟨#[], argsW, []⟩, World.laidAll_os _ _ _, World.shaped_of_ZipB (by kernel_rfl) (by kernel_rfl), (Input.okWide_of_okWideB (base := 0) hok).1, (Input.okWide_of_okWideB hok).2, witness_row os enc, by
    simp only [Assume.holds]
    exact ⟨by simp, by simp, by simp, by simp, by simp⟩⟩

end Go.Proofs.Qxb6613163aDoor
