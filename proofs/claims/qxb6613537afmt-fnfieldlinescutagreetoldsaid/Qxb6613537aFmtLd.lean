/-
  THE START THAT IS SHOWN TO BE THERE: all the listed variables laid by the kit's own function ('World.laidAll'). What 'laid' gives the walk: the tables of unicode/utf8 and the variable io.EOF. The wrap of a told row that hands on the world's shape too (the kit's 'returnsInTold_of_row' with the shape handed on; its proof turned).
-/
import Derived.Test.Qxb6613537aFmtRows
import Derived.ProofKit
import Derived.LaidMore
import Derived.Lay
import Derived.Deep.DeepHandedRow
import Derived.MakeChecks
import Derived.Lib.LaidU8T
import Derived.PinnedBridge
import Derived.Stop.JoinedTold
import Derived.Stop.LaidErr
namespace Go.Proofs.Qxb6613537aFmt
open Go.Shelf

theorem laidOut : laidOutB Tryf.prog = true := by kernel_rfl
theorem own : ownKnob Tryf.prog.godebug = none := by kernel_rfl

def argsW : Array Value := #[.string ⟨#[]⟩, .string ⟨#[]⟩]

set_option maxRecDepth 1000000 in
theorem met (os : Os) : laidMetH Tryf.prog Rows.fnFieldLinesCutAgreeRow.laid ((World.laidAll Tryf.prog os Rows.fnFieldLinesCutAgreeRow.laid).forCall (fun _ _ => 0) ⟨#[], argsW, []⟩).memory := by
  rw [MakeChecks.laidMetH_plain _ _ _ (by kernel_rfl)]
  exact laidMet_laidAll _ (by kernel_rfl) (by kernel_rfl)

set_option maxRecDepth 1000000 in
theorem witness_row (os : Os) {H : Type} (enc : TypeId × Value → H) :
    (OpenSpec.ofChange Rows.fnFieldLinesCutAgreeSpec).preRow enc Tryf.prog Tryf.f5 Rows.fnFieldLinesCutAgreeRow.domain false Rows.fnFieldLinesCutAgreeRow.laid ((World.laidAll Tryf.prog os Rows.fnFieldLinesCutAgreeRow.laid).forCall (fun _ _ => 0) ⟨#[], argsW, []⟩).memory argsW := by
  have hw : (DataW.whole enc Tryf.prog ((World.laidAll Tryf.prog os Rows.fnFieldLinesCutAgreeRow.laid).forCall (fun _ _ => 0) ⟨#[], argsW, []⟩).memory Tryf.f5.params.toList (OpenSpec.ofChange Rows.fnFieldLinesCutAgreeSpec).vars false argsW.toList 8).map (fun x => (x.1, x.2.1)) =
      some ([.lit (.string []), .lit (.string [])], []) := by kernel_rfl
  obtain ⟨⟨x1, x2, x3⟩, hx, hx1⟩ := Option.map_eq_some_iff.1 hw
  simp only [Prod.mk.injEq] at hx1
  obtain ⟨rfl, rfl⟩ := hx1
  exact OpenSpec.preRow_of_cond 8 hx (by kernel_rfl) (fun k hk => by cases hk) (by kernel_rfl) (met os)

set_option maxRecDepth 1000000 in
theorem witness (os : Os) {H : Type} (enc : TypeId × Value → H) (F : Stop.Interp) :
    ∃ (w : World) (tape : Tape) (i : Input), w.os = os ∧ (w.forCall tape i).Shaped Tryf.prog ∧ i.vars = [] ∧ Input.okWide Tryf.prog (w.forCall tape i) .any w.heap.size 5 i ∧
      (OpenSpec.ofChange Rows.fnFieldLinesCutAgreeSpec).preRow enc Tryf.prog Tryf.f5 Rows.fnFieldLinesCutAgreeRow.domain false Rows.fnFieldLinesCutAgreeRow.laid (w.forCall tape i).memory i.args ∧ ({ modest := false } : Assume).holds Tryf.prog (lone (Frame.enter Tryf.prog 5 i.args .normal) [] (w.forCall tape i)) ∧ F.answers tape := by
  have hok : Input.okWideB Tryf.prog ((World.laidAll Tryf.prog os Rows.fnFieldLinesCutAgreeRow.laid).forCall (fun _ _ => 0) ⟨#[], argsW, []⟩) 5 ⟨#[], argsW, []⟩ = true := by kernel_rfl
  have hsh : ((World.laidAll Tryf.prog os Rows.fnFieldLinesCutAgreeRow.laid).forCall (fun _ _ => 0) ⟨#[], argsW, []⟩).Shaped Tryf.prog := World.shaped_of_ZipB (by kernel_rfl) (by kernel_rfl)
  exact ⟨World.laidAll Tryf.prog os Rows.fnFieldLinesCutAgreeRow.laid, F.over fun _ _ => 0, ⟨#[], argsW, []⟩, World.laidAll_os _ _ _, hsh, (Input.okWide_of_okWideB (base := 0) hok).1, (Input.okWide_of_okWideB hok).2, witness_row os enc, by
    simp only [Assume.holds]
    exact ⟨by simp, by simp, fun _ => F.over_modest Modest.zero, by simp, by simp⟩, F.over_answers _⟩

/-- The two tables of unicode/utf8, off 'laid'. -/
def u8ren : Ren := ⟨fun n => n, fun | 5 => 5 | 119 => 98 | 138 => 100 | 139 => 101 | n => n, fun | 3 => 8 | 4 => 9 | n => n⟩
theorem tabs_of_laid {W : World} (h : laidMetH Tryf.prog Rows.fnFieldLinesCutAgreeRow.laid W) : Lib.Utf8Tabs 8 9 W := by
  rw [MakeChecks.laidMetH_plain _ _ _ (by kernel_rfl)] at h
  have e4 : Rows.laid_unicode_utf8_acceptRanges = Lib.acceptData := by kernel_rfl
  refine utf8Tabs_of_readsT (ρ := u8ren) ⟨Tryf.underlying5, Tryf.underlying98, Tryf.underlying100, Tryf.underlying101⟩ ⟨by kernel_rfl, by kernel_rfl, by kernel_rfl, by kernel_rfl, by kernel_rfl, by kernel_rfl, by kernel_rfl⟩ ?_ ?_
  · rw [← Pinned.utf8First_eq]
    exact Lib.laidMet.reads h (by simp [Rows.fnFieldLinesCutAgreeRow, Rows.laid_unicode_utf8_first])
  · rw [← e4]
    exact Lib.laidMet.reads h (by simp [Rows.fnFieldLinesCutAgreeRow])

theorem gE : Tryf.prog.globalNamed "io.EOF" = some 4 := by kernel_rfl
theorem gEType : (Tryf.prog.globals[4]?).map (·.type) = some 36 := by kernel_rfl
theorem cells77 : Tryf.prog.cellsOf 77 = 1 := by kernel_rfl
theorem cells9 : Tryf.prog.cellsOf 9 = 1 := by kernel_rfl
/-- The variable io.EOF, off 'laid'. -/
theorem eof_of_laid {W : World} (h : laidMetH Tryf.prog Rows.fnFieldLinesCutAgreeRow.laid W) : ∃ a, W.cell? ⟨4, 0, none⟩ = some (.iface 75 (.pointer (some a))) := by
  rw [MakeChecks.laidMetH_plain _ _ _ (by kernel_rfl)] at h
  have h1 := laidMet.tail h
  obtain ⟨a, s, hv, _⟩ := laid_sentinel h1 gE gEType Tryf.underlying36 (fun u h => typeName_ptr_named (nm := "errors.errorString") (by kernel_rfl) (by kernel_rfl) (by decide) u (h.trans (by decide))) Tryf.underlying75 Tryf.underlying77 rfl rfl Tryf.underlying9 cells77 cells9
  exact ⟨a, by simpa using World.var?_cell gE hv 0⟩

/-- THE WRAP OF A TOLD ROW, with the world's shape handed on. -/
theorem told_of_row_shaped {H : Type} {enc : TypeId × Value → H} {a : Assume} {C : Checked} {os : Os} {f : FuncId} {fn : Func} {s : OpenSpec} {conds : List PathCond} {apart fresh handsOn again : Bool} {laid : List (String × DataW Unit)}
    (enter : C.prog.mayEnter = true) (own : ownKnob C.prog.godebug = none) (started : os.Started) (noInit : C.prog.inits.idxOf? f = none) (hfn : C.prog.funcs[f]? = some fn)
    (witness : ∀ F : Stop.Interp, ∃ (w : World) (tape : Tape) (i : Input), w.os = os ∧ (w.forCall tape i).Shaped C.prog ∧ i.vars = [] ∧ Input.okWide C.prog (w.forCall tape i) .any w.heap.size f i ∧
      s.preRow enc C.prog fn conds apart laid (w.forCall tape i).memory i.args ∧ a.holds C.prog (lone (Frame.enter C.prog f i.args .normal) [] (w.forCall tape i)) ∧ F.answers tape)
    (contract : ∀ (F : Stop.Interp) (W : World) (base : Nat) (args : Array Value) (ds gs : List (DataW H)) (before : List MemPlace),
      W.ShapedOpen C.prog → F.told.answers W.tape →
      (∀ (j : Nat) t v, fn.params[j]? = some t → args[j]? = some v → Value.okWide C.prog W .any base t v) →
      DataW.Whole enc C.prog fn.params.toList s.vars apart W args.toList ds gs before →
      laidMetH C.prog laid W →
      Calls C.prog f args W fun e W' => ∃ v, e = .returned v ∧ (s.at F.told).post enc C.prog fn apart fresh handsOn again W args v W') :
    ReturnsInTold none a C os f .any Input.okWide (s.preRow enc C.prog fn conds apart laid) (fun F => (s.at F).post enc C.prog fn apart fresh handsOn again) (aloneAtReturn C.prog) nothingAlways := by
  intro F
  show ReturnsInOpen a (some F.told) C os f .any Input.okWide _ _ (aloneAtReturn C.prog) nothingAlways
  refine returnsInOpen_of_calls_wide enter own started noInit (witness F.told) ?_
  intro w tape i _ hsh _ hok hpre _ hF
  obtain ⟨_, _, _, fn', hfn', _, _, _, _, hval⟩ := hok
  obtain rfl : fn' = fn := Option.some.inj (hfn'.symm.trans hfn)
  obtain ⟨⟨hp, hl⟩, _⟩ := hpre
  obtain ⟨ds, gs, before, hw, _, _⟩ := OpenSpec.pre_parts hp
  refine (contract F (w.forCall tape i) w.heap.size i.args ds gs before hsh hF hval (DataW.Whole.of_heap (w' := w.forCall tape i) (by rfl) hw) (hl.of_heap (by rfl))).mono fun e W' ⟨v, he, hp⟩ => ?_
  subst he
  exact ChangeSpec.post_blind hp

end Go.Proofs.Qxb6613537aFmt
