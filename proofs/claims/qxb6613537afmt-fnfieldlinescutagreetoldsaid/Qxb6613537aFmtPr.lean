/-
  THE STATEMENT: 'FnFieldLinesCutAgreeToldSaid'.
-/
import Derived.Test.Qxb6613537aFmtTie
import Derived.Test.Qxb6613537aFmtCards
import Derived.Test.Qxb6613537aFmtLd
import Derived.Test.Qxb6613537aFmtWr
import Derived.Stop.JoinedAt
import Derived.Stop.JoinedTold
import Derived.OpenShut
import Derived.ChangeMaps5
import Derived.SevenTiedAt
import Derived.Shelf.Vars
namespace Go.Proofs.Qxb6613537aFmt
open Go.ChangeShapes Go.WideShapes Go.ChangeAt Go.RowKit Go.Kit
open Go.Extern.Stop Go.Stop Go.Extern

set_option maxRecDepth 1000000 in
theorem lifted (os : Os) (started : os.Started) (H : Type) (enc : TypeId × Value → H) :
    ReturnsInTold none {} Tryf.checked os 5 .any Input.okWide ((OpenSpec.ofChange Rows.fnFieldLinesCutAgreeSpec).preRow enc Tryf.prog Tryf.f5 Rows.fnFieldLinesCutAgreeRow.domain false Rows.fnFieldLinesCutAgreeRow.laid) (fun F => ((OpenSpec.ofChange Rows.fnFieldLinesCutAgreeSpec).at F).post enc Tryf.prog Tryf.f5 false true false false) (aloneAtReturn Tryf.prog) nothingAlways := by
  refine told_of_row_shaped (C := Tryf.checked) (s := OpenSpec.ofChange Rows.fnFieldLinesCutAgreeSpec) (by kernel_rfl) own started (by kernel_rfl) Tryf.func5 (witness os enc) ?_
  intro F W base args ds gs before hsh _ hval0 hW hL
  have hval : ∀ (j : Nat) t v, Tryf.f5.params[j]? = some t → args[j]? = some v → Value.okWide Tryf.prog W .any base t v := hval0
  have hW' := hW
  obtain ⟨p, q, hA0, hV, rfl, hfz, hnd⟩ := hW
  have hA : DataW.TrodAll enc Tryf.prog W 0 (fun _ => true) true Tryf.f5.params.toList args.toList ds p := hA0
  rw [Tryf.params5] at hA hval
  obtain ⟨v0, vs0, d0, ds0, p0, q0, hargs, rfl, rfl, h0, r0⟩ := trodAll_cons hA
  obtain ⟨v1, vs1, d1, ds1, p1, q1, rfl, rfl, rfl, h1, r1⟩ := trodAll_cons r0
  obtain ⟨rfl, rfl, rfl⟩ := trodAll_nil r1
  obtain rfl : args = #[v0, v1] := by cases args; simp_all
  obtain ⟨rfl, rfl⟩ := trodVars_none hV
  obtain ⟨a, rfl, rfl, rfl, w0⟩ := Go.ChangeMaps.open_string Tryf.underlying9 (hval 0 9 v0 rfl rfl) h0
  obtain ⟨b, rfl, rfl, rfl, w1⟩ := Go.ChangeMaps.open_string Tryf.underlying9 (hval 1 9 v1 rfl rfl) h1
  obtain ⟨m, hm⟩ := cell_of_shapedOpen_int (P := Tryf.prog) (g := 7) (t := 3) (zero := #[.int .i64 0]) hsh (of_decide_eq_true (by kernel_rfl)) (by kernel_rfl) rfl (by kernel_rfl) (by kernel_rfl) Tryf.underlying3
  obtain ⟨pe, he⟩ := eof_of_laid hL
  clear hA0 hval0
  refine (law_any W _ m ⟨tabs_of_laid hL, hm, he, _, _, rfl⟩ a b w0 w1).mono fun e W' ⟨he, bel⟩ => ?_
  subst he
  exact ⟨_, rfl, _, _, _, [], _, [], hW', trodAll_mk1 (shut_bool Tryf.underlying4 _), (trodAll_cons_mk (Go.ChangeMaps.shut_string Tryf.underlying9 w0) (trodAll_cons_mk (Go.ChangeMaps.shut_string Tryf.underlying9 w1) trodAll_mk0)), rfl, bel.frame _, fun h => by cases h⟩

theorem stops : Tryf.pinned.checked.prog.stops = ["fmt.errorf"] := by kernel_rfl
theorem stopKnobs : Tryf.pinned.checked.prog.stopKnobs = [] := by kernel_rfl
theorem quiet (os : Os) : Stop.quiet Tryf.pinned.checked.prog os := by
  intro k hk
  rw [stopKnobs] at hk
  cases hk

set_option maxRecDepth 1000000 in
theorem proved : Rows.FnFieldLinesCutAgreeToldSaid :=
  Claim7.holds_of_told_tied_any_at .later 5 Tryf.f5 "fmt.errorf" [] [] _ _ _ _ _ (by kernel_rfl) rfl rfl rfl laidOut (by kernel_rfl) rfl ⟨rfl, rfl, rfl, rfl, rfl, rfl, rfl⟩ rfl rfl (by kernel_rfl) (by kernel_rfl) Tryf.func5 (by kernel_rfl)
    (of_decide_eq_true (by kernel_rfl)) (by unfold Func.isWrapper; rw [if_neg (of_decide_eq_false (by kernel_rfl))]; exact ⟨rfl, rfl⟩) stops.symm rfl stopKnobs.symm (by kernel_rfl)
    (by kernel_rfl) (by kernel_rfl) (by kernel_rfl) (by kernel_rfl) (by kernel_rfl) (by kernel_rfl) (by kernel_rfl) (by kernel_rfl) (by kernel_rfl) rfl (by kernel_rfl) rfl rfl
    rfl rfl
    rfl (by kernel_rfl) (by kernel_rfl) (by kernel_rfl) (by decide) (by kernel_rfl) fnFieldLinesCutAgree_row_tie
    (OpenClaim.moreEntering_of (by kernel_rfl) (by kernel_rfl) (by kernel_rfl) (by kernel_rfl) (by kernel_rfl) (by kernel_rfl) (by kernel_rfl) (by kernel_rfl) (by kernel_rfl) (by kernel_rfl))
    ⟨_, WideRow.started_initial, quiet _⟩
    (fun os started _ H enc _ => lifted os started H enc)

#print axioms proved
end Go.Proofs.Qxb6613537aFmt
