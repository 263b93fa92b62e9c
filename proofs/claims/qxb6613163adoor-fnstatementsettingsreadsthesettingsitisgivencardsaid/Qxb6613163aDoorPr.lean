/-
  THE STATEMENT: 'FnStatementSettingsReadsTheSettingsItIsGivenCardSaid'.
-/
import Derived.Test.Qxb6613163aDoorTie
import Derived.Test.Qxb6613163aDoorCards
import Derived.Test.Qxb6613163aDoorLd
import Derived.Test.Qxb6613163aDoorWy
import Derived.OpenShut
import Derived.ChangeMaps5
import Derived.Carry
import Derived.SliceStrings
import Derived.SevenTiedAt
import Derived.JoinedCond
import Derived.Stop.Joined
import Derived.Stop.JoinedTold
import Derived.Shelf.Vars
namespace Go.Proofs.Qxb6613163aDoor
open Go.ChangeShapes Go.WideShapes Go.ChangeAt Go.RowKit

set_option maxRecDepth 1000000 in
theorem lifted (os : Os) (started : os.Started) (H : Type) (enc : TypeId × Value → H) (F : Stop.Interp) :
    ReturnsInHanded {} Tryd.checked os 5 .any ((OpenSpec.ofChange Rows.fnStatementSettingsReadsTheSettingsItIsGivenSpec).preRow enc Tryd.prog Tryd.f5 Rows.fnStatementSettingsReadsTheSettingsItIsGivenRow.domain false Rows.fnStatementSettingsReadsTheSettingsItIsGivenRow.laid)
      (((OpenSpec.ofChange Rows.fnStatementSettingsReadsTheSettingsItIsGivenSpec).at F).post enc Tryd.prog Tryd.f5 false true false false) := by
  refine returnsInHanded_of_row (C := Tryd.checked) (s := OpenSpec.ofChange Rows.fnStatementSettingsReadsTheSettingsItIsGivenSpec) (F := F) own started (by kernel_rfl) Tryd.func5 (witness os enc) ?_
  intro W base args ds gs before hval0 hW _ _ _ _ hsh _
  have hval : ∀ (j : Nat) t v, Tryd.f5.params[j]? = some t → args[j]? = some v → Value.okWide Tryd.prog W .any base t v := hval0
  have hW' := hW
  obtain ⟨p, q, hA0, hV, rfl, hfz, hnd⟩ := hW
  have hA : DataW.TrodAll enc Tryd.prog W 0 (fun _ => true) true Tryd.f5.params.toList args.toList ds p := hA0
  rw [Tryd.params5] at hA hval
  obtain ⟨v0, vs0, d0, ds0, p0, q0, hargs, rfl, rfl, h0, r0⟩ := trodAll_cons hA
  obtain ⟨v1, vs1, d1, ds1, p1, q1, rfl, rfl, rfl, h1, r1⟩ := trodAll_cons r0
  obtain ⟨v2, vs2, d2, ds2, p2, q2, rfl, rfl, rfl, h2, r2⟩ := trodAll_cons r1
  obtain ⟨v3, vs3, d3, ds3, p3, q3, rfl, rfl, rfl, h3, r3⟩ := trodAll_cons r2
  obtain ⟨v4, vs4, d4, ds4, p4, q4, rfl, rfl, rfl, h4, r4⟩ := trodAll_cons r3
  obtain ⟨v5, vs5, d5, ds5, p5, q5, rfl, rfl, rfl, h5, r5⟩ := trodAll_cons r4
  obtain ⟨rfl, rfl, rfl⟩ := trodAll_nil r5
  obtain rfl : args = #[v0, v1, v2, v3, v4, v5] := by cases args; simp_all
  obtain ⟨rfl, rfl⟩ := trodVars_none hV
  obtain ⟨a0, n0, c0, rfl⟩ := okWide_slice Tryd.underlying38 (hval 0 38 v0 rfl rfl)
  obtain ⟨a1, n1, c1, rfl⟩ := okWide_slice Tryd.underlying39 (hval 1 39 v1 rfl rfl)
  have k0 := h0
  have k1 := h1
  have lt0 : ∀ x ∈ p0, x.block < W.heap.size := by obtain ⟨m, hm⟩ := k0; exact DataW.trod_lt m _ _ _ hm
  have lt1 : ∀ x ∈ p1, x.block < W.heap.size := by obtain ⟨m, hm⟩ := k1; exact DataW.trod_lt m _ _ _ hm
  obtain ⟨N, g1, g2, g3, g4, g5⟩ : ∃ N : Nat → ByteArray, n0 ≤ c0 ∧ c0 ≤ maxLen ∧ (0 < n0 → ∃ a, a0 = some a) ∧ (∀ a, a0 = some a → ∀ i, i < n0 → W.cell? (a.add i) = some (.string (N i))) ∧ ∀ i, i < n0 → (N i).size ≤ maxLen := by
    obtain ⟨fuel, hf⟩ := h0
    rcases open_strings Tryd.underlying38 Tryd.underlying9 (by kernel_rfl) hf with ⟨hcs, _⟩ | ⟨x, l, c, ss, hcs, _, hl, hm, hz, _, hcell, hwz⟩
    · simp [Value.cells] at hcs
      obtain ⟨rfl, rfl, rfl⟩ := hcs
      exact ⟨fun _ => ⟨#[]⟩, Nat.le_refl _, by simp [maxLen], fun h => by omega, fun _ h => (by cases h), fun i h => by omega⟩
    · simp [Value.cells] at hcs
      obtain ⟨rfl, rfl, rfl⟩ := hcs
      have hz' : ss.length = c0 := by simpa using hz
      refine ⟨fun i => ss.getD i ByteArray.empty, hl, hm, fun _ => ⟨_, rfl⟩, fun a ha i hi => ?_, fun i hi => ?_⟩
      · obtain rfl := Option.some.inj ha
        exact hcell i (by omega)
      · have hi' : i < ss.length := by omega
        have e : ss.getD i ByteArray.empty = ss[i] := by simp [List.getD, hi']
        show (ss.getD i ByteArray.empty).size ≤ maxLen
        rw [e]
        exact hwz _ (List.getElem_mem hi')
  obtain ⟨V, f1, f2, f3, f4, f5⟩ : ∃ V : Nat → Nat, n1 ≤ c1 ∧ c1 ≤ maxLen ∧ (0 < n1 → ∃ a, a1 = some a) ∧ (∀ a, a1 = some a → ∀ i, i < n1 → W.cell? (a.add i) = some (.int .u64 (V i))) ∧ ∀ i, i < n1 → V i < 18446744073709551616 := by
    obtain ⟨fuel, hf⟩ := h1
    rcases open_ints Tryd.underlying39 Tryd.underlying22 (by kernel_rfl) hf with ⟨hcs, _⟩ | ⟨x, l, c, zs, hcs, _, hl, hm, hz, _, hcell, hwz⟩
    · simp [Value.cells] at hcs
      obtain ⟨rfl, rfl, rfl⟩ := hcs
      exact ⟨fun _ => 0, Nat.le_refl _, by simp [maxLen], fun h => by omega, fun _ h => (by cases h), fun i h => by omega⟩
    · simp [Value.cells] at hcs
      obtain ⟨rfl, rfl, rfl⟩ := hcs
      have hz' : zs.length = c1 := by simpa using hz
      have hb : ∀ i, i < n1 → 0 ≤ zs.getD i 0 ∧ zs.getD i 0 ≤ 18446744073709551615 := fun i hi => by
        have hi' : i < zs.length := by omega
        have e : zs.getD i 0 = zs[i] := by simp [List.getD, hi']
        rw [e]
        exact bounds_u64 (hwz _ (List.getElem_mem hi'))
      refine ⟨fun i => (zs.getD i 0).toNat, hl, hm, fun _ => ⟨_, rfl⟩, fun a ha i hi => ?_, fun i hi => ?_⟩
      · obtain rfl := Option.some.inj ha
        rw [hcell i (by omega)]
        have := hb i hi
        show some (Value.int .u64 (zs.getD i 0)) = some (Value.int .u64 ((zs.getD i 0).toNat : Int))
        rw [Int.toNat_of_nonneg this.1]
      · have := hb i hi
        show (zs.getD i 0).toNat < _
        omega
  obtain ⟨text, rfl, rfl, rfl, w2⟩ := Go.ChangeMaps.open_string Tryd.underlying9 (hval 2 9 v2 rfl rfl) h2
  obtain ⟨b1, rfl, rfl, rfl⟩ := open_bool Tryd.underlying4 (hval 3 4 v3 rfl rfl) h3
  obtain ⟨b2, rfl, rfl, rfl⟩ := open_bool Tryd.underlying4 (hval 4 4 v4 rfl rfl) h4
  obtain ⟨b3, rfl, rfl, rfl⟩ := open_bool Tryd.underlying4 (hval 5 4 v5 rfl rfl) h5
  obtain ⟨m, hm⟩ := cell_of_shapedOpen_int (P := Tryd.prog) (g := 5) (t := 3) (zero := #[.int .i64 0]) hsh (of_decide_eq_true (by kernel_rfl)) (by kernel_rfl) rfl (by kernel_rfl) (by kernel_rfl) Tryd.underlying3
  clear hA0 hval0
  refine (law_any W m hm a0 a1 n0 c0 n1 c1 N V text b1 b2 b3 g1 g2 f1 f2 w2 g3 f3 g4 g5 f4 f5).mono fun e W' ⟨he, bel⟩ => ?_
  subst he
  exact ⟨_, rfl, _, _, _, [], _, [], hW', trodAll_mk1 (shut_bool Tryd.underlying4 _), (trodAll_cons_mk (Below.trod laidOut (by kernel_rfl) (of_decide_eq_true (by kernel_rfl)) k0 bel lt0) (trodAll_cons_mk (Below.trod laidOut (by kernel_rfl) (of_decide_eq_true (by kernel_rfl)) k1 bel lt1) (trodAll_cons_mk (Go.ChangeMaps.shut_string Tryd.underlying9 w2) (trodAll_cons_mk (shut_bool Tryd.underlying4 b1) (trodAll_cons_mk (shut_bool Tryd.underlying4 b2) (trodAll_cons_mk (shut_bool Tryd.underlying4 b3) trodAll_mk0)))))), rfl, bel.frame _, fun h => by cases h⟩

set_option maxRecDepth 1000000 in
theorem row_holds : Rows.FnStatementSettingsReadsTheSettingsItIsGivenSaid :=
  OpenClaim.holds_of_cond 5 Tryd.f5 rfl rfl rfl rfl rfl rfl rfl ⟨rfl, rfl, rfl, rfl, rfl⟩ rfl rfl rfl rfl rfl (by kernel_rfl) Tryd.func5 (by kernel_rfl)
    (of_decide_eq_true (by kernel_rfl)) (by unfold Func.isWrapper; rw [if_neg (of_decide_eq_false (by kernel_rfl))]; exact ⟨rfl, rfl⟩)
    (fun os started H enc _ F => by rw [OpenClaim.pre_eq_preRow]; exact lifted os started H enc F)

set_option maxRecDepth 1000000 in
theorem proved : Rows.FnStatementSettingsReadsTheSettingsItIsGivenCardSaid :=
  Claim7.holds_tied_plain_at .later [] [.data, .data, .data, .pinned, .pinned] true (true, "8af62ec0de9f815ffd6f2b46079ba76b0a29e5eb45ab10125db075e63f9a75f1") false row_holds (fun _ h => by cases h) (by kernel_rfl) (fun _ h => by cases h) fnStatementSettingsReadsTheSettingsItIsGiven_row_tie rfl ⟨rfl, rfl⟩ (by kernel_rfl) rfl
    (fun f fn hf hfn => by
      obtain rfl : f = 5 := Option.some.inj ((show Tryd.prog.funcNamed Rows.fnStatementSettingsReadsTheSettingsItIsGivenRow.func = some 5 by kernel_rfl).symm.trans hf) |>.symm
      obtain rfl : fn = Tryd.f5 := (Option.some.inj (Tryd.func5.symm.trans hfn)).symm
      exact ⟨by kernel_rfl, fun j t ht => by
        rw [Tryd.params5] at ht
        have hm : t ∈ [38, 39, 9, 4, 4, 4] := by simpa using Array.mem_of_getElem? ht
        have hall : ([38, 39, 9, 4, 4, 4].all fun u => !Tryd.prog.wantsStandIn u) = true := by kernel_rfl
        exact (show Tryd.prog.wantsStandIn t = false by simpa using List.all_eq_true.1 hall t hm)⟩)
    (by kernel_rfl)

#print axioms proved
end Go.Proofs.Qxb6613163aDoor
