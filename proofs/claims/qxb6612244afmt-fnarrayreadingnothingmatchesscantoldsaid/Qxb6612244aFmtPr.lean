/-
  THE STATEMENT: 'FnArrayReadingNothingMatchesScanToldSaid'.
-/
import Derived.Test.Qxb6612244aFmtTie
import Derived.Test.Qxb6612244aFmtCards
import Derived.Test.Qxb6612244aFmtLd
import Derived.Test.Qxb6612244aFmtWl
import Derived.Stop.JoinedAt
import Derived.Stop.JoinedTold
import Derived.OpenShut
import Derived.SevenTiedAt
namespace Go.Proofs.Qxb6612244aFmt
open Go.ChangeShapes Go.WideShapes Go.ChangeAt Go.RowKit Go.Kit
open Go.Extern.Stop Go.Stop Go.Extern

theorem own : ownKnob Tryf.prog.godebug = none := by kernel_rfl
theorem laidOut : laidOutB Tryf.prog = true := by kernel_rfl

/-- The walks joined: whatever the input. -/
theorem walk (F : Interp) (a0 : Option Addr) (len cap : Nat) (zs : List Int) (p d : Int) (w : World) (hF : F.answers w.tape) (hS : Short F) (hT : Lib.Utf8Tabs 0 1 w)
    (h0 : (a0 = none ∧ len = 0) ∨ ∃ x, a0 = some x ∧ len ≤ cap ∧ zs.length = cap ∧ (∀ i, i < zs.length → w.cell? (x.add i) = some (.int .u8 (zs.getD i 0))) ∧ ∀ n ∈ zs, (Lit.int .u8 n).wf = true) :
    Calls Tryf.prog 3 #[.slice a0 len cap, .int .i64 p, .int .i64 d] w fun e w' => e = .returned (.bool true) ∧ Below w.heap.size w w' := by
  by_cases hlong : 1048576 < len
  · exact main_long a0 len cap p d w hlong
  by_cases hd : d < 0 ∨ 32 < d
  · exact main_depth a0 len cap p d w (by omega) hd
  by_cases hp : p < 0 ∨ len ≤ p
  · exact main_pos a0 len cap p d w (by omega) (by omega) (by omega) hp
  obtain ⟨pos, rfl⟩ := Int.eq_ofNat_of_zero_le (show 0 ≤ p by omega)
  obtain ⟨dep, rfl⟩ := Int.eq_ofNat_of_zero_le (show 0 ≤ d by omega)
  rcases h0 with ⟨rfl, rfl⟩ | ⟨x, rfl, hl, hz, hcell, hwz⟩
  · omega
  obtain ⟨b, off, spot⟩ := x
  have hc0 := hcell 0 (by omega)
  have hspot : spot = none := by
    have := World.cell?_spot hc0
    simpa [Addr.add] using this
  subst hspot
  have hc : ∀ j, j < len → w.cell? ⟨b, off + j, none⟩ = some (.int .u8 ((zs.take len).getD j 0)) := fun j hj => by
    have h := hcell j (by omega)
    rw [Addr.add_lit] at h
    rw [h]
    simp [List.getD, hj]
  have hwf : ∀ n ∈ zs.take len, 0 ≤ n ∧ n ≤ 255 := fun n hn => by
    have := bounds_u8 (hwz n (List.mem_of_mem_take hn))
    exact this
  have hb : b < w.heap.size := block_lt_of_cell (hc pos (by omega))
  by_cases hbr : (zs.take len).getD pos 0 = 91
  · have st : St F w b off len (zs.take len) pos := ⟨hF, hS, hT, hb, hc, by simp; omega, hwf, by omega, by omega, hbr⟩
    by_cases hd32 : dep = 32
    · subst hd32
      exact main_full st
    · by_cases hA : pos + 1 + Pl.scL ((zs.take len).drop (pos + 1)) < len ∧ (zs.take len).getD (pos + 1 + Pl.scL ((zs.take len).drop (pos + 1))) 0 = 93
      · exact main_ok st (by omega) hA.1 hA.2
      · exact main_bad st (by omega) (fun h1 h2 => hA ⟨h1, h2⟩)
  · exact main_other b off len cap pos dep _ w (by omega) (by omega) (by omega) (hc pos (by omega)) hbr

set_option maxRecDepth 1000000 in
theorem lifted (os : Os) (started : os.Started) (H : Type) (enc : TypeId × Value → H) :
    ReturnsInTold none {} Tryf.checked os 3 .any Input.okWide ((OpenSpec.ofChange Rows.fnArrayReadingNothingMatchesScanSpec).preRow enc Tryf.prog Tryf.f3 Rows.fnArrayReadingNothingMatchesScanRow.domain false Rows.fnArrayReadingNothingMatchesScanRow.laid) (fun F => ((OpenSpec.ofChange Rows.fnArrayReadingNothingMatchesScanSpec).at F).post enc Tryf.prog Tryf.f3 false true false false) (aloneAtReturn Tryf.prog) nothingAlways := by
  refine returnsInTold_of_row (C := Tryf.checked) (s := OpenSpec.ofChange Rows.fnArrayReadingNothingMatchesScanSpec) (by kernel_rfl) own started (by kernel_rfl) Tryf.func3
    (OpenSpec.witness_stopped_atRef (enc := enc) (C := Tryf.checked) false (withFirst (World.doorLaid Tryf.prog 34 os)) #[.slice none 0 0, .int .i64 0, .int .i64 0] rfl (by kernel_rfl) (by kernel_rfl) (by kernel_rfl) (witness_row os enc)) ?_
  intro F W base args ds gs before _ hF hval0 hW _ _ _ hL _
  have hval : ∀ (j : Nat) t v, Tryf.f3.params[j]? = some t → args[j]? = some v → Value.okWide Tryf.prog W .any base t v := hval0
  have hW' := hW
  obtain ⟨p, q, hA0, hV, rfl, hfz, hnd⟩ := hW
  have hA : DataW.TrodAll enc Tryf.prog W 0 (fun _ => true) true Tryf.f3.params.toList args.toList ds p := hA0
  rw [Tryf.params3] at hA hval
  obtain ⟨v0, vs0, d0, ds0, p0, q0, hargs, rfl, rfl, h0, r0⟩ := trodAll_cons hA
  obtain ⟨v1, vs1, d1, ds1, p1, q1, rfl, rfl, rfl, h1, r1⟩ := trodAll_cons r0
  obtain ⟨v2, vs2, d2, ds2, p2, q2, rfl, rfl, rfl, h2, r2⟩ := trodAll_cons r1
  obtain ⟨rfl, rfl, rfl⟩ := trodAll_nil r2
  obtain rfl : args = #[v0, v1, v2] := by cases args; simp_all
  obtain ⟨rfl, rfl⟩ := trodVars_none hV
  obtain ⟨a0, len0, cap0, rfl⟩ := okWide_slice Tryf.underlying22 (hval 0 22 v0 rfl rfl)
  have k0 := h0
  have lt0 : ∀ x ∈ p0, x.block < W.heap.size := by obtain ⟨m, hm⟩ := k0; exact DataW.trod_lt m _ _ _ hm
  obtain ⟨z0, w0⟩ : ∃ zs : List Int, (a0 = none ∧ len0 = 0) ∨ ∃ x, a0 = some x ∧ len0 ≤ cap0 ∧ zs.length = cap0 ∧ (∀ i, i < zs.length → W.cell? (x.add i) = some (.int .u8 (zs.getD i 0))) ∧ ∀ n ∈ zs, (Lit.int .u8 n).wf = true := by
    obtain ⟨fuel, hf⟩ := h0
    rcases open_ints Tryf.underlying22 Tryf.underlying5 (by kernel_rfl) hf with ⟨hcs, _⟩ | ⟨x, l, c, zs, hcs, _, hl, hm, hz, _, hcell, hwz⟩
    · simp [Value.cells] at hcs
      obtain ⟨rfl, rfl, rfl⟩ := hcs
      exact ⟨[], .inl ⟨rfl, rfl⟩⟩
    · simp [Value.cells] at hcs
      obtain ⟨rfl, rfl, rfl⟩ := hcs
      exact ⟨zs, .inr ⟨_, rfl, hl, by simpa using hz, hcell, hwz⟩⟩
  obtain ⟨a1, rfl, rfl, rfl, w1⟩ := open_int Tryf.underlying3 (hval 1 3 v1 rfl rfl) h1
  obtain ⟨a2, rfl, rfl, rfl, w2⟩ := open_int Tryf.underlying3 (hval 2 3 v2 rfl rfl) h2
  clear hA0 hval0
  refine (walk F.told a0 len0 cap0 z0 a1 a2 W hF (short_told F) (tabs_of_laid hL) w0).mono fun e W' ⟨he, bel⟩ => ?_
  subst he
  exact ⟨_, rfl, _, _, _, [], _, [], hW', trodAll_mk1 (shut_bool Tryf.underlying4 _), (trodAll_cons_mk (Below.trod laidOut (by kernel_rfl) (of_decide_eq_true (by kernel_rfl)) k0 bel lt0) (trodAll_cons_mk (shut_int Tryf.underlying3 w1) (trodAll_cons_mk (shut_int Tryf.underlying3 w2) trodAll_mk0))), rfl, bel.frame _, fun h => by cases h⟩

theorem stops : Tryf.pinned.checked.prog.stops = ["fmt.Sprintf"] := by kernel_rfl
theorem stopKnobs : Tryf.pinned.checked.prog.stopKnobs = [] := by kernel_rfl
theorem quiet (os : Os) : Stop.quiet Tryf.pinned.checked.prog os := by
  intro k hk
  rw [stopKnobs] at hk
  cases hk

set_option maxRecDepth 1000000 in
theorem proved : Rows.FnArrayReadingNothingMatchesScanToldSaid :=
  Claim7.holds_of_told_tied_any_at .later 3 Tryf.f3 "fmt.Sprintf" [] [] _ _ _ _ _ (by kernel_rfl) rfl rfl rfl laidOut (by kernel_rfl) rfl ⟨rfl, rfl, rfl, rfl, rfl, rfl, rfl⟩ rfl rfl (by kernel_rfl) (by kernel_rfl) Tryf.func3 (by kernel_rfl)
    (of_decide_eq_true (by kernel_rfl)) (by unfold Func.isWrapper; rw [if_neg (of_decide_eq_false (by kernel_rfl))]; exact ⟨rfl, rfl⟩) stops.symm rfl stopKnobs.symm (by kernel_rfl)
    (by kernel_rfl) (by kernel_rfl) (by kernel_rfl) (by kernel_rfl) (by kernel_rfl) (by kernel_rfl) (by kernel_rfl) (by kernel_rfl) (by kernel_rfl) rfl (by kernel_rfl) rfl rfl
    rfl rfl
    rfl (by kernel_rfl) (by kernel_rfl) (by kernel_rfl) (by decide) (by kernel_rfl) fnArrayReadingNothingMatchesScan_row_tie
    (OpenClaim.moreEntering_of (by kernel_rfl) (by kernel_rfl) (by kernel_rfl) (by kernel_rfl) (by kernel_rfl) (by kernel_rfl) (by kernel_rfl) (by kernel_rfl) (by kernel_rfl) (by kernel_rfl))
    ⟨_, WideRow.started_initial, quiet _⟩
    (fun os started _ H enc _ => lifted os started H enc)

#print axioms proved
end Go.Proofs.Qxb6612244aFmt
