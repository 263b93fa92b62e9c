/-
  THE WALKS of (*textReader).close (19), ZZtextReaderStep (14), zzOuterStepsZero (12).
-/
import Derived.Test.Qxb6612244aFmtWb
namespace Go.Proofs.Qxb6612244aFmt
open Go.RowKit

set_option maxHeartbeats 400000 in
theorem close_any {w : World} {B bd n : Nat} {pos : Nat} {a : Addr} {k c : Nat} (hr : Rd w B bd n pos (.slice (some a) (k + 1) c)) (hp : pos ≤ 1048577) (hkc : k + 1 ≤ c) (hc : c ≤ maxLen) (ha : a.spot = none) :
    Calls Tryf.prog 19 #[.pointer (some ⟨B, 0, none⟩)] w fun e w' => e = .returned .nilIface ∧ Rd w' B bd n ((pos + 1 : Nat) : Int) (.slice (some a) k c) ∧ w.grownBy w' (some B) := by
  obtain ⟨b, off, spot⟩ := a
  simp only at ha
  subst ha
  unfold maxLen at hc
  have c1 := hr.c1
  have c2 := hr.c2
  have f1 := hr.free 1
  have f2 := hr.free 2
  go_enter Tryf.func19, Tryf.ntmps19
  go_wp2
  go_region
  all_goals go_wp2
  all_goals go_ret
  all_goals exact ⟨rfl, ((hr.setPos _).setPath _).drew, grownBy_drew (grownBy_setCell (grownBy_setCell (World.grownBy.refl _ _) _ _) _ _)⟩

set_option maxHeartbeats 400000 in
theorem step_any {w : World} {B bd n : Nat} {pos : Int} {g k c i : Nat} {b : Bool} {s : ByteArray} {x : Int} (hr : Rd w B bd n pos (.slice (some ⟨g, 0, none⟩) k c)) (hi : i < k) (_hk : k ≤ 33)
    (h0 : w.cell? ⟨g, i * 3, none⟩ = some (.bool b)) (h1 : w.cell? ⟨g, i * 3 + 1, none⟩ = some (.string s)) (h2 : w.cell? ⟨g, i * 3 + 2, none⟩ = some (.int .i64 x)) :
    Calls Tryf.prog 14 #[.pointer (some ⟨B, 0, none⟩), .int .i64 i] w fun e w' => e = .returned (.tuple #[.bool b, .string s, .int .i64 x]) ∧ w.grownBy w' none := by
  have c2 := hr.c2
  go_enter Tryf.func14, Tryf.ntmps14
  go_wp2
  go_quiet (fail)
  go_wp2
  go_ret3
  exact ⟨rfl, grownBy_drewN (World.grownBy_alloc _ _ _) _⟩

/-- The first d steps of the row at block g are zero steps. -/
def Zs (w : World) (g d : Nat) : Prop :=
  ∀ i, i < d → w.cell? ⟨g, i * 3, none⟩ = some (.bool false) ∧ w.cell? ⟨g, i * 3 + 1, none⟩ = some (.string ⟨#[]⟩) ∧ w.cell? ⟨g, i * 3 + 2, none⟩ = some (.int .i64 0)

theorem Zs.grown {w w' : World} {g d : Nat} {r : Option Nat} (h : Zs w g d) (hg : w.grownBy w' r) (hne : some g ≠ r) : Zs w' g d :=
  fun i hi => ⟨hg.cell (h i hi).1 hne, hg.cell (h i hi).2.1 hne, hg.cell (h i hi).2.2 hne⟩

theorem Rd.grown {w w' : World} {B bd n : Nat} {pos : Int} {pv : Value} {r : Option Nat} (h : Rd w B bd n pos pv) (hg : w.grownBy w' r) (hne : some B ≠ r) : Rd w' B bd n pos pv :=
  (hg.block B h.lt hne).trans h

set_option maxHeartbeats 1000000 in
theorem outer_any {w : World} {B bd n : Nat} {pos : Int} {g k c d : Nat} (hr : Rd w B bd n pos (.slice (some ⟨g, 0, none⟩) k c)) (hd : d ≤ k) (hk : k ≤ 33) (hz : Zs w g d) :
    Calls Tryf.prog 12 #[.pointer (some ⟨B, 0, none⟩), .int .i64 d] w fun e w' => e = .returned (.bool true) ∧ w.grownBy w' none := by
  have hkd : decide (k < d) = false := by simp; omega
  go_enter Tryf.func12, Tryf.ntmps12
  go_wp2_with (go_at_call 9; refine (depth_any hr).mono ?_; rintro e w' ⟨rfl, rfl⟩)
  go_loopg [5] d (fun q i wr => ∃ m : Nat, m ≤ d ∧ d ≤ m + q ∧ i = .int .i64 m ∧ w'.grownBy wr none)
  case atStart => exact ⟨0, by omega, by omega, rfl, World.grownBy.refl _ _⟩
  case round =>
    obtain ⟨m, hm, hq, rfl, hG⟩ := hrel
    by_cases hlt : m < d
    · have hs := (hz.grown hG (by simp)) m hlt
      have hR := hr.grown hG (by simp)
      go_wp2_with (go_at_call 14; refine (step_any hR (i := m) (by omega) hk hs.1 hs.2.1 hs.2.2).mono ?_; rintro e w1 ⟨rfl, hg1⟩)
      go_roundg (gk - 1)
      case measure => omega
      case rel => exact ⟨m + 1, by omega, by omega, by go_num, grownBy_trans hG hg1⟩
    · go_wp2
      go_ret
      exact ⟨rfl, hG⟩

end Go.Proofs.Qxb6612244aFmt
