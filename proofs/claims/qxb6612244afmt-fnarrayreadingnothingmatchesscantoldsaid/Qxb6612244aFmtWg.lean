/-
  THE WALK of (*textReader).open (17) at 32 deep: it refuses, and moves nothing.
-/
import Derived.Test.Qxb6612244aFmtWf
import Derived.Test.Qxb6612244aFmtFm
namespace Go.Proofs.Qxb6612244aFmt
open Go.RowKit Go.Extern.Stop Go.Stop Go.Extern

attribute [local go_sem] Tryf.call21 Tryf.guard Tryf.fmt0 Tryf.fmt0r Tryf.op3_100

set_option maxHeartbeats 1000000 in
theorem open_full {w : World} {B bd n : Nat} {pos : Int} {g c : Nat} (F : Interp) (hF : F.answers w.tape) (hr : Rd w B bd n pos (.slice (some ⟨g, 0, none⟩) 32 c)) (hz : Zs w g 32) :
    Calls Tryf.prog 17 #[.pointer (some ⟨B, 0, none⟩), .bool true] w fun e w' => ∃ v, e = .returned (.iface 38 v) ∧ w.grownBy w' none := by
  have hF' := answers_open hF
  have c2 := hr.c2
  go_enter Tryf.func17, Tryf.ntmps17
  go_wp2_with fail
  have hg0 : w.grownBy (w.alloc (.cells #[.iface 3 (.int .i64 32)] 20)).drew none := grownBy_drew (World.grownBy_alloc _ _ _)
  refine (pointer_any (hr.grown hg0 (by simp)) (by omega) (hz.grown hg0 (by simp))).mono ?_
  rintro e w1 ⟨s, rfl, hg1⟩
  have hg2 := grownBy_trans hg0 hg1
  clear hg0 hg1 c2 hz hr
  go_wp2
  go_ret
  exact ⟨_, rfl, grownBy_alloc hg2 _⟩

end Go.Proofs.Qxb6612244aFmt
