/-
  THE WALK of model.pointer (24) at an empty token, and of (*textReader).pointer (22) over 32 zero steps.
-/
import Derived.Test.Qxb6612244aFmtWe
namespace Go.Proofs.Qxb6612244aFmt
open Go.RowKit

theorem count0 (x : Int) (w : World) : (callFunc 44 #[.string ⟨#[]⟩, .int .u8 x]).run Tryf.prog w = .ok (.value (.int .i64 0)) w := by kernel_rfl

attribute [local go_sem] count0

set_option maxHeartbeats 1000000 in
theorem repl126 (w : World) :
    Calls Tryf.prog 28 #[.string ⟨#[]⟩, .string ⟨#[126]⟩, .string ⟨#[126, 48]⟩] w fun e w' => e = .returned (.string ⟨#[]⟩) ∧ w' = w := by
  go_enter Tryf.func28, Tryf.ntmps28
  go_wp2
  go_ret
  exact ⟨rfl, rfl⟩

set_option maxHeartbeats 1000000 in
theorem repl47 (w : World) :
    Calls Tryf.prog 28 #[.string ⟨#[]⟩, .string ⟨#[47]⟩, .string ⟨#[126, 49]⟩] w fun e w' => e = .returned (.string ⟨#[]⟩) ∧ w' = w := by
  go_enter Tryf.func28, Tryf.ntmps28
  go_wp2
  go_ret
  exact ⟨rfl, rfl⟩

set_option maxHeartbeats 1000000 in
theorem ptr_any (p : ByteArray) (w : World) (hp : p.size ≤ 100) :
    Calls Tryf.prog 24 #[.string p, .string ⟨#[]⟩] w fun e w' => ∃ s : ByteArray, e = .returned (.string s) ∧ s.size = p.size + 1 ∧ w' = w := by
  go_enter Tryf.func24, Tryf.ntmps24
  go_wp2_with fail
  refine (repl126 _).mono ?_
  rintro e w' ⟨rfl, rfl⟩
  go_wp2_with fail
  refine (repl47 _).mono ?_
  rintro e w'' ⟨rfl, rfl⟩
  go_wp2_with fail
  go_ret
  exact ⟨_, rfl, by rw [ByteArray.size_append, ByteArray.size_append]; rfl, rfl⟩

set_option maxHeartbeats 1000000 in
theorem pointer_any {w : World} {B bd n : Nat} {pos : Int} {g c d : Nat} (hr : Rd w B bd n pos (.slice (some ⟨g, 0, none⟩) d c)) (hd : d ≤ 32) (hz : Zs w g d) :
    Calls Tryf.prog 22 #[.pointer (some ⟨B, 0, none⟩)] w fun e w' => ∃ s : ByteArray, e = .returned (.string s) ∧ w.grownBy w' none := by
  have c2 := hr.c2
  go_enter Tryf.func22, Tryf.ntmps22
  go_wp2
  go_loopg [3, 11] d (fun q p i wr => ∃ (m : Nat) (s : ByteArray), m ≤ d ∧ d ≤ m + q ∧ i = .int .i64 m ∧ p = .string s ∧ s.size = m ∧ w.grownBy wr none)
  case atStart => exact ⟨0, ⟨#[]⟩, by omega, by omega, rfl, rfl, rfl, World.grownBy.refl _ _⟩
  case round =>
    obtain ⟨m, s, hm, hq, rfl, rfl, hs, hG⟩ := hrel
    have HS : Hid (s.size = m) := hs
    have hs' : s.size ≤ 100 := by omega
    clear hs
    by_cases hlt : m < d
    · have hs := (hz.grown hG (by simp)) m hlt
      have h0 := hs.1
      have h1 := hs.2.1
      have h2 := hs.2.2
      clear hs
      go_wp2_with fail
      refine (ptr_any s _ hs').mono ?_
      rintro e w1 ⟨s1, rfl, hs1, rfl⟩
      have HS1 : Hid (s1.size = s.size + 1) := hs1
      clear hs1
      go_wp2
      go_roundg (gk - 1)
      case measure => omega
      case rel => exact ⟨m + 1, s1, by omega, by omega, by go_num, rfl, by rw [HS1.out, HS.out], grownBy_alloc hG _⟩
    · go_wp2
      go_ret
      exact ⟨s, rfl, hG⟩

end Go.Proofs.Qxb6612244aFmt
