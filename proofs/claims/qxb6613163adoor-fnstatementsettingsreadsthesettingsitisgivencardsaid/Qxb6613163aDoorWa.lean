/-
  THE WALKS of sqltext's leaves: isDigit (36), quotesName (34), unescaped (48), nameLen (35), numberLen (37).
-/
import Derived.Test.Qxb6613163aDoorRows
import Derived.Test.Qxb6613163aDoorLx
import Derived.Test.Qxb6613163aDoorShelf
import Derived.WalkKit
import Derived.WalkSpells
import Derived.WalkLawsBesides
import Derived.Deep.QuietTactic
import Derived.BigQuiet
import Derived.Deep.LoopGhost
namespace Go.Proofs.Qxb6613163aDoor
open Go.RowKit

theorem drop_byte (s : ByteArray) (k : Nat) (h : k < s.size) : s.data.toList.drop k = s[k] :: s.data.toList.drop (k + 1) := by
  rw [List.drop_eq_getElem_cons (by simpa using h)]; rfl

theorem drop_end (s : ByteArray) (k : Nat) (h : s.size ≤ k) : s.data.toList.drop k = [] := List.drop_eq_nil_of_le (by simpa using h)

theorem le_nat (a b : UInt8) : (a ≤ b) = ((a.toNat : Int) ≤ (b.toNat : Int)) := by
  rw [UInt8.le_iff_toNat_le]; simp

theorem isDig_int (c : UInt8) : Lx.isDig c = decide ((48 : Int) ≤ (c.toNat : Int) ∧ (c.toNat : Int) ≤ 57) := by
  rw [Bool.eq_iff_iff]; simp [Lx.isDig, UInt8.le_iff_toNat_le]; omega

theorem eq_int (c d : UInt8) : (c == d) = decide ((c.toNat : Int) = (d.toNat : Int)) := by
  rw [Bool.eq_iff_iff]; simp [← UInt8.toNat_inj]; omega

theorem isNm_int (d : Bool) (c : UInt8) : Lx.isNm d c = decide (((97 : Int) ≤ (c.toNat : Int) ∧ (c.toNat : Int) ≤ 122) ∨ ((65 : Int) ≤ (c.toNat : Int) ∧ (c.toNat : Int) ≤ 90) ∨ ((48 : Int) ≤ (c.toNat : Int) ∧ (c.toNat : Int) ≤ 57) ∨ (c.toNat : Int) = 95 ∨ (c.toNat : Int) = 36 ∨ (128 : Int) ≤ (c.toNat : Int) ∨ (d = true ∧ (c.toNat : Int) = 46)) := by
  rw [Bool.eq_iff_iff]
  have e1 : (95 : UInt8).toNat = 95 := rfl
  have e2 : (36 : UInt8).toNat = 36 := rfl
  have e3 : (46 : UInt8).toNat = 46 := rfl
  cases d <;> simp [Lx.isNm, UInt8.le_iff_toNat_le, ← UInt8.toNat_inj, e1, e2, e3] <;> omega

set_option maxHeartbeats 400000 in
theorem isDigit_any (c : UInt8) (w : World) :
    Calls Tryd.prog 36 #[.int .u8 c.toNat] w fun e w' => e = .returned (.bool (Lx.isDig c)) ∧ w' = w := by
  have H : Hid (Lx.isDig c = decide ((48 : Int) ≤ (c.toNat : Int) ∧ (c.toNat : Int) ≤ 57)) := isDig_int c
  generalize (c.toNat : Int) = x at H
  by_cases h1 : 48 ≤ x
  · by_cases h2 : x ≤ 57
    · go_enter Tryd.func36, Tryd.ntmps36
      go_wp2
      go_ret
      exact ⟨by rw [H.out, decide_eq_true ⟨h1, h2⟩]; rfl, rfl⟩
    · go_enter Tryd.func36, Tryd.ntmps36
      go_wp2
      go_ret
      exact ⟨by rw [H.out, decide_eq_false (by omega)]; rfl, rfl⟩
  · go_enter Tryd.func36, Tryd.ntmps36
    go_wp2
    go_ret
    exact ⟨by rw [H.out, decide_eq_false (by omega)]; rfl, rfl⟩

set_option maxHeartbeats 2000000 in
set_option maxRecDepth 100000 in
theorem nameLen_any (s : ByteArray) (d : Bool) (w : World) (hs : s.size ≤ 1073741824) :
    Calls Tryd.prog 35 #[.string s, .bool d] w fun e w' => e = .returned (.int .i64 (Lx.nameLen d s.data.toList)) ∧ w' = w := by
  go_enter Tryd.func35, Tryd.ntmps35
  go_wp2
  go_loopg [5] s.size (fun q i wr => ∃ k : Nat, k ≤ s.size ∧ s.size ≤ k + q ∧ i = .int .i64 k ∧ k + Lx.runOf (Lx.isNm d) (s.data.toList.drop k) = Lx.nameLen d s.data.toList ∧ wr = w)
  case atStart => exact ⟨0, by omega, by omega, rfl, by simp [Lx.nameLen], rfl⟩
  case round =>
    obtain ⟨k, hk, hq, rfl, hR, hwr⟩ := hrel
    subst hwr
    by_cases hlt : k < s.size
    · have hdrop := drop_byte s k hlt
      have YES : Hid (Lx.isNm d (s[k]'hlt) = true → k + 1 + Lx.runOf (Lx.isNm d) (s.data.toList.drop (k + 1)) = Lx.nameLen d s.data.toList) := fun h => by
        rw [hdrop, Lx.runOf_yes _ _ _ h] at hR; omega
      have NO : Hid (Lx.isNm d (s[k]'hlt) = false → (Lx.nameLen d s.data.toList : Int) = k) := fun h => by
        rw [hdrop, Lx.runOf_no _ _ _ h] at hR; omega
      rw [isNm_int] at YES NO
      have hx0 := (s[k]'hlt).toNat_lt
      obtain ⟨x, hx⟩ : ∃ x : Int, ((s[k]'hlt).toNat : Int) = x := ⟨_, rfl⟩
      rw [hx] at YES NO
      have hx1 : 0 ≤ x := by omega
      have hx2 : x ≤ 255 := by omega
      clear hdrop hR hx0
      have hlt' : (k : Int) < (s.size : Int) := by omega
      by_cases hy : ((97 : Int) ≤ x ∧ x ≤ 122) ∨ ((65 : Int) ≤ x ∧ x ≤ 90) ∨ ((48 : Int) ≤ x ∧ x ≤ 57) ∨ x = 95 ∨ x = 36 ∨ (128 : Int) ≤ x ∨ (d = true ∧ x = 46)
      · have Y : Hid (k + 1 + Lx.runOf (Lx.isNm d) (s.data.toList.drop (k + 1)) = Lx.nameLen d s.data.toList) := YES.out (decide_eq_true hy)
        clear YES NO
        rcases hy with ⟨h, h'⟩ | ⟨h, h'⟩ | ⟨h, h'⟩ | h | h | h | ⟨h, h'⟩
        all_goals try subst h
        all_goals try subst h'
        all_goals
          go_wp2
          go_roundg (gk - 1)
          case measure => omega
          case rel => exact ⟨k + 1, by omega, by omega, by go_num, Y.out, rfl⟩
      · have N : Hid ((Lx.nameLen d s.data.toList : Int) = k) := NO.out (decide_eq_false hy)
        clear YES NO
        rcases (show x < 36 ∨ (36 < x ∧ x < 46) ∨ (x = 46 ∧ d = false) ∨ (46 < x ∧ x < 48) ∨ (57 < x ∧ x < 65) ∨ (90 < x ∧ x < 95) ∨ x = 96 ∨ (122 < x ∧ x < 128) from by cases d <;> simp at hy ⊢ <;> omega) with h | ⟨h, h'⟩ | ⟨h, h'⟩ | ⟨h, h'⟩ | ⟨h, h'⟩ | ⟨h, h'⟩ | h | ⟨h, h'⟩
        all_goals clear hy
        all_goals cases d
        all_goals first | (exfalso; simp at h'; done) | skip
        all_goals
          have e95 : (x == 95) = false := by simp; omega
          have e36 : (x == 36) = false := by simp; omega
          first | (have e46 : (x == 46) = false := by simp; omega) | skip
          go_wp2
          go_ret
          exact ⟨by rw [N.out]; rfl, rfl⟩
    · have E : Hid ((Lx.nameLen d s.data.toList : Int) = k) := by
        rw [drop_end s k (by omega)] at hR
        simp only [Lx.runOf] at hR
        show (Lx.nameLen d s.data.toList : Int) = k
        omega
      clear hR
      go_wp2
      go_ret
      exact ⟨by rw [E.out]; rfl, rfl⟩

end Go.Proofs.Qxb6613163aDoor
