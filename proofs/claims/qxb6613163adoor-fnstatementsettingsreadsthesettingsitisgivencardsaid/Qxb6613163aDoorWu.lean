/-
  THE WALK of zzBytes (17): it ends by a Boolean; the world is as it was.
-/
import Derived.Test.Qxb6613163aDoorWb
namespace Go.Proofs.Qxb6613163aDoor
open Go.RowKit

def BoolEnd (e : Ending) : Prop := ∃ b : Bool, e = .returned (.bool b)

set_option maxHeartbeats 4000000 in
set_option maxRecDepth 100000 in
theorem zzBytes_any (w : World) (oa : Option Addr) (n cap : Nat) (N : Nat → ByteArray) (va : Option Addr) (nv cv : Nat) (text : ByteArray) (b1 b2 b3 : Bool) (hoa : Hid (0 < n → ∃ a, oa = some a)) (hcell : Hid (∀ a, oa = some a → ∀ i, i < n → w.cell? (a.add i) = some (.string (N i)))) (hNl : Hid (∀ i, i < n → (N i).size ≤ maxLen)) :
    Calls Tryd.prog 17 #[.slice oa n cap, .slice va nv cv, .string text, .bool b1, .bool b2, .bool b3] w fun e w' => BoolEnd e ∧ w' = w := by
  have hml : maxLen ≤ 9223372036854775807 := by unfold maxLen; omega
  by_cases h1 : n ≤ 1048576
  · have d1 : decide ((1048576 : Int) < (n : Int)) = false := by simp; omega
    have d1' : decide (1048576 < n) = false := by simp; omega
    go_enter Tryd.func17, Tryd.ntmps17
    go_wp2
    go_loopg [14, 13] n (fun q i z wr => ∃ (k : Nat) (zz : Nat), k ≤ n ∧ n ≤ k + q ∧ i = .int .i64 k ∧ z = .int .i64 zz ∧ zz ≤ 1048576 ∧ wr = w)
    case atStart => exact ⟨0, n, by omega, by omega, rfl, by go_num, by omega, rfl⟩
    case round =>
      obtain ⟨k, zz, hk, hq, rfl, rfl, hz, rfl⟩ := hrel
      by_cases hlt : k < n
      · obtain ⟨a, rfl⟩ := hoa.out (by omega)
        have hc := hcell.out a rfl k hlt
        have hs := hNl.out k hlt
        have hlt' : (k : Int) < (n : Int) := by omega
        generalize N k = s at hc hs
        by_cases h2 : s.size ≤ 1048576
        · have d2 : decide ((1048576 : Int) < (s.size : Int)) = false := by simp; omega
          have d2' : decide (1048576 < s.size) = false := by simp; omega
          by_cases h3 : zz + s.size ≤ 1048576
          · have d3 : decide ((1048576 : Int) < (zz : Int) + (s.size : Int)) = false := by simp; omega
            go_wp2
            go_roundg (gk - 1)
            case measure => omega
            case rel => exact ⟨k + 1, zz + s.size, by omega, by omega, by go_num, by go_num, h3, rfl⟩
          · have d3 : decide ((1048576 : Int) < (zz : Int) + (s.size : Int)) = true := by simp; omega
            go_wp2
            go_ret
            exact ⟨⟨_, rfl⟩, rfl⟩
        · have d2 : decide ((1048576 : Int) < (s.size : Int)) = true := by simp; omega
          have d2' : decide (1048576 < s.size) = true := by simp; omega
          go_wp2
          go_ret
          exact ⟨⟨_, rfl⟩, rfl⟩
      · have hge : decide (k < n) = false := by simp; omega
        have hge' : decide ((k : Int) < (n : Int)) = false := by simp; omega
        clear hcell hNl hoa
        go_wp2
        all_goals
          go_ret
          exact ⟨⟨_, rfl⟩, rfl⟩
  · have d1 : decide ((1048576 : Int) < (n : Int)) = true := by simp; omega
    have d1' : decide (1048576 < n) = true := by simp; omega
    go_enter Tryd.func17, Tryd.ntmps17
    go_wp2
    go_ret
    exact ⟨⟨_, rfl⟩, rfl⟩

end Go.Proofs.Qxb6613163aDoor
