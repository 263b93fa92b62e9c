/-
  THE WALKS of Lower (20), NameOK (8).
-/
import Derived.Test.Qxb6613163aDoorWb
import Derived.Test.Qxb6613163aDoorWc
namespace Go.Proofs.Qxb6613163aDoor
open Go.RowKit

def lowI (x : Int) : Int := if 65 ≤ x ∧ x ≤ 90 then x + 32 else x

theorem lower_any (c : UInt8) (w : World) : Calls Tryd.prog 20 #[.int .u8 c.toNat] w fun e w' => e = .returned (.int .u8 (lowI c.toNat)) ∧ w' = w := by
  have hx0 := c.toNat_lt
  generalize hx : (c.toNat : Int) = x
  have hx1 : 0 ≤ x := by omega
  have hx2 : x ≤ 255 := by omega
  clear hx hx0
  by_cases h1 : 65 ≤ x
  · by_cases h2 : x ≤ 90
    · have E : Hid (lowI x = x + 32) := if_pos ⟨h1, h2⟩
      go_enter Tryd.func20, Tryd.ntmps20
      go_wp2
      go_ret
      exact ⟨by rw [E.out]; rfl, rfl⟩
    · have E : Hid (lowI x = x) := if_neg (by omega)
      go_enter Tryd.func20, Tryd.ntmps20
      go_wp2
      go_ret
      exact ⟨by rw [E.out]; rfl, rfl⟩
  · have E : Hid (lowI x = x) := if_neg (by omega)
    go_enter Tryd.func20, Tryd.ntmps20
    go_wp2
    go_ret
    exact ⟨by rw [E.out]; rfl, rfl⟩

def okB (j : Nat) (x : Int) : Prop := (97 ≤ x ∧ x ≤ 122) ∨ (65 ≤ x ∧ x ≤ 90) ∨ x = 95 ∨ x = 36 ∨ (48 ≤ x ∧ x ≤ 57 ∧ 0 < j)

def NameP (s : ByteArray) : Prop :=
  0 < s.size ∧ (∀ (j : Nat) (c : UInt8), s.data.toList[j]? = some c → okB j (c.toNat : Int)) ∧ ¬ ∃ a b c : UInt8, s.data.toList = [a, b, c] ∧ lowI a.toNat = 102 ∧ lowI b.toNat = 111 ∧ lowI c.toNat = 114

def NameEnds (s : ByteArray) (e : Ending) : Prop := ∃ b : Bool, e = .returned (.bool b) ∧ (b = true → NameP s)

set_option maxHeartbeats 4000000 in
set_option maxRecDepth 100000 in
theorem nameOK_any (s : ByteArray) (w : World) (hs : s.size ≤ 1073741824) :
    Calls Tryd.prog 8 #[.string s] w fun e w' => NameEnds s e ∧ w' = w := by
  by_cases h0 : s.size = 0
  · have e0 : ((s.size : Int) == 0) = true := by rw [h0]; rfl
    go_enter Tryd.func8, Tryd.ntmps8
    go_wp2
    go_ret
    exact ⟨⟨false, rfl, fun h => by cases h⟩, rfl⟩
  have e0 : ((s.size : Int) == 0) = false := by rw [beq_eq_false_iff_ne]; omega
  go_enter Tryd.func8, Tryd.ntmps8
  go_wp2
  go_loopg [3] s.size (fun q i wr => ∃ k : Nat, k ≤ s.size ∧ s.size ≤ k + q ∧ i = .int .i64 k ∧ Hid (∀ (j : Nat) (c : UInt8), j < k → s.data.toList[j]? = some c → okB j (c.toNat : Int)) ∧ wr = w)
  case atStart => exact ⟨0, by omega, by omega, rfl, fun j c h => by omega, rfl⟩
  case round =>
    obtain ⟨k, hk, hq, rfl, HN, hwr⟩ := hrel
    subst hwr
    by_cases hlt : k < s.size
    · have hx0 := (s[k]'hlt).toNat_lt
      have hgk : s.data.toList[k]? = some (s[k]'hlt) := by
        rw [List.getElem?_eq_getElem (by simpa using hlt)]; rfl
      obtain ⟨x, hx⟩ : ∃ x : Int, ((s[k]'hlt).toNat : Int) = x := ⟨_, rfl⟩
      have NX : Hid (okB k x → ∀ (j : Nat) (c : UInt8), j < k + 1 → s.data.toList[j]? = some c → okB j (c.toNat : Int)) := fun hok j c hj hc => by
        by_cases hjk : j = k
        · subst hjk
          rw [hgk] at hc
          cases hc
          rw [hx]; exact hok
        · exact HN.out j c (by omega) hc
      have hx1 : 0 ≤ x := by omega
      have hx2 : x ≤ 255 := by omega
      clear hx0 hgk
      have hlt' : (k : Int) < (s.size : Int) := by omega
      by_cases hy : (97 ≤ x ∧ x ≤ 122) ∨ (65 ≤ x ∧ x ≤ 90) ∨ x = 95 ∨ x = 36
      · have Y : Hid (_) := NX.out (by rcases hy with h | h | h | h; exact Or.inl h; exact Or.inr (Or.inl h); exact Or.inr (Or.inr (Or.inl h)); exact Or.inr (Or.inr (Or.inr (Or.inl h))))
        clear NX HN
        rcases hy with ⟨h, h'⟩ | ⟨h, h'⟩ | h | h
        all_goals try subst h
        all_goals
          go_wp2
          go_roundg (gk - 1)
          case measure => omega
          case rel => exact ⟨k + 1, by omega, by omega, by go_num, Y, rfl⟩
      · have e95 : (x == 95) = false := by simp; omega
        have e36 : (x == 36) = false := by simp; omega
        by_cases hd : 48 ≤ x ∧ x ≤ 57
        · obtain ⟨hd1, hd2⟩ := hd
          by_cases hk0 : 0 < k
          · have Y : Hid (_) := NX.out (Or.inr (Or.inr (Or.inr (Or.inr ⟨hd1, hd2, hk0⟩))))
            have hk0' : (0 : Int) < (k : Int) := by omega
            clear NX HN hy
            go_wp2
            go_roundg (gk - 1)
            case measure => omega
            case rel => exact ⟨k + 1, by omega, by omega, by go_num, Y, rfl⟩
          · have hk0' : decide ((0 : Int) < (k : Int)) = false := by simp; omega
            have hk0n : decide (0 < k) = false := by simp; omega
            clear NX HN hy
            go_wp2
            go_ret
            exact ⟨⟨false, rfl, fun h => by cases h⟩, rfl⟩
        · clear NX HN
          rcases (show x < 48 ∨ (57 < x ∧ x < 65) ∨ (90 < x ∧ x < 97) ∨ 122 < x from by omega) with h | ⟨h, h'⟩ | ⟨h, h'⟩ | h
          all_goals
            clear hy hd
            first | (have q1 : decide (x ≤ 90) = false := by simp; omega) | skip
            first | (have q2 : decide (x ≤ 122) = false := by simp; omega) | skip
            first | (have q3 : decide (x ≤ 57) = false := by simp; omega) | skip
            go_wp2
            go_ret
            exact ⟨⟨false, rfl, fun h => by cases h⟩, rfl⟩
    · have hge : decide (k < s.size) = false := by simp; omega
      have hge' : decide ((k : Int) < (s.size : Int)) = false := by simp; omega
      have HA : Hid (∀ (j : Nat) (c : UInt8), s.data.toList[j]? = some c → okB j (c.toNat : Int)) := fun j c hc => HN.out j c (by
        rcases Nat.lt_or_ge j s.data.toList.length with h | h
        · have : s.data.toList.length = s.size := Array.length_toList
          omega
        · rw [List.getElem?_eq_none h] at hc; cases hc) hc
      clear HN
      by_cases h3 : s.size = 3
      · have e3 : ((s.size : Int) == 3) = true := by rw [h3]; rfl
        obtain ⟨a, ha, had⟩ := byte_at s 0 (by omega)
        obtain ⟨b, hb, hbd⟩ := byte_at s 1 (by omega)
        obtain ⟨c, hc, hcd⟩ := byte_at s 2 (by omega)
        have hl : s.data.toList = [a, b, c] := by
          rw [List.drop_zero] at had
          rw [had, hbd, hcd, drop_end s 3 (by omega)]
        have hi0 : (0 : Int) < (s.size : Int) := by omega
        have hi1 : (1 : Int) < (s.size : Int) := by omega
        have hi2 : (2 : Int) < (s.size : Int) := by omega
        have NF : Hid (¬ (lowI a.toNat = 102 ∧ lowI b.toNat = 111 ∧ lowI c.toNat = 114) → NameP s) := fun hn =>
          ⟨by omega, HA.out, fun ⟨a', b', c', h', h1, h2, h3⟩ => by
            rw [hl] at h'
            simp only [List.cons.injEq, and_true] at h'
            obtain ⟨rfl, rfl, rfl⟩ := h'
            exact hn ⟨h1, h2, h3⟩⟩
        have L0 : Hid (∀ w, _) := fun w => lower_any a w
        have L1 : Hid (∀ w, _) := fun w => lower_any b w
        have L2 : Hid (∀ w, _) := fun w => lower_any c w
        clear HA had hbd hcd hl
        generalize lowI a.toNat = x0 at NF L0
        generalize lowI b.toNat = x1 at NF L1
        generalize lowI c.toNat = x2 at NF L2
        go_wp2_with fail
        refine Calls.mono (L0.out _) ?_
        rintro e w1 ⟨rfl, rfl⟩
        by_cases f0 : x0 = 102
        · subst f0
          go_wp2_with fail
          refine Calls.mono (L1.out _) ?_
          rintro e w1 ⟨rfl, rfl⟩
          by_cases f1 : x1 = 111
          · subst f1
            go_wp2_with fail
            refine Calls.mono (L2.out _) ?_
            rintro e w1 ⟨rfl, rfl⟩
            by_cases f2 : x2 = 114
            · subst f2
              go_wp2
              go_ret
              exact ⟨⟨false, rfl, fun h => by cases h⟩, rfl⟩
            · have ef : (x2 == 114) = false := by simpa using f2
              go_wp2
              go_ret
              exact ⟨⟨true, rfl, fun _ => NF.out (fun h => f2 h.2.2)⟩, rfl⟩
          · have ef : (x1 == 111) = false := by simpa using f1
            go_wp2
            go_ret
            exact ⟨⟨true, rfl, fun _ => NF.out (fun h => f1 h.2.1)⟩, rfl⟩
        · have ef : (x0 == 102) = false := by simpa using f0
          go_wp2
          go_ret
          exact ⟨⟨true, rfl, fun _ => NF.out (fun h => f0 h.1)⟩, rfl⟩
      · have e3 : ((s.size : Int) == 3) = false := by rw [beq_eq_false_iff_ne]; omega
        have NF : Hid (NameP s) := ⟨by omega, HA.out, fun ⟨a', b', c', h', _⟩ => by
          have : s.data.toList.length = s.size := Array.length_toList
          rw [h'] at this
          exact h3 this.symm⟩
        clear HA
        go_wp2
        go_ret
        exact ⟨⟨true, rfl, fun _ => NF.out⟩, rfl⟩

end Go.Proofs.Qxb6613163aDoor
