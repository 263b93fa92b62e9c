/-
  PLAIN FACTS on numLen and the run of a predicate, place by place.
-/
import Derived.Test.Qxb6613163aDoorLx
namespace Go.Proofs.Qxb6613163aDoor.Lx

theorem runOf_in (p : UInt8 → Bool) : ∀ (l : List UInt8) (k : Nat) (c : UInt8) (t : List UInt8), k < runOf p l → l.drop k = c :: t → p c = true ∧ k + 1 + runOf p t = runOf p l
  | [], k, c, t, h, _ => by simp [runOf] at h
  | a :: l, 0, c, t, h, hd => by
    simp only [List.drop_zero, List.cons.injEq] at hd
    obtain ⟨rfl, rfl⟩ := hd
    by_cases hp : p a = true
    · rw [runOf_yes p a l hp]; exact ⟨hp, by omega⟩
    · rw [runOf_no p a l (by simpa using hp)] at h; omega
  | a :: l, k + 1, c, t, h, hd => by
    by_cases hp : p a = true
    · rw [runOf_yes p a l hp] at h ⊢
      have := runOf_in p l k c t (by omega) (by simpa using hd)
      exact ⟨this.1, by omega⟩
    · rw [runOf_no p a l (by simpa using hp)] at h; omega

theorem runOf_at (p : UInt8 → Bool) : ∀ (l : List UInt8) (c : UInt8) (t : List UInt8), l.drop (runOf p l) = c :: t → p c = false
  | [], c, t, hd => by simp at hd
  | a :: l, c, t, hd => by
    by_cases hp : p a = true
    · rw [runOf_yes p a l hp] at hd
      exact runOf_at p l c t (by simpa using hd)
    · rw [runOf_no p a l (by simpa using hp)] at hd
      simp only [List.drop_zero, List.cons.injEq] at hd
      rw [← hd.1]; simpa using hp

theorem runOf_zero (p : UInt8 → Bool) (c : UInt8) (t : List UInt8) : runOf p (c :: t) = 0 ↔ p c = false := by
  by_cases h : p c = true
  · rw [runOf_yes p c t h]; simp [h]
  · have h' : p c = false := by simpa using h
    rw [runOf_no p c t h']; simp [h']

theorem num_end (s : List UInt8) (h : s.drop (runOf isDigDot s) = []) : numLen s = runOf isDigDot s := by unfold numLen; rw [h]
theorem num_other (s : List UInt8) (c : UInt8) (t : List UInt8) (h : s.drop (runOf isDigDot s) = c :: t) (h1 : (c == 101) = false) (h2 : (c == 69) = false) : numLen s = runOf isDigDot s := by
  unfold numLen; rw [h]; simp only [h1, h2, Bool.or_self, Bool.false_eq_true, if_false]
theorem num_e0 (s : List UInt8) (c : UInt8) (t : List UInt8) (h : s.drop (runOf isDigDot s) = c :: t) (hx : expLen t = 0) : numLen s = runOf isDigDot s := by
  unfold numLen; rw [h]; simp only [hx, if_true, ite_self]
theorem num_e (s : List UInt8) (c : UInt8) (t : List UInt8) (h : s.drop (runOf isDigDot s) = c :: t) (h1 : (c == 101 || c == 69) = true) (hx : expLen t ≠ 0) : numLen s = runOf isDigDot s + 1 + expLen t := by
  unfold numLen; rw [h]; simp only [h1, hx, if_true, if_false]

theorem exp_sign (c : UInt8) (t : List UInt8) (h : (c == 43 || c == 45) = true) : expLen (c :: t) = if runOf isDig t = 0 then 0 else runOf isDig t + 1 := by
  simp only [expLen, h, if_true]
theorem exp_plain (c : UInt8) (t : List UInt8) (h : (c == 43 || c == 45) = false) : expLen (c :: t) = runOf isDig (c :: t) := by
  simp only [expLen, h, Bool.false_eq_true, if_false]

end Go.Proofs.Qxb6613163aDoor.Lx
