/-
  THE PLAIN LAW of 'FnArrayReadingNothingMatchesScan': lists of bytes (as integers), no Go in sight.
  'spLen l': how many of l's first bytes are JSON white space. 'scL l', 'scC l': how many of its first bytes are white space or commas; how many of those are commas.
-/
import Derived.WalkKit
namespace Go.Proofs.Qxb6612244aFmt.Pl

def isSp (c : Int) : Bool := c == 32 || c == 9 || c == 13 || c == 10
def isSc (c : Int) : Bool := c == 32 || c == 9 || c == 13 || c == 10 || c == 44

def spLen : List Int → Nat
  | [] => 0
  | c :: t => if isSp c then spLen t + 1 else 0

def scL : List Int → Nat
  | [] => 0
  | c :: t => if isSc c then scL t + 1 else 0

def scC : List Int → Nat
  | [] => 0
  | c :: t => if isSc c then (if c == 44 then scC t + 1 else scC t) else 0

theorem isSc_of_sp {c : Int} (h : isSp c = true) : isSc c = true := by
  simp [isSp, isSc] at *; omega

theorem not44_of_sp {c : Int} (h : isSp c = true) : (c == 44) = false := by
  simp [isSp] at *; omega

theorem drop_cons (z : List Int) (p : Nat) (h : p < z.length) : z.drop p = z.getD p 0 :: z.drop (p + 1) := by
  rw [List.drop_eq_getElem_cons h]
  simp [List.getD, h]

theorem spLen_le (l : List Int) : spLen l ≤ l.length := by
  induction l with
  | nil => simp [spLen]
  | cons c t ih => simp only [spLen]; split <;> simp <;> omega

theorem scL_le (l : List Int) : scL l ≤ l.length := by
  induction l with
  | nil => simp [scL]
  | cons c t ih => simp only [scL]; split <;> simp <;> omega

theorem scC_le (l : List Int) : scC l ≤ scL l := by
  induction l with
  | nil => simp [scC]
  | cons c t ih => simp only [scL, scC]; split <;> (try split) <;> omega

/-- One white byte. -/
theorem spLen_yes (z : List Int) (p : Nat) (h : p < z.length) (hs : isSp (z.getD p 0) = true) : spLen (z.drop p) = spLen (z.drop (p + 1)) + 1 := by
  rw [drop_cons z p h]; simp only [spLen, hs, if_true]

theorem spLen_no (z : List Int) (p : Nat) (h : p < z.length) (hs : isSp (z.getD p 0) = false) : spLen (z.drop p) = 0 := by
  rw [drop_cons z p h]; simp only [spLen, hs, Bool.false_eq_true, if_false]

theorem spLen_end (z : List Int) (p : Nat) (h : z.length ≤ p) : spLen (z.drop p) = 0 := by
  rw [List.drop_eq_nil_of_le h]; rfl

/-- Behind the white bytes there is none. -/
theorem spLen_stop (l : List Int) : spLen (l.drop (spLen l)) = 0 := by
  induction l with
  | nil => rfl
  | cons c t ih =>
    by_cases h : isSp c = true
    · simp only [spLen, h, if_true, List.drop_succ_cons]; exact ih
    · simp [spLen, h]

theorem sc_skip (l : List Int) : scL l = spLen l + scL (l.drop (spLen l)) ∧ scC l = scC (l.drop (spLen l)) := by
  induction l with
  | nil => simp [spLen]
  | cons c t ih =>
    by_cases h : isSp c = true
    · have h1 := isSc_of_sp h
      have h2 := not44_of_sp h
      simp only [spLen, scL, scC, h, h1, h2, if_true, List.drop_succ_cons, Bool.false_eq_true, if_false]
      omega
    · simp [spLen, h]

theorem sc_at (z : List Int) (p : Nat) : scL (z.drop p) = spLen (z.drop p) + scL (z.drop (p + spLen (z.drop p))) ∧ scC (z.drop p) = scC (z.drop (p + spLen (z.drop p))) := by
  have h := sc_skip (z.drop p)
  rwa [List.drop_drop] at h

theorem sc_comma (z : List Int) (p : Nat) (h : p < z.length) (hc : z.getD p 0 = 44) : scL (z.drop p) = scL (z.drop (p + 1)) + 1 ∧ scC (z.drop p) = scC (z.drop (p + 1)) + 1 := by
  rw [drop_cons z p h, hc]
  exact ⟨rfl, rfl⟩

theorem sc_yes (z : List Int) (p : Nat) (h : p < z.length) (hs : isSc (z.getD p 0) = true) : scL (z.drop p) = scL (z.drop (p + 1)) + 1 ∧ scC (z.drop p) = scC (z.drop (p + 1)) + (if z.getD p 0 == 44 then 1 else 0) := by
  rw [drop_cons z p h]
  simp only [scL, scC, hs, if_true, true_and]
  split <;> rfl

theorem sc_no (z : List Int) (p : Nat) (h : p < z.length) (hs : isSc (z.getD p 0) = false) : scL (z.drop p) = 0 ∧ scC (z.drop p) = 0 := by
  rw [drop_cons z p h]; simp only [scL, scC, hs, Bool.false_eq_true, if_false, and_self]

theorem sc_end (z : List Int) (p : Nat) (h : z.length ≤ p) : scL (z.drop p) = 0 ∧ scC (z.drop p) = 0 := by
  rw [List.drop_eq_nil_of_le h]; exact ⟨rfl, rfl⟩

/-- Where the white bytes end: no white byte. -/
theorem not_sp_there (z : List Int) (p : Nat) (h : p + spLen (z.drop p) < z.length) : isSp (z.getD (p + spLen (z.drop p)) 0) = false := by
  have hs := spLen_stop (z.drop p)
  rw [List.drop_drop] at hs
  by_cases hx : isSp (z.getD (p + spLen (z.drop p)) 0) = true
  · rw [spLen_yes z _ h hx] at hs; omega
  · simpa using hx

/-- Where the white bytes end and no comma stands: the scan ends there. -/
theorem sc_there (z : List Int) (p : Nat) (hc : p + spLen (z.drop p) < z.length → z.getD (p + spLen (z.drop p)) 0 ≠ 44) :
    scL (z.drop p) = spLen (z.drop p) ∧ scC (z.drop p) = 0 := by
  have h := sc_at z p
  by_cases hl : p + spLen (z.drop p) < z.length
  · have h1 := not_sp_there z p hl
    have h2 := hc hl
    have h3 : isSc (z.getD (p + spLen (z.drop p)) 0) = false := by
      simp only [isSp, isSc, Bool.or_eq_false_iff, beq_eq_false_iff_ne] at *
      exact ⟨h1, h2⟩
    have := sc_no z _ hl h3
    omega
  · have := sc_end z (p + spLen (z.drop p)) (by omega)
    omega

end Go.Proofs.Qxb6612244aFmt.Pl
