/-
  THE PLAIN LAW: how a text is cut into fields.
-/
import Derived.Lib.DecodeN
namespace Go.Proofs.Qxb6613537aFmt.Pl

def isSep (c : UInt8) : Bool := c == 32 || c == 10
def isCtl (c : UInt8) : Bool := decide (c.toNat < 32) || c == 127

/-- The bytes up to the first separator. -/
def fld (s : List UInt8) : List UInt8 := s.takeWhile fun c => !isSep c
def idx (s : List UInt8) : Nat := (fld s).length
/-- How many bytes the first token has. -/
def tokLen (s : List UInt8) : Nat := if idx s < s.length then idx s + 1 else s.length
def endB (s : List UInt8) : Bool := s[idx s]? == some 10
def okF (f : List UInt8) : Bool := !f.isEmpty && f.all fun c => !isCtl c

def rd : Nat → List UInt8 → List (List UInt8 × Bool) × Bool
  | 0, _ => ([], false)
  | n + 1, s => if s = [] then ([], false) else if okF (fld s) then ((fld s, endB s) :: (rd n (s.drop (tokLen s))).1, (rd n (s.drop (tokLen s))).2) else ([], true)

def read (s : List UInt8) : List (List UInt8 × Bool) × Bool := rd s.length s

theorem idx_le (s : List UInt8) : idx s ≤ s.length := by
  unfold idx fld
  induction s with
  | nil => simp
  | cons c s ih =>
    rw [List.takeWhile_cons]
    split
    · simp only [List.length_cons]; omega
    · simp

theorem tokLen_pos (s : List UInt8) (h : s ≠ []) : 0 < tokLen s := by
  unfold tokLen
  cases s with
  | nil => exact absurd rfl h
  | cons c s => split <;> simp

theorem tokLen_le (s : List UInt8) : tokLen s ≤ s.length := by
  unfold tokLen
  split <;> omega

theorem rd_fuel : ∀ (n m : Nat) (s : List UInt8), s.length ≤ n → s.length ≤ m → rd n s = rd m s
  | 0, m, s, h, _ => by
    have : s = [] := List.eq_nil_of_length_eq_zero (by omega)
    subst this
    cases m <;> simp [rd]
  | n + 1, 0, s, _, h => by
    have : s = [] := List.eq_nil_of_length_eq_zero (by omega)
    subst this
    simp [rd]
  | n + 1, m + 1, s, h1, h2 => by
    simp only [rd]
    by_cases h : s = []
    · simp [h]
    · have hp := tokLen_pos s h
      rw [rd_fuel n m (s.drop (tokLen s)) (by rw [List.length_drop]; omega) (by rw [List.length_drop]; omega)]

theorem read_nil : read [] = ([], false) := rfl
theorem read_bad (s : List UInt8) (h : s ≠ []) (hb : okF (fld s) = false) : read s = ([], true) := by
  unfold read
  cases s with
  | nil => exact absurd rfl h
  | cons c s => simp [rd, hb]
theorem read_ok (s : List UInt8) (h : s ≠ []) (hb : okF (fld s) = true) : read s = ((fld s, endB s) :: (read (s.drop (tokLen s))).1, (read (s.drop (tokLen s))).2) := by
  have hp := tokLen_pos s h
  unfold read
  cases s with
  | nil => exact absurd rfl h
  | cons c s =>
    rw [List.length_cons]
    simp only [rd, hb, if_true]
    rw [rd_fuel s.length ((c :: s).drop (tokLen (c :: s))).length _ (by rw [List.length_drop, List.length_cons]; omega) (Nat.le_refl _)]
    simp

/-- Behind a text whose first token ends in a separator, what follows changes nothing of that token. -/
theorem fld_app (a b : List UInt8) (h : idx a < a.length) : fld (a ++ b) = fld a ∧ tokLen (a ++ b) = tokLen a ∧ endB (a ++ b) = endB a := by
  have hf : fld (a ++ b) = fld a := by
    unfold fld idx at *
    revert h
    unfold fld
    induction a with
    | nil => simp
    | cons c a ih =>
      intro h
      rw [List.cons_append, List.takeWhile_cons, List.takeWhile_cons]
      rw [List.takeWhile_cons] at h
      split
      · rename_i hc
        rw [if_pos hc] at h
        rw [ih (by simpa using h)]
      · rfl
  have hi : idx (a ++ b) = idx a := by unfold idx; rw [hf]
  refine ⟨hf, ?_, ?_⟩
  · unfold tokLen
    rw [hi, if_pos h, if_pos (by rw [List.length_append]; omega)]
  · unfold endB
    rw [hi, List.getElem?_append_left h]

theorem idx_of_last (a : List UInt8) (h : a.getLast? = some 10) : idx a < a.length := by
  unfold idx fld
  induction a with
  | nil => simp at h
  | cons c a ih =>
    rw [List.takeWhile_cons]
    split
    · rename_i hc
      cases a with
      | nil =>
        simp at h
        subst h
        exact absurd hc (by decide)
      | cons d a =>
        have := ih (by simpa [List.getLast?_cons_cons] using h)
        simpa using this
    · simp

theorem drop_last (a : List UInt8) (k : Nat) (hk : k < a.length) (h : a.getLast? = some 10) : (a.drop k).getLast? = some 10 := by
  rw [List.getLast?_drop]
  rw [if_neg (by omega)]
  exact h

/-- LAW 1: cutting at a line's end. -/
theorem read_app : ∀ (n : Nat) (a b : List UInt8), a.length ≤ n → (a = [] ∨ a.getLast? = some 10) → read (a ++ b) = if (read a).2 then read a else ((read a).1 ++ (read b).1, (read b).2)
  | n, [], b, _, _ => by simp [read_nil]
  | 0, c :: a, b, h, _ => by simp at h
  | n + 1, c :: a, b, h, hl => by
    have hl' : (c :: a).getLast? = some 10 := by
      rcases hl with h | h
      · cases h
      · exact h
    generalize hA : c :: a = A at *
    have hne : A ≠ [] := by rw [← hA]; simp
    have hi := idx_of_last A hl'
    obtain ⟨e1, e2, e3⟩ := fld_app A b hi
    have hne2 : A ++ b ≠ [] := by simp [hne]
    cases hok : okF (fld A) with
    | false =>
      rw [read_bad A hne hok, read_bad (A ++ b) hne2 (by rw [e1]; exact hok)]
      simp
    | true =>
      have hp := tokLen_pos A hne
      have htl : tokLen A ≤ A.length := tokLen_le A
      rw [read_ok A hne hok, read_ok (A ++ b) hne2 (by rw [e1]; exact hok), e1, e2, e3, List.drop_append_of_le_length htl]
      have hrest : A.drop (tokLen A) = [] ∨ (A.drop (tokLen A)).getLast? = some 10 := by
        rcases Nat.lt_or_ge (tokLen A) A.length with h' | h'
        · exact Or.inr (drop_last A _ h' hl')
        · exact Or.inl (List.drop_eq_nil_of_le h')
      rw [read_app n (A.drop (tokLen A)) b (by rw [List.length_drop]; omega) hrest]
      cases hr : (read (A.drop (tokLen A))).2 <;> simp [hr]

theorem fld_clean (s : List UInt8) : ∀ d ∈ fld s, isSep d = false := by
  unfold fld
  induction s with
  | nil => simp
  | cons c s ih =>
    intro d hd
    rw [List.takeWhile_cons] at hd
    split at hd
    · rename_i hc
      rw [List.mem_cons] at hd
      rcases hd with rfl | hd
      · simpa using hc
      · exact ih d hd
    · simp at hd

/-- LAW 2: every field that is read is clean. -/
theorem read_clean : ∀ (n : Nat) (s : List UInt8), s.length ≤ n → ∀ p ∈ (read s).1, okF p.1 = true ∧ ∀ c ∈ p.1, isSep c = false
  | n, [], _, p, hp => by simp [read_nil] at hp
  | 0, c :: s, h, _, _ => by simp at h
  | n + 1, c :: s, h, p, hp => by
    cases hok : okF (fld (c :: s)) with
    | false => rw [read_bad _ (by simp) hok] at hp; simp at hp
    | true =>
      rw [read_ok _ (by simp) hok] at hp
      have hp0 := tokLen_pos (c :: s) (by simp)
      rw [List.mem_cons] at hp
      rcases hp with rfl | hp
      · refine ⟨hok, fun d hd => ?_⟩
        exact fld_clean _ d hd
      · exact read_clean n _ (by rw [List.length_drop]; simp only [List.length_cons] at h ⊢; omega) p hp

def rebuild (l : List (List UInt8 × Bool)) : List UInt8 := l.flatMap fun p => p.1 ++ [if p.2 then 10 else 32]

theorem fld_drop (s : List UInt8) : s = fld s ++ s.drop (idx s) := by
  unfold idx fld
  induction s with
  | nil => rfl
  | cons c s ih =>
    rw [List.takeWhile_cons]
    split
    · rw [List.length_cons, List.drop_succ_cons, List.cons_append, ← ih]
    · simp

theorem fld_sep (s : List UInt8) (h : idx s < s.length) : ∃ d, s[idx s]? = some d ∧ isSep d = true := by
  revert h
  unfold idx fld
  induction s with
  | nil => simp
  | cons c s ih =>
    intro h
    rw [List.takeWhile_cons] at h ⊢
    split
    · rename_i hc
      rw [if_pos hc] at h
      obtain ⟨d, h1, h2⟩ := ih (by simpa using h)
      exact ⟨d, by simpa using h1, h2⟩
    · rename_i hc
      exact ⟨c, rfl, by simpa using hc⟩

theorem fld_split (s : List UInt8) (h : idx s < s.length) : s = (fld s ++ [if endB s then 10 else 32]) ++ s.drop (tokLen s) := by
  obtain ⟨d, h1, h2⟩ := fld_sep s h
  have e := fld_drop s
  have ht : tokLen s = idx s + 1 := by unfold tokLen; rw [if_pos h]
  have hd : s.drop (idx s) = d :: s.drop (idx s + 1) := by
    rw [List.drop_eq_getElem_cons h]
    congr 1
    rw [List.getElem?_eq_getElem h] at h1
    exact Option.some.inj h1
  have he : (if endB s = true then (10 : UInt8) else 32) = d := by
    unfold endB
    rw [h1]
    unfold isSep at h2
    simp only [Bool.or_eq_true, beq_iff_eq] at h2
    rcases h2 with rfl | rfl
    · decide
    · decide
  rw [he, ht, List.append_assoc, List.singleton_append, ← hd]
  exact e

/-- LAW 3: an accepted text is rebuilt by its fields. LAW 4: a refused one's fields rebuild a part of it, from its start. -/
theorem read_rebuild : ∀ (n : Nat) (a : List UInt8), a.length ≤ n → (a = [] ∨ a.getLast? = some 10) → (∃ t, a = rebuild (read a).1 ++ t) ∧ ((read a).2 = false → rebuild (read a).1 = a)
  | n, [], _, _ => by simp [read_nil, rebuild]
  | 0, c :: a, h, _ => by simp at h
  | n + 1, c :: a, h, hl => by
    have hl' : (c :: a).getLast? = some 10 := by
      rcases hl with h | h
      · cases h
      · exact h
    generalize hA : c :: a = A at *
    have hne : A ≠ [] := by rw [← hA]; simp
    have hi := idx_of_last A hl'
    cases hok : okF (fld A) with
    | false =>
      rw [read_bad A hne hok]
      simp [rebuild]
    | true =>
      have hp := tokLen_pos A hne
      have hrest : A.drop (tokLen A) = [] ∨ (A.drop (tokLen A)).getLast? = some 10 := by
        rcases Nat.lt_or_ge (tokLen A) A.length with h' | h'
        · exact Or.inr (drop_last A _ h' hl')
        · exact Or.inl (List.drop_eq_nil_of_le h')
      obtain ⟨⟨t, i1⟩, i2⟩ := read_rebuild n (A.drop (tokLen A)) (by rw [List.length_drop]; omega) hrest
      have hs := fld_split A hi
      rw [read_ok A hne hok]
      have er : rebuild ((fld A, endB A) :: (read (A.drop (tokLen A))).1) = (fld A ++ [if endB A then 10 else 32]) ++ rebuild (read (A.drop (tokLen A))).1 := by simp [rebuild]
      rw [er]
      constructor
      · refine ⟨t, ?_⟩
        rw [List.append_assoc, ← i1]
        exact hs
      · intro hr
        rw [i2 hr]
        exact hs.symm

end Go.Proofs.Qxb6613537aFmt.Pl
