/-
  THE PLAIN LAWS, on: the head's text as it is laid, item by item; where each item's tokens stand.
-/
import Derived.Test.Qxb6613163aDoorLw
namespace Go.Proofs.Qxb6613163aDoor.Lx

theorem itemsText_tail : ∀ (xs : List (List UInt8 × List UInt8)) (tail : List UInt8), itemsText xs tail = itemsText xs [] ++ tail
  | [], tail => rfl
  | [x], tail => by simp [itemsText]
  | x :: y :: xs, tail => by
    simp only [itemsText]
    rw [itemsText_tail (y :: xs) tail]
    simp

/-- The text of the first items. -/
def joinT (xs : List (List UInt8 × List UInt8)) : List UInt8 := itemsText xs []

theorem join_snoc : ∀ (ys : List (List UInt8 × List UInt8)) (x : List UInt8 × List UInt8), joinT (ys ++ [x]) = joinT ys ++ ((if ys = [] then [] else [44, 32]) ++ (x.1 ++ 61 :: x.2))
  | [], x => by simp [joinT, itemsText]
  | [y], x => by simp [joinT, itemsText]
  | z :: y :: ys, x => by
    have := join_snoc (y :: ys) x
    simp only [joinT, List.cons_append, itemsText] at this ⊢
    rw [this]
    simp

theorem join_len (xs : List (List UInt8 × List UInt8)) : (joinT xs).length = itemsLen xs := by
  have := itemsText_len xs []
  simpa [joinT] using this

/-- Where the number of item j stands. -/
def numPos (xs : List (List UInt8 × List UInt8)) (j : Nat) : Nat := 14 + itemsLen (xs.take j) + (if j = 0 then 0 else 2) + ((xs[j]?).getD ([], [])).1.length + 1

theorem itemToks_at : ∀ (xs : List (List UInt8 × List UInt8)) (p j : Nat) (x : List UInt8 × List UInt8), xs[j]? = some x →
    (∃ lo hi, (itemToks p xs)[4 * j]? = some ⟨119, x.1, false, lo, hi⟩) ∧ (itemToks p xs)[4 * j + 2]? = some ⟨110, x.2, false, p + itemsLen (xs.take j) + (if j = 0 then 0 else 2) + x.1.length + 1, p + itemsLen (xs.take j) + (if j = 0 then 0 else 2) + x.1.length + 1 + x.2.length⟩
  | [], _, _, _, h => by simp at h
  | [y], p, j, x, h => by
    cases j with
    | succ j => simp at h
    | zero =>
      simp at h
      subst h
      exact ⟨⟨_, _, rfl⟩, by simp [itemToks, itemsLen]⟩
  | z :: y :: ys, p, j, x, h => by
    cases j with
    | zero =>
      simp at h
      subst h
      exact ⟨⟨_, _, rfl⟩, by simp [itemToks, itemsLen]⟩
    | succ j =>
      have ih := itemToks_at (y :: ys) (p + z.1.length + 1 + z.2.length + 2) j x (by simpa using h)
      have e : ∀ k, (itemToks p (z :: y :: ys))[k + 1 + 1 + 1 + 1]? = (itemToks (p + z.1.length + 1 + z.2.length + 2) (y :: ys))[k]? := fun k => rfl
      rw [show 4 * (j + 1) = 4 * j + 1 + 1 + 1 + 1 from by omega, show 4 * j + 1 + 1 + 1 + 1 + 2 = (4 * j + 2) + 1 + 1 + 1 + 1 from by omega, e, e]
      refine ⟨ih.1, ?_⟩
      rw [ih.2]
      have hl : itemsLen ((z :: y :: ys).take (j + 1)) + 2 = z.1.length + 1 + z.2.length + 2 + itemsLen ((y :: ys).take j) + (if j = 0 then 0 else 2) := by
        cases j with
        | zero => simp [itemsLen]
        | succ j => simp [itemsLen]
      simp only [Option.some.injEq, Tok.mk.injEq, true_and, if_neg (Nat.succ_ne_zero j)]
      constructor <;> omega

end Go.Proofs.Qxb6613163aDoor.Lx
