/-
  THE PLAIN LAWS, on: what Outside and Items make of the head's tokens.
-/
import Derived.Test.Qxb6613163aDoorWo
import Derived.Test.Qxb6613163aDoorLz
namespace Go.Proofs.Qxb6613163aDoor
open Lx

/-- Where no bracket stands, every place is outside. -/
theorem outs_plain (A B : List Tok) (h : ∀ t ∈ A, t.kind ≠ 40 ∧ t.kind ≠ 41) : ∀ i, outsF i 0 (A ++ B) = List.range' i A.length ++ outsF (i + A.length) 0 B := by
  induction A with
  | nil => intro i; simp
  | cons t A ih =>
    intro i
    have ht := h t (by simp)
    rw [List.cons_append]
    simp only [outsF, if_neg ht.1, if_neg ht.2, if_true]
    rw [ih (fun u hu => h u (by simp [hu])) (i + 1)]
    simp [List.range'_succ, Nat.add_comm, Nat.add_left_comm]

def piecesOf : Nat → List (List UInt8 × List UInt8) → List (Nat × Nat)
  | _, [] => []
  | a, [_] => [(a, a + 3)]
  | a, _ :: y :: xs => (a, a + 3) :: piecesOf (a + 4) (y :: xs)

theorem itemToks_len : ∀ (xs : List (List UInt8 × List UInt8)) (p : Nat), xs ≠ [] → (itemToks p xs).length + 1 = 4 * xs.length
  | [], _, h => absurd rfl h
  | [x], p, _ => by simp [itemToks]
  | x :: y :: xs, p, _ => by
    have := itemToks_len (y :: xs) (p + x.1.length + 1 + x.2.length + 2) (by simp)
    simp only [itemToks, List.length_cons] at this ⊢
    omega

theorem items_pieces : ∀ (xs : List (List UInt8 × List UInt8)) (p : Nat) (pre : List Tok), xs ≠ [] →
    itemsF (pre ++ itemToks p xs) pre.length (List.range' pre.length (itemToks p xs).length) = piecesOf pre.length xs
  | [], _, _, h => absurd rfl h
  | [x], p, pre, _ => by
    have g : ∀ k, (pre ++ itemToks p [x])[pre.length + k]? = (itemToks p [x])[k]? := fun k => by
      rw [List.getElem?_append_right (by omega), Nat.add_sub_cancel_left]
    have g0 := g 0
    have g1 := g 1
    have g2 := g 2
    simp only [itemToks, List.getElem?_cons_zero, List.getElem?_cons_succ, Nat.add_zero] at g0 g1 g2
    simp only [itemToks, List.length_cons, List.length_nil, List.range'_succ, List.range'_zero, itemsF, piecesOf, Nat.add_assoc] at g0 g1 g2 ⊢
    simp
  | x :: y :: xs, p, pre, _ => by
    have g : ∀ k, (pre ++ itemToks p (x :: y :: xs))[pre.length + k]? = (itemToks p (x :: y :: xs))[k]? := fun k => by
      rw [List.getElem?_append_right (by omega), Nat.add_sub_cancel_left]
    have g0 := g 0
    have g1 := g 1
    have g2 := g 2
    have g3 := g 3
    obtain ⟨R, hR⟩ : ∃ R, itemToks (p + x.1.length + 1 + x.2.length + 2) (y :: xs) = R := ⟨_, rfl⟩
    obtain ⟨a, b, c, d, hE⟩ : ∃ a b c d, itemToks p (x :: y :: xs) = [a, b, c, d] ++ R := by
      rw [← hR]; exact ⟨_, _, _, _, rfl⟩
    have ih := items_pieces (y :: xs) (p + x.1.length + 1 + x.2.length + 2) (pre ++ [a, b, c, d]) (by simp)
    rw [hR] at ih
    have hl : (pre ++ [a, b, c, d]).length = pre.length + 4 := by simp
    rw [hl, List.append_assoc] at ih
    have ha : a.kind ≠ 44 ∧ b.kind ≠ 44 ∧ c.kind ≠ 44 ∧ d.kind = 44 := by
      simp only [itemToks, List.cons_append, List.nil_append, List.cons.injEq] at hE
      obtain ⟨h1, h2, h3, h4, _⟩ := hE
      subst h1 h2 h3 h4
      exact ⟨by dsimp only; decide, by dsimp only; decide, by dsimp only; decide, rfl⟩
    rw [hE] at g0 g1 g2 g3 ⊢
    simp only [List.cons_append, List.nil_append, List.getElem?_cons_zero, List.getElem?_cons_succ, Nat.add_zero] at g0 g1 g2 g3
    have hlen : ([a, b, c, d] ++ R).length = R.length + 1 + 1 + 1 + 1 := by simp
    rw [hlen]
    simp only [List.range'_succ, itemsF, piecesOf, Nat.add_assoc] at g0 g1 g2 g3 ⊢
    simp only [List.cons_append, List.nil_append] at ih g0 g1 g2 g3 ⊢
    simp only [g0, g1, g2, g3, Option.getD_some, if_neg ha.1, if_neg ha.2.1, if_neg ha.2.2.1, if_pos ha.2.2.2]
    congr 1

end Go.Proofs.Qxb6613163aDoor
