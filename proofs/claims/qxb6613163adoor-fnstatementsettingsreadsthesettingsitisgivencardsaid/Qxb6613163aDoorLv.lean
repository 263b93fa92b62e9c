/-
  THE PLAIN LAWS, on: a plain name is not the keyword FOR; the digits of a number; what StatementSettings wants of the head's tokens.
-/
import Derived.Test.Qxb6613163aDoorLw
import Derived.Test.Qxb6613163aDoorWr
import Derived.Test.Qxb6613163aDoorWt
import Derived.Test.Qxb6613163aDoorWv
namespace Go.Proofs.Qxb6613163aDoor
open Lx

theorem fold_low (x y : UInt8) (h : Lib.foldEq x y = true) (h1 : 97 ≤ y.toNat) (h2 : y.toNat ≤ 122) : lowI x.toNat = y.toNat := by
  simp only [Lib.foldEq, decide_eq_true_eq] at h
  unfold lowI
  rcases h with h | ⟨h3, h4, h5⟩ | ⟨h3, h4, h5⟩
  · rw [if_neg (by omega)]; omega
  · rw [if_pos (by omega)]; omega
  · omega

theorem fold_len : ∀ (s t : List UInt8), Lib.equalFold s t = true → s.length = t.length
  | [], [], _ => rfl
  | x :: s, y :: t, h => by
    simp only [Lib.equalFold, Bool.and_eq_true] at h
    simp [fold_len s t h.2]
  | [], _ :: _, h => by simp [Lib.equalFold] at h
  | _ :: _, [], h => by simp [Lib.equalFold] at h

theorem name_not_for (s : ByteArray) (h : NameP s) : Lib.equalFold s.data.toList kwFor = false := by
  cases he : Lib.equalFold s.data.toList kwFor with
  | false => rfl
  | true =>
    exfalso
    have hl := fold_len _ _ he
    obtain ⟨a, b, c, hs⟩ : ∃ a b c, s.data.toList = [a, b, c] := by
      match hm : s.data.toList with
      | [a, b, c] => exact ⟨a, b, c, rfl⟩
      | [] => rw [hm] at hl; simp [kwFor] at hl
      | [_] => rw [hm] at hl; simp [kwFor] at hl
      | [_, _] => rw [hm] at hl; simp [kwFor] at hl
      | _ :: _ :: _ :: _ :: _ => rw [hm] at hl; simp [kwFor] at hl
    rw [hs] at he
    simp only [kwFor, Lib.equalFold, Bool.and_eq_true, Bool.and_true] at he
    exact h.2.2 ⟨a, b, c, hs, fold_low a 102 he.1 (by decide) (by decide), fold_low b 111 he.2.1 (by decide) (by decide), fold_low c 114 he.2.2 (by decide) (by decide)⟩

theorem okB_nm (j : Nat) (c : UInt8) (h : okB j (c.toNat : Int)) : isNm false c = true := by
  rw [isNm_int, decide_eq_true_eq]
  rcases h with h | h | h | h | h
  · exact Or.inl h
  · exact Or.inr (Or.inl h)
  · exact Or.inr (Or.inr (Or.inr (Or.inl h)))
  · exact Or.inr (Or.inr (Or.inr (Or.inr (Or.inl h))))
  · exact Or.inr (Or.inr (Or.inl ⟨h.1, h.2.1⟩))

theorem okB_head (c : UInt8) (h : okB 0 (c.toNat : Int)) : nmHead c = true := by
  have e1 : (95 : UInt8).toNat = 95 := rfl
  have e2 : (36 : UInt8).toNat = 36 := rfl
  simp [nmHead, UInt8.le_iff_toNat_le, ← UInt8.toNat_inj, e1, e2]
  simp only [okB] at h
  omega

theorem okB_ascii (j : Nat) (c : UInt8) (h : okB j (c.toNat : Int)) : c.toNat < 128 := by
  simp only [okB] at h
  omega

theorem name_plain (s : ByteArray) (h : NameP s) : PlainName s.data.toList := by
  cases hm : s.data.toList with
  | nil =>
    have : s.data.toList.length = s.size := Array.length_toList
    rw [hm] at this
    have := h.1
    simp at *
    omega
  | cons c t =>
    refine ⟨c, t, rfl, okB_head c (h.2.1 0 c (by rw [hm]; rfl)), fun x hx => ?_⟩
    obtain ⟨j, hj⟩ := List.getElem?_of_mem hx
    exact okB_nm j x (h.2.1 j x (by rw [hm]; exact hj))

theorem name_ascii (s : ByteArray) (h : NameP s) : Ascii s.data.toList := fun j b hb => okB_ascii j b (h.2.1 j b hb)

theorem digF_dig : ∀ (f x : Nat) (acc : List UInt8), (∀ c ∈ acc, isDig c = true) → ∀ c ∈ digF f x acc, isDig c = true
  | 0, _, acc, h => h
  | f + 1, x, acc, h => by
    simp only [digF]
    split
    · exact h
    · apply digF_dig f
      intro c hc
      rcases List.mem_cons.1 hc with rfl | hc
      · have h1 : x % 10 < 10 := Nat.mod_lt _ (by omega)
        have h2 : (UInt8.ofNat (48 + x % 10)).toNat = 48 + x % 10 := by
          rw [UInt8.toNat_ofNat']
          exact Nat.mod_eq_of_lt (by omega)
        rw [isDig_int, h2, decide_eq_true_eq]
        omega
      · exact h c hc

theorem digF_len : ∀ (f x : Nat) (acc : List UInt8), acc.length ≤ (digF f x acc).length ∧ (digF f x acc).length ≤ acc.length + f
  | 0, _, acc => by simp [digF]
  | f + 1, x, acc => by
    simp only [digF]
    split
    · omega
    · have := digF_len f (x / 10) (UInt8.ofNat (48 + x % 10) :: acc)
      rw [List.length_cons] at this
      omega

theorem digs_good (x : Nat) : digs x ≠ [] ∧ (∀ c ∈ digs x, isDig c = true) ∧ (digs x).length ≤ 20 := by
  unfold digs
  split
  · exact ⟨by simp, by decide, by simp⟩
  · rename_i h0
    have e : digF 20 x [] = digF 19 (x / 10) [UInt8.ofNat (48 + x % 10)] := by simp [digF, h0]
    have := digF_len 19 (x / 10) [UInt8.ofNat (48 + x % 10)]
    refine ⟨?_, digF_dig _ _ _ (by simp), ?_⟩
    · rw [e]; intro h; rw [h] at this; simp at this
    · rw [e]; exact this.2

end Go.Proofs.Qxb6613163aDoor
