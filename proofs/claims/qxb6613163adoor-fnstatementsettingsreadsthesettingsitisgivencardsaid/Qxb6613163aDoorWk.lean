/-
  LEAVES of the round of (Lexer).Next's loop (22): a number, a name.
-/
import Derived.Test.Qxb6613163aDoorWf
namespace Go.Proofs.Qxb6613163aDoor
open Go.RowKit

theorem exp_ascii (t : List UInt8) : ∀ (j : Nat) (b : UInt8), (t.take (Lx.expLen t))[j]? = some b → b.toNat < 128 := by
  have dig : ∀ (t : List UInt8) (j : Nat) (b : UInt8), (t.take (Lx.runOf Lx.isDig t))[j]? = some b → b.toNat < 128 := by
    intro t
    induction t with
    | nil => simp [Lx.runOf]
    | cons c t ih =>
      intro j b h
      cases hc : Lx.isDig c with
      | false => rw [Lx.runOf_no _ _ _ hc] at h; simp at h
      | true =>
        rw [Lx.runOf_yes _ _ _ hc, List.take_succ_cons] at h
        cases j with
        | zero =>
          simp at h
          subst h
          rw [isDig_int, decide_eq_true_eq] at hc
          omega
        | succ j => exact ih j b (by simpa using h)
  cases t with
  | nil => simp [Lx.expLen]
  | cons c t =>
    intro j b h
    simp only [Lx.expLen] at h
    split at h
    · rename_i hc
      split at h
      · simp at h
      · rw [List.take_succ_cons] at h
        cases j with
        | zero =>
          simp at h
          subst h
          simp at hc
          rcases hc with rfl | rfl <;> decide
        | succ j => exact dig t j b (by simpa using h)
    · exact dig (c :: t) j b h

theorem num_ascii (s : List UInt8) : ∀ (j : Nat) (b : UInt8), (s.take (Lx.numLen s))[j]? = some b → b.toNat < 128 := by
  have dig : ∀ (t : List UInt8) (j : Nat) (b : UInt8), j < Lx.runOf Lx.isDigDot t → t[j]? = some b → b.toNat < 128 := by
    intro t
    induction t with
    | nil => simp
    | cons c t ih =>
      intro j b hj h
      cases hc : Lx.isDigDot c with
      | false => rw [Lx.runOf_no _ _ _ hc] at hj; omega
      | true =>
        rw [Lx.runOf_yes _ _ _ hc] at hj
        cases j with
        | zero =>
          simp at h
          subst h
          rcases digdot_split c hc with h1 | ⟨_, h1⟩
          · rw [isDig_int, decide_eq_true_eq] at h1
            omega
          · simp at h1
            omega
        | succ j => exact ih j b (by omega) (by simpa using h)
  intro j b h
  have hj : j < Lx.numLen s := by
    rcases Nat.lt_or_ge j (Lx.numLen s) with h1 | h1
    · exact h1
    · rw [List.getElem?_eq_none (by rw [List.length_take]; omega)] at h; cases h
  rw [List.getElem?_take_of_lt hj] at h
  rcases Nat.lt_or_ge j (Lx.runOf Lx.isDigDot s) with h1 | h1
  · exact dig s j b h1 h
  · simp only [Lx.numLen] at hj
    split at hj
    · omega
    · rename_i c t ht
      split at hj
      · rename_i hc
        split at hj
        · omega
        · rcases Nat.lt_or_ge (Lx.runOf Lx.isDigDot s) j with h2 | h2
          · refine exp_ascii t (j - (Lx.runOf Lx.isDigDot s + 1)) b ?_
            rw [List.getElem?_take_of_lt (by omega)]
            have h3 : (s.drop (Lx.runOf Lx.isDigDot s))[j - Lx.runOf Lx.isDigDot s]? = some b := by
              rw [List.getElem?_drop, Nat.add_sub_cancel' h1]; exact h
            rw [ht, show j - Lx.runOf Lx.isDigDot s = (j - (Lx.runOf Lx.isDigDot s + 1)) + 1 from by omega, List.getElem?_cons_succ] at h3
            exact h3
          · have e : j = Lx.runOf Lx.isDigDot s := by omega
            have h3 : (s.drop (Lx.runOf Lx.isDigDot s))[0]? = some b := by rw [List.getElem?_drop, Nat.add_zero, ← e]; exact h
            rw [ht] at h3
            simp at h3
            subst h3
            simp at hc
            rcases hc with rfl | rfl <;> decide
      · omega

theorem contains_at (q : ByteArray) (k n : Nat) (b : Bool) (w : World) (hq : q.size ≤ 1073741824) (hn : n = Lx.numLen (q.data.toList.drop k)) (h : Hid (Lib.containsAny ((q.data.toList.drop k).take n) [101, 69] = b)) :
    Calls Tryd.prog 38 #[.string (q.extract k (k + n)), .string ⟨#[101, 69]⟩] w fun e w' => e = .returned (.bool b) ∧ Below w.heap.size w w' := by
  have e : (q.extract k (k + n)).data.toList = (q.data.toList.drop k).take n := by rw [extract_take]
  have hsz : (q.extract k (k + n)).size < 4294967281 := by simp; omega
  have := Tryd.strings_ContainsAny_laid (q.extract k (k + n)) ⟨#[101, 69]⟩ w hsz (by decide) (by rw [e, hn]; exact num_ascii _) (by
    intro j b hj
    have : (ByteArray.mk #[101, 69]).data.toList = [101, 69] := rfl
    rw [this] at hj
    rcases j with _ | _ | j <;> simp at hj <;> subst hj <;> decide)
  rw [e] at this
  have e2 : (ByteArray.mk #[101, 69]).data.toList = [101, 69] := rfl
  rw [e2, h.out] at this
  exact this

set_option maxHeartbeats 8000000 in
set_option maxRecDepth 1000000 in
theorem dig_word (l : Lx.Lex) (q : ByteArray) (w : World) (hq : q.size ≤ 1073741824) (R : Option Lx.Tok) (k : Nat) (c : UInt8) (hlt : k < q.size) (n m : Nat) (hn : Hid (Lx.numLen (q.data.toList.drop k) = n)) (hm : Hid (Lx.nameLen false (q.data.toList.drop k) = m)) (h1 : k + n ≤ q.size) (h2 : k + m ≤ q.size) (hlm : (n : Int) < (m : Int))
    (hca : Hid (Lib.containsAny ((q.data.toList.drop k).take n) [101, 69] = false)) (HR : Hid (R = some (Lx.Tok.shift k ⟨119, (q.data.toList.drop k).take m, false, 0, m⟩))) (a : Act) (ha : FR8 l q k c w a) :
    Code.wp Tryd.prog ((Tryd.f22.body.bind (thenOf 291)).getD .skip) (retOnly R w) a (W2 l w) := by
  conv => arg 2; whnf
  obtain ⟨u, rfl⟩ := ha.open
  clear ha
  have hlt' : (k : Int) < (q.size : Int) := by omega
  unfold W2
  go_wp2_with fail
  refine (num_at q k n _ hq hn).mono ?_
  rintro e w1 ⟨rfl, rfl⟩
  go_wp2_with fail
  refine (name_at q k false m _ hq hm).mono ?_
  rintro e w1 ⟨rfl, rfl⟩
  go_wp2_with fail
  refine (contains_at q k n false _ hq hn.out.symm hca).mono ?_
  rintro e w1 ⟨rfl, hbl⟩
  replace hbl : Hid (Below (W2 l w).heap.size (W2 l w) w1) := hbl
  obtain ⟨hsz, ⟨c0, c1, c2, c3, c4⟩, f0, f1, f2, f3, f4⟩ := tok_facts hbl.out
  go_wp2
  exact ret22 _ _ _ _ _ _ _ _ rfl rfl (put5_block (tok_cells hbl.out) _ _ _ _ _) (next_tok HR (extract_take q k m) (by omega) rfl) (put5 (W2_below2 hbl.out) _ _ _ _ _)

set_option maxHeartbeats 8000000 in
set_option maxRecDepth 1000000 in
theorem dig_num1 (l : Lx.Lex) (q : ByteArray) (w : World) (hq : q.size ≤ 1073741824) (R : Option Lx.Tok) (k : Nat) (c : UInt8) (hlt : k < q.size) (n m : Nat) (hn : Hid (Lx.numLen (q.data.toList.drop k) = n)) (hm : Hid (Lx.nameLen false (q.data.toList.drop k) = m)) (h1 : k + n ≤ q.size) (hlm : (n : Int) < (m : Int))
    (hca : Hid (Lib.containsAny ((q.data.toList.drop k).take n) [101, 69] = true)) (HR : Hid (R = some (Lx.Tok.shift k ⟨110, (q.data.toList.drop k).take n, false, 0, n⟩))) (a : Act) (ha : FR8 l q k c w a) :
    Code.wp Tryd.prog ((Tryd.f22.body.bind (thenOf 291)).getD .skip) (retOnly R w) a (W2 l w) := by
  conv => arg 2; whnf
  obtain ⟨u, rfl⟩ := ha.open
  clear ha
  have hlt' : (k : Int) < (q.size : Int) := by omega
  unfold W2
  go_wp2_with fail
  refine (num_at q k n _ hq hn).mono ?_
  rintro e w1 ⟨rfl, rfl⟩
  go_wp2_with fail
  refine (name_at q k false m _ hq hm).mono ?_
  rintro e w1 ⟨rfl, rfl⟩
  go_wp2_with fail
  refine (contains_at q k n true _ hq hn.out.symm hca).mono ?_
  rintro e w1 ⟨rfl, hbl⟩
  replace hbl : Hid (Below (W2 l w).heap.size (W2 l w) w1) := hbl
  obtain ⟨hsz, ⟨c0, c1, c2, c3, c4⟩, f0, f1, f2, f3, f4⟩ := tok_facts hbl.out
  go_wp2
  exact ret22 _ _ _ _ _ _ _ _ rfl rfl (put5_block (tok_cells hbl.out) _ _ _ _ _) (next_tok HR (extract_take q k n) (by omega) rfl) (put5 (W2_below2 hbl.out) _ _ _ _ _)

set_option maxHeartbeats 8000000 in
set_option maxRecDepth 1000000 in
theorem dig_num2 (l : Lx.Lex) (q : ByteArray) (w : World) (hq : q.size ≤ 1073741824) (R : Option Lx.Tok) (k : Nat) (c : UInt8) (hlt : k < q.size) (n m : Nat) (hn : Hid (Lx.numLen (q.data.toList.drop k) = n)) (hm : Hid (Lx.nameLen false (q.data.toList.drop k) = m)) (h1 : k + n ≤ q.size) (hlm' : decide (n < m) = false)
    (HR : Hid (R = some (Lx.Tok.shift k ⟨110, (q.data.toList.drop k).take n, false, 0, n⟩))) (a : Act) (ha : FR8 l q k c w a) :
    Code.wp Tryd.prog ((Tryd.f22.body.bind (thenOf 291)).getD .skip) (retOnly R w) a (W2 l w) := by
  conv => arg 2; whnf
  obtain ⟨u, rfl⟩ := ha.open
  clear ha
  have hlt' : (k : Int) < (q.size : Int) := by omega
  unfold W2
  go_wp2_with fail
  refine (num_at q k n _ hq hn).mono ?_
  rintro e w1 ⟨rfl, rfl⟩
  go_wp2_with fail
  refine (name_at q k false m _ hq hm).mono ?_
  rintro e w1 ⟨rfl, rfl⟩
  go_wp2
  exact ret22 _ _ _ _ _ _ _ _ rfl rfl (top_block _ _ _ (by simp)) (next_tok HR (extract_take q k n) (by omega) rfl) (below_two _ _ _)

set_option maxHeartbeats 8000000 in
set_option maxRecDepth 1000000 in
theorem name_word (l : Lx.Lex) (q : ByteArray) (w : World) (hq : q.size ≤ 1073741824) (R : Option Lx.Tok) (k : Nat) (c : UInt8) (hlt : k < q.size) (n : Nat) (hn : Hid (Lx.nameLen false (q.data.toList.drop k) = n)) (h1 : k + n ≤ q.size)
    (HR : Hid (R = some (Lx.Tok.shift k ⟨119, (q.data.toList.drop k).take n, false, 0, n⟩))) (a : Act) (ha : FR8 l q k c w a) :
    Code.wp Tryd.prog ((Tryd.f22.body.bind (thenOf 337)).getD .skip) (retOnly R w) a (W2 l w) := by
  conv => arg 2; whnf
  obtain ⟨u, rfl⟩ := ha.open
  clear ha
  have hlt' : (k : Int) < (q.size : Int) := by omega
  unfold W2
  go_wp2_with fail
  refine (name_at q k false n _ hq hn).mono ?_
  rintro e w1 ⟨rfl, rfl⟩
  go_wp2
  exact ret22 _ _ _ _ _ _ _ _ rfl rfl (top_block _ _ _ (by simp)) (next_tok HR (extract_take q k n) (by omega) rfl) (below_two _ _ _)


end Go.Proofs.Qxb6613163aDoor
