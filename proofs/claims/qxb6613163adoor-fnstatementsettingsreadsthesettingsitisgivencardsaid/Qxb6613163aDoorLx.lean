/-
  THE PLAIN LEXER: what (Lexer).Next answers, as a function of the text FROM THE PLACE ON. Lists of bytes; no Go in sight.
-/
import Derived.WalkKit
import Derived.Lib.Bytealg
import Derived.Lib.Index
import Derived.Lib.IndexMore
import Derived.Lib.Strings
import Derived.Lib.IndexAny
import Derived.Lib.IndexLaws
namespace Go.Proofs.Qxb6613163aDoor.Lx

def isDig (c : UInt8) : Bool := 48 ≤ c && c ≤ 57
def isNm (dot : Bool) (c : UInt8) : Bool := (97 ≤ c && c ≤ 122) || (65 ≤ c && c ≤ 90) || (48 ≤ c && c ≤ 57) || c == 95 || c == 36 || 128 ≤ c || (dot && c == 46)

/-- How many of the first bytes pass. -/
def runOf (p : UInt8 → Bool) : List UInt8 → Nat
  | [] => 0
  | c :: t => if p c then runOf p t + 1 else 0

theorem runOf_le (p : UInt8 → Bool) (l : List UInt8) : runOf p l ≤ l.length := by
  induction l with
  | nil => simp [runOf]
  | cons c t ih => simp only [runOf]; split <;> simp <;> omega

theorem runOf_yes (p : UInt8 → Bool) (c : UInt8) (t : List UInt8) (h : p c = true) : runOf p (c :: t) = runOf p t + 1 := by simp [runOf, h]
theorem runOf_no (p : UInt8 → Bool) (c : UInt8) (t : List UInt8) (h : p c = false) : runOf p (c :: t) = 0 := by simp [runOf, h]

theorem runOf_append (p : UInt8 → Bool) (l : List UInt8) (c : UInt8) (t : List UInt8) (hl : ∀ x ∈ l, p x = true) (hc : p c = false) : runOf p (l ++ c :: t) = l.length := by
  induction l with
  | nil => simp [runOf, hc]
  | cons x l ih =>
    rw [List.cons_append, runOf_yes p x _ (hl x (by simp)), ih (fun y hy => hl y (by simp [hy]))]
    rfl

def nameLen (dot : Bool) (s : List UInt8) : Nat := runOf (isNm dot) s

def isDigDot (c : UInt8) : Bool := isDig c || c == 46

/-- Behind the e: a sign, then digits: how many bytes in all, 0 where no digit stands. -/
def expLen : List UInt8 → Nat
  | [] => 0
  | c :: t => if c == 43 || c == 45 then (if runOf isDig t = 0 then 0 else runOf isDig t + 1) else runOf isDig (c :: t)

def numLen (s : List UInt8) : Nat :=
  match s.drop (runOf isDigDot s) with
  | [] => runOf isDigDot s
  | c :: t => if c == 101 || c == 69 then (if expLen t = 0 then runOf isDigDot s else runOf isDigDot s + 1 + expLen t) else runOf isDigDot s

def unesc (c : UInt8) : UInt8 :=
  if c == 48 then 0 else if c == 98 then 8 else if c == 110 then 10 else if c == 114 then 13 else if c == 116 then 9 else if c == 90 then 26 else c

def upd (pre : List UInt8) (k : Nat) (x : List UInt8 × Nat) : List UInt8 × Nat := (pre ++ x.1, x.2 + k)

/-- Behind the opening quote: the text, and how many bytes up to behind the closing quote. -/
def quo (esc : Bool) (q : UInt8) : List UInt8 → Option (List UInt8 × Nat)
  | [] => none
  | [c] => if c == q then some ([], 1) else none
  | c :: d :: t =>
    if c == q then (if d == q then (quo esc q t).map (upd [q] 2) else some ([], 1))
    else if c == 92 && esc then (if d == 37 || d == 95 then (quo esc q t).map (upd [c, d] 2) else (quo esc q t).map (upd [unesc d] 2))
    else (quo esc q (d :: t)).map (upd [c] 1)

structure Lex where
  exec : Bool
  noEsc : Bool
  ansi : Bool

def quotesName (l : Lex) (q : UInt8) : Bool := q == 96 || (q == 34 && l.ansi)

/-- The quoted text that s starts with (its first byte the quote): the text and the length it takes. -/
def quoted (l : Lex) (s : List UInt8) : Option (List UInt8 × Nat) :=
  match s with
  | [] => none
  | q :: t => (quo (!l.noEsc && !quotesName l q) q t).map (upd [] 1)

structure Tok where
  kind : UInt8
  text : List UInt8
  quoted : Bool
  lo : Nat
  hi : Nat

def Tok.shift (d : Nat) (t : Tok) : Tok := { t with lo := t.lo + d, hi := t.hi + d }

theorem shift_shift (a b : Nat) (t : Tok) : (t.shift a).shift b = t.shift (a + b) := by
  cases t; simp only [Tok.shift, Tok.mk.injEq, true_and]; omega
theorem shift_zero (t : Tok) : t.shift 0 = t := rfl

def blank (c : UInt8) : Bool := Lib.indexByte [32, 9, 10, 13, 12, 11, 59] c ≥ 0
def isQuote (c : UInt8) : Bool := c == 39 || c == 34 || c == 96

/-- The end, a blank or another control byte. -/
def ctlHead : List UInt8 → Bool
  | [] => true
  | d :: _ => d ≤ 32 || d == 127

/-- A line comment at the head? -/
def lineAt (s : List UInt8) : Bool :=
  match s with
  | [] => false
  | c :: _ => c == 35 || (Lib.hasPrefix s [45, 45] && ctlHead (s.drop 2))

def quoteHead : List UInt8 → Bool
  | [] => false
  | d :: _ => isQuote d

/-- What a variable's token is: its kind and where its name starts. -/
def atSign (l : Lex) (s : List UInt8) : Option (Nat ⊕ Tok) :=
  let sys := Lib.hasPrefix s [64, 64]
  let st := if sys then 2 else 1
  let n := nameLen true (s.drop st)
  if n == 0 && !sys && quoteHead (s.drop st) then
    (quoted l (s.drop st)).map fun x => .inr ⟨117, x.1, false, 0, st + x.2⟩
  else if n == 0 then none
  else some (.inr ⟨if sys then 118 else 117, (s.drop st).take n, false, 0, st + n⟩)

/-- ONE STEP at the head of s: nothing (the end, or no token); so many bytes to pass over; a token. -/
def step (l : Lex) (s : List UInt8) : Option (Nat ⊕ Tok) :=
  match s with
  | [] => none
  | c :: _ =>
    if blank c then some (.inl 1)
    else if l.exec && (Lib.hasPrefix s [47, 42, 33] || Lib.hasPrefix s [47, 42, 77, 33]) then
      some (.inl ((Lib.indexByte s 33 + 1).toNat + runOf isDig (s.drop (Lib.indexByte s 33 + 1).toNat)))
    else if l.exec && Lib.hasPrefix s [42, 47] then some (.inl 2)
    else if Lib.hasPrefix s [47, 42] then
      (if Lib.index (s.drop 2) [42, 47] < 0 then none else some (.inl (2 + (Lib.index (s.drop 2) [42, 47]).toNat + 2)))
    else if lineAt s then some (.inl (if Lib.indexByte s 10 < 0 then s.length else (Lib.indexByte s 10).toNat))
    else if isQuote c then
      (quoted l s).map fun x => .inr ⟨if quotesName l c then 119 else 115, x.1, quotesName l c, 0, x.2⟩
    else if c == 64 then atSign l s
    else if isDig c then
      (if numLen s < nameLen false s && !Lib.containsAny (s.take (numLen s)) [101, 69] then some (.inr ⟨119, s.take (nameLen false s), false, 0, nameLen false s⟩)
       else some (.inr ⟨110, s.take (numLen s), false, 0, numLen s⟩))
    else if 0 < nameLen false s then some (.inr ⟨119, s.take (nameLen false s), false, 0, nameLen false s⟩)
    else if Lib.hasPrefix s [58, 61] then some (.inr ⟨61, [58, 61], false, 0, 2⟩)
    else some (.inr ⟨c, [c], false, 0, 1⟩)

/-! ### it moves on -/
theorem expLen_le (t : List UInt8) : expLen t ≤ t.length := by
  cases t with
  | nil => simp [expLen]
  | cons c t =>
    have h := runOf_le isDig t
    have h2 := runOf_le isDig (c :: t)
    simp only [expLen]
    split
    · split <;> simp <;> omega
    · exact h2

theorem numLen_le (s : List UInt8) : numLen s ≤ s.length := by
  unfold numLen
  have h := runOf_le isDigDot s
  split
  · exact h
  · rename_i c t hd
    have hl : (s.drop (runOf isDigDot s)).length = t.length + 1 := by rw [hd]; rfl
    rw [List.length_drop] at hl
    have h3 := expLen_le t
    split
    · split <;> omega
    · exact h

theorem numLen_pos (c : UInt8) (t : List UInt8) (h : isDig c = true) : 1 ≤ numLen (c :: t) := by
  have h1 : 1 ≤ runOf isDigDot (c :: t) := by rw [runOf_yes _ _ _ (by simp [isDigDot, h])]; omega
  unfold numLen
  split
  · exact h1
  · split
    · split <;> omega
    · exact h1

theorem quo_le (esc : Bool) (q : UInt8) : ∀ (n : Nat) (s : List UInt8), s.length ≤ n → ∀ x, quo esc q s = some x → 1 ≤ x.2 ∧ x.2 ≤ s.length := by
  intro n
  induction n with
  | zero =>
    intro s hs x hx
    cases s with
    | nil => simp [quo] at hx
    | cons c t => simp at hs
  | succ n ih =>
    intro s hs x hx
    match s, hs, hx with
    | [], _, hx => simp [quo] at hx
    | [c], _, hx =>
      simp only [quo] at hx
      split at hx
      · simp at hx; subst hx; simp
      · cases hx
    | c :: d :: t, hs, hx =>
      simp only [List.length_cons] at hs
      have up : ∀ (pre : List UInt8) (k : Nat) (l : List UInt8), l.length ≤ n → (quo esc q l).map (upd pre k) = some x → 1 ≤ x.2 ∧ x.2 ≤ l.length + k := by
        intro pre k l hl h
        obtain ⟨y, hy, rfl⟩ := Option.map_eq_some_iff.1 h
        have := ih l hl y hy
        simp only [upd]; omega
      simp only [quo] at hx
      split at hx
      · split at hx
        · have := up _ _ _ (by omega) hx; simp only [List.length_cons]; omega
        · simp at hx; subst hx; simp
      · split at hx
        · split at hx
          · have := up _ _ _ (by omega) hx; simp only [List.length_cons]; omega
          · have := up _ _ _ (by omega) hx; simp only [List.length_cons]; omega
        · have := up _ _ _ (by simp; omega) hx
          simp only [List.length_cons] at this ⊢; omega

theorem quoted_le (l : Lex) (s : List UInt8) (x : List UInt8 × Nat) (h : quoted l s = some x) : 1 ≤ x.2 ∧ x.2 ≤ s.length := by
  cases s with
  | nil => simp [quoted] at h
  | cons q t =>
    simp only [quoted] at h
    obtain ⟨y, hy, rfl⟩ := Option.map_eq_some_iff.1 h
    have := quo_le _ q t.length t (Nat.le_refl _) y hy
    simp only [upd, List.length_cons]; omega

theorem indexByte_lt (s : List UInt8) (c : UInt8) : Lib.indexByte s c < s.length ∨ (s = [] ∧ Lib.indexByte s c = -1) := by
  induction s with
  | nil => exact Or.inr ⟨rfl, rfl⟩
  | cons b t ih =>
    left
    simp only [Lib.indexByte]
    split
    · simp
    · split
      · simp; omega
      · rcases ih with h | ⟨h, h1⟩
        · simp; omega
        · simp [h1]

theorem hasPrefix_len (s p : List UInt8) (h : Lib.hasPrefix s p = true) : p.length ≤ s.length := by
  unfold Lib.hasPrefix at h
  exact (List.isPrefixOf_iff_prefix.1 h).length_le

/-- A pass-over moves on; a token takes at least one byte. -/
theorem step_le (l : Lex) (s : List UInt8) : (∀ k, step l s = some (.inl k) → 1 ≤ k ∧ k ≤ s.length) ∧ (∀ t, step l s = some (.inr t) → t.lo = 0 ∧ 1 ≤ t.hi ∧ t.hi ≤ s.length) := by
  cases s with
  | nil => simp [step]
  | cons c t =>
    have hL : (c :: t).length = t.length + 1 := rfl
    generalize hs : c :: t = s at *
    have hstep : step l s = (if blank c then some (.inl 1)
    else if l.exec && (Lib.hasPrefix s [47, 42, 33] || Lib.hasPrefix s [47, 42, 77, 33]) then
      some (.inl ((Lib.indexByte s 33 + 1).toNat + runOf isDig (s.drop (Lib.indexByte s 33 + 1).toNat)))
    else if l.exec && Lib.hasPrefix s [42, 47] then some (.inl 2)
    else if Lib.hasPrefix s [47, 42] then
      (if Lib.index (s.drop 2) [42, 47] < 0 then none else some (.inl (2 + (Lib.index (s.drop 2) [42, 47]).toNat + 2)))
    else if lineAt s then some (.inl (if Lib.indexByte s 10 < 0 then s.length else (Lib.indexByte s 10).toNat))
    else if isQuote c then
      (quoted l s).map fun x => .inr ⟨if quotesName l c then 119 else 115, x.1, quotesName l c, 0, x.2⟩
    else if c == 64 then atSign l s
    else if isDig c then
      (if numLen s < nameLen false s && !Lib.containsAny (s.take (numLen s)) [101, 69] then some (.inr ⟨119, s.take (nameLen false s), false, 0, nameLen false s⟩)
       else some (.inr ⟨110, s.take (numLen s), false, 0, numLen s⟩))
    else if 0 < nameLen false s then some (.inr ⟨119, s.take (nameLen false s), false, 0, nameLen false s⟩)
    else if Lib.hasPrefix s [58, 61] then some (.inr ⟨61, [58, 61], false, 0, 2⟩)
    else some (.inr ⟨c, [c], false, 0, 1⟩)) := by rw [← hs]; rfl
    rw [hstep]
    by_cases b0 : blank c = true
    · rw [if_pos b0]
      exact ⟨fun k hk => by simp at hk; omega, fun t ht => by simp at ht⟩
    rw [if_neg b0]
    by_cases b1 : (l.exec && (Lib.hasPrefix s [47, 42, 33] || Lib.hasPrefix s [47, 42, 77, 33])) = true
    · rw [if_pos b1]
      refine ⟨fun k hk => ?_, fun t ht => by simp at ht⟩
      simp only [Option.some.injEq, Sum.inl.injEq] at hk
      have h1 := indexByte_lt s 33
      have h2 := Lib.indexByte_ge s 33
      have h3 := runOf_le isDig (s.drop (Lib.indexByte s 33 + 1).toNat)
      rw [List.length_drop] at h3
      rcases h1 with h1 | ⟨h1, _⟩
      · by_cases hm : Lib.indexByte s 33 = -1
        · exfalso
          have hn := Lib.indexByte_none hm
          simp only [Bool.and_eq_true, Bool.or_eq_true] at b1
          rcases b1.2 with h | h
          · obtain ⟨r, hr⟩ := List.isPrefixOf_iff_prefix.1 h
            exact hn 2 (by rw [← hr]; rfl)
          · obtain ⟨r, hr⟩ := List.isPrefixOf_iff_prefix.1 h
            exact hn 3 (by rw [← hr]; rfl)
        · omega
      · rw [h1] at hL; simp at hL
    rw [if_neg b1]
    by_cases b2 : (l.exec && Lib.hasPrefix s [42, 47]) = true
    · rw [if_pos b2]
      simp only [Bool.and_eq_true] at b2
      have := hasPrefix_len _ _ b2.2
      simp at this
      exact ⟨fun k hk => by simp at hk; omega, fun t ht => by simp at ht⟩
    rw [if_neg b2]
    by_cases b3 : Lib.hasPrefix s [47, 42] = true
    · rw [if_pos b3]
      have h2 := hasPrefix_len _ _ b3
      by_cases b4 : Lib.index (s.drop 2) [42, 47] < 0
      · rw [if_pos b4]; simp
      · rw [if_neg b4]
        have h4 := Lib.index_room (s.drop 2) [42, 47] (by omega)
        rw [List.length_drop] at h4
        simp at h2 h4
        exact ⟨fun k hk => by simp at hk; omega, fun t ht => by simp at ht⟩
    rw [if_neg b3]
    by_cases b5 : lineAt s = true
    · rw [if_pos b5]
      refine ⟨fun k hk => ?_, fun t ht => by simp at ht⟩
      simp only [Option.some.injEq, Sum.inl.injEq] at hk
      by_cases b6 : Lib.indexByte s 10 < 0
      · rw [if_pos b6] at hk; omega
      · rw [if_neg b6] at hk
        have h1 := indexByte_lt s 10
        have h0 : Lib.indexByte s 10 ≠ 0 := by
          intro h
          have h2 := (Lib.indexByte_some (o := 0) (by simpa using h)).1
          rw [← hs] at h2
          simp at h2
          subst h2
          exact b0 rfl
        omega
    rw [if_neg b5]
    by_cases b6 : isQuote c = true
    · rw [if_pos b6]
      refine ⟨fun k hk => ?_, fun t ht => ?_⟩
      · obtain ⟨y, _, hy⟩ := Option.map_eq_some_iff.1 hk; cases hy
      · obtain ⟨y, hy, h2⟩ := Option.map_eq_some_iff.1 ht
        obtain rfl := Sum.inr.inj h2
        exact ⟨rfl, quoted_le l s y hy⟩
    rw [if_neg b6]
    by_cases b7 : (c == 64) = true
    · rw [if_pos b7]
      have hnil : s ≠ [] := by rw [← hs]; simp
      have hpre : Lib.hasPrefix s [64, 64] = true → 2 ≤ s.length := fun h => by have := hasPrefix_len _ _ h; simpa using this
      have hst : (if Lib.hasPrefix s [64, 64] then 2 else 1) ≤ s.length := by
        split
        · exact hpre ‹_›
        · omega
      unfold atSign
      simp only
      generalize (if Lib.hasPrefix s [64, 64] then 2 else 1) = st at hst
      split
      · refine ⟨fun k hk => ?_, fun t ht => ?_⟩
        · obtain ⟨y, _, hy⟩ := Option.map_eq_some_iff.1 hk; cases hy
        · obtain ⟨y, hy, h2⟩ := Option.map_eq_some_iff.1 ht
          obtain rfl := Sum.inr.inj h2
          have := quoted_le l _ y hy
          rw [List.length_drop] at this
          exact ⟨rfl, by show 1 ≤ st + y.2; omega, by show st + y.2 ≤ _; omega⟩
      · split
        · simp
        · rename_i hn0
          refine ⟨fun k hk => by simp at hk, fun t ht => ?_⟩
          simp only [Option.some.injEq, Sum.inr.injEq] at ht
          subst ht
          have := runOf_le (isNm true) (s.drop st)
          rw [List.length_drop] at this
          have hne : runOf (isNm true) (s.drop st) ≠ 0 := by simpa [nameLen] using hn0
          exact ⟨rfl, by show 1 ≤ st + runOf (isNm true) (s.drop st); omega, by show st + runOf (isNm true) (s.drop st) ≤ _; omega⟩
    rw [if_neg b7]
    have hnm := runOf_le (isNm false) s
    by_cases b8 : isDig c = true
    · rw [if_pos b8]
      have h1 := numLen_le s
      have h2 : 1 ≤ numLen s := by rw [← hs]; exact numLen_pos c t b8
      split
      · rename_i hx
        simp only [Bool.and_eq_true, decide_eq_true_eq] at hx
        refine ⟨fun k hk => by simp at hk, fun t ht => ?_⟩
        simp only [Option.some.injEq, Sum.inr.injEq] at ht
        subst ht
        exact ⟨rfl, by show 1 ≤ nameLen false s; omega, hnm⟩
      · refine ⟨fun k hk => by simp at hk, fun t ht => ?_⟩
        simp only [Option.some.injEq, Sum.inr.injEq] at ht
        subst ht
        exact ⟨rfl, h2, h1⟩
    rw [if_neg b8]
    by_cases b9 : 0 < nameLen false s
    · rw [if_pos b9]
      refine ⟨fun k hk => by simp at hk, fun t ht => ?_⟩
      simp only [Option.some.injEq, Sum.inr.injEq] at ht
      subst ht
      exact ⟨rfl, b9, hnm⟩
    rw [if_neg b9]
    by_cases b10 : Lib.hasPrefix s [58, 61] = true
    · rw [if_pos b10]
      have := hasPrefix_len _ _ b10
      refine ⟨fun k hk => by simp at hk, fun t ht => ?_⟩
      simp only [Option.some.injEq, Sum.inr.injEq] at ht
      subst ht
      exact ⟨rfl, by simp, by simpa using this⟩
    · rw [if_neg b10]
      refine ⟨fun k hk => by simp at hk, fun t ht => ?_⟩
      simp only [Option.some.injEq, Sum.inr.injEq] at ht
      subst ht
      exact ⟨rfl, by simp, by simp; omega⟩

/-! ### the first token at or behind the head -/
def lexF (l : Lex) : Nat → List UInt8 → Option Tok
  | 0, _ => none
  | f + 1, s =>
    match step l s with
    | none => none
    | some (.inl k) => (lexF l f (s.drop k)).map (Tok.shift k)
    | some (.inr t) => if t.kind = 0 then none else some t

theorem lexF_fuel (l : Lex) : ∀ (n : Nat) (s : List UInt8) (f g : Nat), s.length ≤ n → s.length < f → s.length < g → lexF l f s = lexF l g s := by
  intro n
  induction n with
  | zero =>
    intro s f g hs hf hg
    obtain ⟨f, rfl⟩ : ∃ f', f = f' + 1 := ⟨f - 1, by omega⟩
    obtain ⟨g, rfl⟩ : ∃ g', g = g' + 1 := ⟨g - 1, by omega⟩
    have : s = [] := List.eq_nil_of_length_eq_zero (by omega)
    subst this
    rfl
  | succ n ih =>
    intro s f g hs hf hg
    obtain ⟨f, rfl⟩ : ∃ f', f = f' + 1 := ⟨f - 1, by omega⟩
    obtain ⟨g, rfl⟩ : ∃ g', g = g' + 1 := ⟨g - 1, by omega⟩
    simp only [lexF]
    have hle := step_le l s
    cases hst : step l s with
    | none => rfl
    | some x =>
      cases x with
      | inl k =>
        have := hle.1 k hst
        show (lexF l f (s.drop k)).map _ = (lexF l g (s.drop k)).map _
        rw [ih (s.drop k) f g (by rw [List.length_drop]; omega) (by rw [List.length_drop]; omega) (by rw [List.length_drop]; omega)]
      | inr t => rfl

def lexN (l : Lex) (s : List UInt8) : Option Tok := lexF l (s.length + 1) s

theorem lexN_none (l : Lex) (s : List UInt8) (h : step l s = none) : lexN l s = none := by simp [lexN, lexF, h]
theorem lexN_tok (l : Lex) (s : List UInt8) (t : Tok) (h : step l s = some (.inr t)) : lexN l s = if t.kind = 0 then none else some t := by simp [lexN, lexF, h]
theorem lexN_skip (l : Lex) (s : List UInt8) (k : Nat) (h : step l s = some (.inl k)) : lexN l s = (lexN l (s.drop k)).map (Tok.shift k) := by
  have := (step_le l s).1 k h
  simp only [lexN, lexF, h]
  rw [lexF_fuel l s.length (s.drop k) s.length ((s.drop k).length + 1) (by rw [List.length_drop]; omega) (by rw [List.length_drop]; omega) (by omega)]
  rfl

theorem lexN_le (l : Lex) : ∀ (n : Nat) (s : List UInt8) (t : Tok), s.length ≤ n → lexN l s = some t → t.kind ≠ 0 ∧ t.lo < t.hi ∧ t.hi ≤ s.length := by
  intro n
  induction n with
  | zero =>
    intro s t hs h
    have : s = [] := List.eq_nil_of_length_eq_zero (by omega)
    subst this
    rw [lexN_none l [] rfl] at h
    cases h
  | succ n ih =>
    intro s t hs h
    have hle := step_le l s
    cases hst : step l s with
    | none => rw [lexN_none l s hst] at h; cases h
    | some x =>
      cases x with
      | inl k =>
        have hk := hle.1 k hst
        rw [lexN_skip l s k hst] at h
        obtain ⟨u, hu, rfl⟩ := Option.map_eq_some_iff.1 h
        have := ih (s.drop k) u (by rw [List.length_drop]; omega) hu
        rw [List.length_drop] at this
        exact ⟨this.1, by show u.lo + k < u.hi + k; omega, by show u.hi + k ≤ _; omega⟩
      | inr u =>
        have hu := hle.2 u hst
        rw [lexN_tok l s u hst] at h
        split at h
        · cases h
        · rename_i hk
          cases h
          exact ⟨hk, by omega, hu.2.2⟩

/-! ### all tokens -/
def lexAll (l : Lex) : Nat → List UInt8 → List Tok
  | 0, _ => []
  | f + 1, s =>
    match lexN l s with
    | none => []
    | some t => t :: (lexAll l f (s.drop t.hi)).map (Tok.shift t.hi)

theorem lexAll_fuel (l : Lex) : ∀ (n : Nat) (s : List UInt8) (f g : Nat), s.length ≤ n → s.length < f → s.length < g → lexAll l f s = lexAll l g s := by
  intro n
  induction n with
  | zero =>
    intro s f g hs hf hg
    obtain ⟨f, rfl⟩ : ∃ f', f = f' + 1 := ⟨f - 1, by omega⟩
    obtain ⟨g, rfl⟩ : ∃ g', g = g' + 1 := ⟨g - 1, by omega⟩
    have : s = [] := List.eq_nil_of_length_eq_zero (by omega)
    subst this
    simp [lexAll, lexN_none l [] rfl]
  | succ n ih =>
    intro s f g hs hf hg
    obtain ⟨f, rfl⟩ : ∃ f', f = f' + 1 := ⟨f - 1, by omega⟩
    obtain ⟨g, rfl⟩ : ∃ g', g = g' + 1 := ⟨g - 1, by omega⟩
    simp only [lexAll]
    cases ht : lexN l s with
    | none => rfl
    | some t =>
      have := lexN_le l s.length s t (Nat.le_refl _) ht
      show t :: (lexAll l f (s.drop t.hi)).map _ = t :: (lexAll l g (s.drop t.hi)).map _
      rw [ih (s.drop t.hi) f g (by rw [List.length_drop]; omega) (by rw [List.length_drop]; omega) (by rw [List.length_drop]; omega)]

def toks (l : Lex) (s : List UInt8) : List Tok := lexAll l (s.length + 1) s

theorem toks_none (l : Lex) (s : List UInt8) (h : lexN l s = none) : toks l s = [] := by simp [toks, lexAll, h]
theorem toks_some (l : Lex) (s : List UInt8) (t : Tok) (h : lexN l s = some t) : toks l s = t :: (toks l (s.drop t.hi)).map (Tok.shift t.hi) := by
  have := lexN_le l s.length s t (Nat.le_refl _) h
  simp only [toks, lexAll, h]
  rw [lexAll_fuel l s.length (s.drop t.hi) s.length ((s.drop t.hi).length + 1) (by rw [List.length_drop]; omega) (by rw [List.length_drop]; omega) (by omega)]
  rfl

theorem toks_skip (l : Lex) (s : List UInt8) (k : Nat) (h : step l s = some (.inl k)) : toks l s = (toks l (s.drop k)).map (Tok.shift k) := by
  cases hn : lexN l (s.drop k) with
  | none => rw [toks_none l s (by rw [lexN_skip l s k h, hn]; rfl), toks_none l _ hn]; rfl
  | some t =>
    rw [toks_some l s (t.shift k) (by rw [lexN_skip l s k h, hn]; rfl), toks_some l _ t hn, List.map_cons, List.map_map, List.drop_drop]
    congr 1
    show List.map (Tok.shift (t.hi + k)) (toks l (s.drop (t.hi + k))) = _
    rw [Nat.add_comm k t.hi]
    apply List.map_congr_left
    intro u _
    exact (shift_shift t.hi k u).symm

theorem toks_tok (l : Lex) (s : List UInt8) (t : Tok) (h : step l s = some (.inr t)) (hk : t.kind ≠ 0) : toks l s = t :: (toks l (s.drop t.hi)).map (Tok.shift t.hi) :=
  toks_some l s t (by rw [lexN_tok l s t h, if_neg hk])

theorem toks_len (l : Lex) : ∀ (n : Nat) (s : List UInt8), s.length ≤ n → (toks l s).length ≤ s.length := by
  intro n
  induction n with
  | zero =>
    intro s hs
    have : s = [] := List.eq_nil_of_length_eq_zero (by omega)
    subst this
    rw [toks_none l [] (lexN_none l [] rfl)]
    simp
  | succ n ih =>
    intro s hs
    cases hn : lexN l s with
    | none => rw [toks_none l s hn]; simp
    | some t =>
      have := lexN_le l s.length s t (Nat.le_refl _) hn
      rw [toks_some l s t hn]
      have h2 := ih (s.drop t.hi) (by rw [List.length_drop]; omega)
      rw [List.length_drop] at h2
      simp only [List.length_cons, List.length_map]
      omega

end Go.Proofs.Qxb6613163aDoor.Lx
