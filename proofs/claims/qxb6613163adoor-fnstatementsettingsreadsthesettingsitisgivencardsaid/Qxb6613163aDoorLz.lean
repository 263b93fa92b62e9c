/-
  THE PLAIN LAWS: the tokens of 'SET STATEMENT n=v, .. FOR ' and what follows. No Go in sight.
-/
import Derived.Test.Qxb6613163aDoorLy
namespace Go.Proofs.Qxb6613163aDoor.Lx

theorem step_cons' (l : Lex) (c : UInt8) (t s : List UInt8) (hs : s = c :: t) : step l s = (if blank c then some (.inl 1)
    else if l.exec && (Lib.hasPrefix s [47, 42, 33] || Lib.hasPrefix s [47, 42, 77, 33]) then
      some (.inl ((Lib.indexByte s 33 + 1).toNat + runOf isDig (s.drop (Lib.indexByte s 33 + 1).toNat)))
    else if l.exec && Lib.hasPrefix s [42, 47] then some (.inl 2)
    else if Lib.hasPrefix s [47, 42] then
      (if Lib.index (s.drop 2) [42, 47] < 0 then none else some (.inl (2 + (Lib.index (s.drop 2) [42, 47]).toNat + 2)))
    else if lineAt s then some (.inl (if Lib.indexByte s 10 < 0 then s.length else (Lib.indexByte s 10).toNat))
    else if isQuote c then
      (quoted l s).map fun x => .inr ⟨if quotesName l c then 119 else 115, x.1, quotesName l c, 0, x.2⟩
    else if c == 64 then atSign l s
    else if isDig c then
      (if numLen s < nameLen false s && !Lib.containsAny (s.take (numLen s)) [101, 69] then some (.inr ⟨119, s.take (nameLen false s), false, 0, nameLen false s⟩)
       else some (.inr ⟨110, s.take (numLen s), false, 0, numLen s⟩))
    else if 0 < nameLen false s then some (.inr ⟨119, s.take (nameLen false s), false, 0, nameLen false s⟩)
    else if Lib.hasPrefix s [58, 61] then some (.inr ⟨61, [58, 61], false, 0, 2⟩)
    else some (.inr ⟨c, [c], false, 0, 1⟩)) := by subst hs; rfl

theorem pre_no (c d : UInt8) (t p : List UInt8) (h : c ≠ d) : Lib.hasPrefix (c :: t) (d :: p) = false := by
  simp [Lib.hasPrefix, List.isPrefixOf, Ne.symm h]

/-- A byte that opens no blank, no comment, no quote, no variable. -/
theorem step_word (l : Lex) (c : UInt8) (t : List UInt8) (h0 : blank c = false) (h1 : c ≠ 47) (h2 : c ≠ 42) (h3 : c ≠ 35) (h4 : c ≠ 45) (h5 : isQuote c = false) (h6 : c ≠ 64) :
    step l (c :: t) = (if isDig c then
      (if numLen (c :: t) < nameLen false (c :: t) && !Lib.containsAny ((c :: t).take (numLen (c :: t))) [101, 69] then some (.inr ⟨119, (c :: t).take (nameLen false (c :: t)), false, 0, nameLen false (c :: t)⟩)
       else some (.inr ⟨110, (c :: t).take (numLen (c :: t)), false, 0, numLen (c :: t)⟩))
    else if 0 < nameLen false (c :: t) then some (.inr ⟨119, (c :: t).take (nameLen false (c :: t)), false, 0, nameLen false (c :: t)⟩)
    else if Lib.hasPrefix (c :: t) [58, 61] then some (.inr ⟨61, [58, 61], false, 0, 2⟩)
    else some (.inr ⟨c, [c], false, 0, 1⟩)) := by
  rw [step_cons' l c t _ rfl, if_neg (by rw [h0]; simp), if_neg (by rw [pre_no c 47 t _ h1, pre_no c 47 t _ h1]; simp), if_neg (by rw [pre_no c 42 t _ h2]; simp), if_neg (by rw [pre_no c 47 t _ h1]; simp),
    if_neg (by
      have : lineAt (c :: t) = (c == 35 || (Lib.hasPrefix (c :: t) [45, 45] && ctlHead ((c :: t).drop 2))) := rfl
      rw [this, pre_no c 45 t _ h4]; simp [h3]), if_neg (by rw [h5]; simp), if_neg (by simpa using h6)]

theorem step_blank (l : Lex) (t : List UInt8) : step l (32 :: t) = some (.inl 1) := by
  rw [step_cons' l 32 t _ rfl, if_pos (by decide)]

theorem step_eq (l : Lex) (t : List UInt8) : step l (61 :: t) = some (.inr ⟨61, [61], false, 0, 1⟩) := by
  rw [step_word l 61 t (by decide) (by decide) (by decide) (by decide) (by decide) (by decide) (by decide), if_neg (by decide), if_neg (by rw [nameLen, runOf_no _ _ _ (by decide)]; omega), if_neg (by rw [pre_no 61 58 t _ (by decide)]; simp)]

theorem step_comma (l : Lex) (t : List UInt8) : step l (44 :: t) = some (.inr ⟨44, [44], false, 0, 1⟩) := by
  rw [step_word l 44 t (by decide) (by decide) (by decide) (by decide) (by decide) (by decide) (by decide), if_neg (by decide), if_neg (by rw [nameLen, runOf_no _ _ _ (by decide)]; omega), if_neg (by rw [pre_no 44 58 t _ (by decide)]; simp)]

theorem step_name (l : Lex) (n : List UInt8) (c d : UInt8) (t : List UInt8) (h0 : blank c = false) (h1 : c ≠ 47) (h2 : c ≠ 42) (h3 : c ≠ 35) (h4 : c ≠ 45) (h5 : isQuote c = false) (h6 : c ≠ 64) (h7 : isDig c = false)
    (hn : ∀ x ∈ c :: n, isNm false x = true) (hd : isNm false d = false) : step l ((c :: n) ++ d :: t) = some (.inr ⟨119, c :: n, false, 0, (c :: n).length⟩) := by
  have hl : nameLen false ((c :: n) ++ d :: t) = (c :: n).length := runOf_append _ _ _ _ hn hd
  rw [List.cons_append] at hl ⊢
  rw [step_word l c _ h0 h1 h2 h3 h4 h5 h6, if_neg (by rw [h7]; simp), hl, if_pos (by simp)]
  congr 3
  rw [← List.cons_append, List.take_left']
  rfl

theorem step_num (l : Lex) (n : List UInt8) (d : UInt8) (t : List UInt8) (hn0 : n ≠ []) (hn : ∀ x ∈ n, isDig x = true) (hd : d = 44 ∨ d = 32) : step l (n ++ d :: t) = some (.inr ⟨110, n, false, 0, n.length⟩) := by
  cases n with
  | nil => exact absurd rfl hn0
  | cons c n =>
    have hnm : ∀ x ∈ c :: n, isNm false x = true := fun x hx => by
      have := hn x hx
      simp only [isDig] at this
      simp [isNm, this]
    have hl : nameLen false ((c :: n) ++ d :: t) = (c :: n).length := runOf_append _ _ _ _ hnm (by rcases hd with rfl | rfl <;> decide)
    have hr : runOf isDigDot ((c :: n) ++ d :: t) = (c :: n).length := runOf_append _ _ _ _ (fun x hx => by simp [isDigDot, hn x hx]) (by rcases hd with rfl | rfl <;> decide)
    have hk : numLen ((c :: n) ++ d :: t) = (c :: n).length := by
      rw [num_other _ d t (by rw [hr]; exact List.drop_left) (by rcases hd with rfl | rfl <;> decide) (by rcases hd with rfl | rfl <;> decide), hr]
    have hc := hn c (by simp)
    have cb : 48 ≤ c ∧ c ≤ 57 := by simpa [isDig] using hc
    have key : blank c = false ∧ c ≠ 47 ∧ c ≠ 42 ∧ c ≠ 35 ∧ c ≠ 45 ∧ isQuote c = false ∧ c ≠ 64 := by
      have h48 : 48 ≤ c.toNat := by have := UInt8.le_iff_toNat_le.1 cb.1; simpa using this
      have h57 : c.toNat ≤ 57 := by have := UInt8.le_iff_toNat_le.1 cb.2; simpa using this
      clear hk hr hl hnm hn hc cb
      obtain ⟨k, hkk, rfl⟩ : ∃ k : Nat, (k = 48 ∨ k = 49 ∨ k = 50 ∨ k = 51 ∨ k = 52 ∨ k = 53 ∨ k = 54 ∨ k = 55 ∨ k = 56 ∨ k = 57) ∧ c = UInt8.ofNat k := ⟨c.toNat, by omega, by simp⟩
      rcases hkk with rfl | rfl | rfl | rfl | rfl | rfl | rfl | rfl | rfl | rfl <;> decide
    obtain ⟨k0, k1, k2, k3, k4, k5, k6⟩ := key
    rw [List.cons_append] at hl hk ⊢
    rw [step_word l c _ k0 k1 k2 k3 k4 k5 k6, if_pos hc, hl, hk, if_neg (by simp)]
    congr 3
    rw [← List.cons_append, List.take_left']
    rfl

/-! ### the head's tokens -/
def nmHead (c : UInt8) : Bool := (97 ≤ c && c ≤ 122) || (65 ≤ c && c ≤ 90) || c == 95 || c == 36

set_option maxRecDepth 100000 in
theorem head_key (c : UInt8) (h : nmHead c = true) : blank c = false ∧ c ≠ 47 ∧ c ≠ 42 ∧ c ≠ 35 ∧ c ≠ 45 ∧ isQuote c = false ∧ c ≠ 64 ∧ isDig c = false ∧ isNm false c = true := by
  have key : ∀ k : Fin 256, nmHead (UInt8.ofFin k) = true → blank (UInt8.ofFin k) = false ∧ UInt8.ofFin k ≠ 47 ∧ UInt8.ofFin k ≠ 42 ∧ UInt8.ofFin k ≠ 35 ∧ UInt8.ofFin k ≠ 45 ∧ isQuote (UInt8.ofFin k) = false ∧ UInt8.ofFin k ≠ 64 ∧ isDig (UInt8.ofFin k) = false ∧ isNm false (UInt8.ofFin k) = true := by decide
  exact key c.toFin h

/-- A plain name: its first byte no digit. -/
def PlainName (n : List UInt8) : Prop := ∃ c t, n = c :: t ∧ nmHead c = true ∧ ∀ x ∈ n, isNm false x = true

theorem step_plain (l : Lex) (n : List UInt8) (d : UInt8) (t : List UInt8) (h : PlainName n) (hd : isNm false d = false) : step l (n ++ d :: t) = some (.inr ⟨119, n, false, 0, n.length⟩) := by
  obtain ⟨c, r, rfl, hc, hn⟩ := h
  obtain ⟨k0, k1, k2, k3, k4, k5, k6, k7, _⟩ := head_key c hc
  exact step_name l r c d t k0 k1 k2 k3 k4 k5 k6 k7 hn hd

theorem toks_word (l : Lex) (n : List UInt8) (d : UInt8) (t : List UInt8) (p : Nat) (h : PlainName n) (hd : isNm false d = false) :
    (toks l (n ++ d :: t)).map (Tok.shift p) = ⟨119, n, false, p, p + n.length⟩ :: (toks l (d :: t)).map (Tok.shift (p + n.length)) := by
  rw [toks_tok l _ _ (step_plain l n d t h hd) (by dsimp only; decide)]
  have e : (n ++ d :: t).drop n.length = d :: t := List.drop_left
  dsimp only
  rw [e, List.map_cons, List.map_map]
  congr 1
  · simp [Tok.shift, Nat.add_comm]
  · apply List.map_congr_left
    intro u _
    show (u.shift n.length).shift p = _
    rw [shift_shift, Nat.add_comm]

theorem toks_num (l : Lex) (n : List UInt8) (d : UInt8) (t : List UInt8) (p : Nat) (hn0 : n ≠ []) (hn : ∀ x ∈ n, isDig x = true) (hd : d = 44 ∨ d = 32) :
    (toks l (n ++ d :: t)).map (Tok.shift p) = ⟨110, n, false, p, p + n.length⟩ :: (toks l (d :: t)).map (Tok.shift (p + n.length)) := by
  rw [toks_tok l _ _ (step_num l n d t hn0 hn hd) (by dsimp only; decide)]
  have e : (n ++ d :: t).drop n.length = d :: t := List.drop_left
  dsimp only
  rw [e, List.map_cons, List.map_map]
  congr 1
  · simp [Tok.shift, Nat.add_comm]
  · apply List.map_congr_left
    intro u _
    show (u.shift n.length).shift p = _
    rw [shift_shift, Nat.add_comm]

theorem toks_one (l : Lex) (c : UInt8) (t : List UInt8) (p : Nat) (hs : step l (c :: t) = some (.inr ⟨c, [c], false, 0, 1⟩)) (hc : c ≠ 0) :
    (toks l (c :: t)).map (Tok.shift p) = ⟨c, [c], false, p, p + 1⟩ :: (toks l t).map (Tok.shift (p + 1)) := by
  rw [toks_tok l _ _ hs hc]
  dsimp only
  rw [List.drop_succ_cons, List.drop_zero, List.map_cons, List.map_map]
  congr 1
  · simp [Tok.shift, Nat.add_comm]
  · apply List.map_congr_left
    intro u _
    show (u.shift 1).shift p = _
    rw [shift_shift, Nat.add_comm]

theorem toks_space (l : Lex) (t : List UInt8) (p : Nat) : (toks l (32 :: t)).map (Tok.shift p) = (toks l t).map (Tok.shift (p + 1)) := by
  rw [toks_skip l _ 1 (step_blank l t), List.drop_succ_cons, List.drop_zero, List.map_map]
  apply List.map_congr_left
  intro u _
  show (u.shift 1).shift p = _
  rw [shift_shift, Nat.add_comm]

/-- 'n=v, n=v, .. n=v' and what follows. -/
def itemsText : List (List UInt8 × List UInt8) → List UInt8 → List UInt8
  | [], tail => tail
  | [x], tail => x.1 ++ 61 :: (x.2 ++ tail)
  | x :: y :: xs, tail => x.1 ++ 61 :: (x.2 ++ 44 :: 32 :: itemsText (y :: xs) tail)

def itemToks : Nat → List (List UInt8 × List UInt8) → List Tok
  | _, [] => []
  | p, [x] => [⟨119, x.1, false, p, p + x.1.length⟩, ⟨61, [61], false, p + x.1.length, p + x.1.length + 1⟩, ⟨110, x.2, false, p + x.1.length + 1, p + x.1.length + 1 + x.2.length⟩]
  | p, x :: y :: xs => ⟨119, x.1, false, p, p + x.1.length⟩ :: ⟨61, [61], false, p + x.1.length, p + x.1.length + 1⟩ :: ⟨110, x.2, false, p + x.1.length + 1, p + x.1.length + 1 + x.2.length⟩ ::
      ⟨44, [44], false, p + x.1.length + 1 + x.2.length, p + x.1.length + 1 + x.2.length + 1⟩ :: itemToks (p + x.1.length + 1 + x.2.length + 2) (y :: xs)

def itemsLen : List (List UInt8 × List UInt8) → Nat
  | [] => 0
  | [x] => x.1.length + 1 + x.2.length
  | x :: y :: xs => x.1.length + 1 + x.2.length + 2 + itemsLen (y :: xs)

def GoodItem (x : List UInt8 × List UInt8) : Prop := PlainName x.1 ∧ x.2 ≠ [] ∧ ∀ c ∈ x.2, isDig c = true

theorem toks_items (l : Lex) (t : List UInt8) : ∀ (xs : List (List UInt8 × List UInt8)) (p : Nat), xs ≠ [] → (∀ x ∈ xs, GoodItem x) →
    (toks l (itemsText xs (32 :: t))).map (Tok.shift p) = itemToks p xs ++ (toks l (32 :: t)).map (Tok.shift (p + itemsLen xs))
  | [], _, h, _ => absurd rfl h
  | [x], p, _, h => by
    obtain ⟨h1, h2, h3⟩ := h x (by simp)
    simp only [itemsText, itemToks, itemsLen]
    rw [toks_word l _ 61 _ p h1 (by decide), toks_one l 61 _ _ (step_eq l _) (by decide), toks_num l _ 32 _ _ h2 h3 (Or.inr rfl)]
    simp [Nat.add_assoc]
  | x :: y :: xs, p, _, h => by
    obtain ⟨h1, h2, h3⟩ := h x (by simp)
    simp only [itemsText, itemToks, itemsLen]
    rw [toks_word l _ 61 _ p h1 (by decide), toks_one l 61 _ _ (step_eq l _) (by decide), toks_num l _ 44 _ _ h2 h3 (Or.inl rfl), toks_one l 44 _ _ (step_comma l _) (by decide), toks_space, toks_items l t (y :: xs) _ (by simp) (fun z hz => h z (by simp [List.mem_cons] at hz ⊢; exact Or.inr hz))]
    simp [Nat.add_assoc]

def wSET : List UInt8 := [83, 69, 84]
def wSTATEMENT : List UInt8 := [83, 84, 65, 84, 69, 77, 69, 78, 84]
def wFOR : List UInt8 := [70, 79, 82]

theorem plainSET : PlainName wSET := ⟨83, [69, 84], rfl, by decide, by decide⟩
theorem plainSTATEMENT : PlainName wSTATEMENT := ⟨83, [84, 65, 84, 69, 77, 69, 78, 84], rfl, by decide, by decide⟩
theorem plainFOR : PlainName wFOR := ⟨70, [79, 82], rfl, by decide, by decide⟩
theorem plainX : PlainName [120] := ⟨120, [], rfl, by decide, by decide⟩

/-- The whole text. -/
def headText (xs : List (List UInt8 × List UInt8)) (text : List UInt8) : List UInt8 := wSET ++ 32 :: (wSTATEMENT ++ 32 :: itemsText xs (32 :: (wFOR ++ 32 :: text)))

theorem map_shift_zero (T : List Tok) : T.map (Tok.shift 0) = T := by
  induction T with
  | nil => rfl
  | cons t T ih => rw [List.map_cons, ih]; rfl

theorem toks_head (l : Lex) (xs : List (List UInt8 × List UInt8)) (text : List UInt8) (h0 : xs ≠ []) (h : ∀ x ∈ xs, GoodItem x) :
    toks l (headText xs text) = ⟨119, wSET, false, 0, 3⟩ :: ⟨119, wSTATEMENT, false, 4, 13⟩ :: (itemToks 14 xs ++ ⟨119, wFOR, false, 14 + itemsLen xs + 1, 14 + itemsLen xs + 4⟩ :: (toks l text).map (Tok.shift (14 + itemsLen xs + 5))) := by
  rw [← map_shift_zero (toks l (headText xs text))]
  unfold headText
  rw [toks_word l wSET 32 _ 0 plainSET (by decide), toks_space, toks_word l wSTATEMENT 32 _ _ plainSTATEMENT (by decide), toks_space, toks_items l _ xs _ h0 h, toks_space, toks_word l wFOR 32 _ _ plainFOR (by decide), toks_space]
  rfl

theorem toks_xtext (l : Lex) (text : List UInt8) : toks l (120 :: 32 :: text) = ⟨119, [120], false, 0, 1⟩ :: (toks l text).map (Tok.shift 2) := by
  rw [← map_shift_zero (toks l (120 :: 32 :: text))]
  have := toks_word l [120] 32 text 0 plainX (by decide)
  rw [List.singleton_append] at this
  rw [this, toks_space]
  rfl

theorem itemsText_len (xs : List (List UInt8 × List UInt8)) (tail : List UInt8) : (itemsText xs tail).length = itemsLen xs + tail.length := by
  match xs with
  | [] => simp [itemsText, itemsLen]
  | [x] => simp [itemsText, itemsLen]; omega
  | x :: y :: xs =>
    have := itemsText_len (y :: xs) tail
    simp [itemsText, itemsLen, this]; omega

/-- Every token of the items: no bracket; no longer than the text; where its kind is a word it is one of the names. -/
theorem itemToks_mem (xs : List (List UInt8 × List UInt8)) : ∀ (p : Nat) (t : Tok), t ∈ itemToks p xs → t.kind ≠ 40 ∧ t.kind ≠ 41 ∧ t.quoted = false ∧ (t.kind = 119 → ∃ x ∈ xs, t.text = x.1) ∧ (t.kind ≠ 119 → t.text = [61] ∨ t.text = [44] ∨ ∃ x ∈ xs, t.text = x.2) := by
  match xs with
  | [] => intro p t h; simp [itemToks] at h
  | [x] =>
    intro p t h
    simp [itemToks] at h
    rcases h with rfl | rfl | rfl
    · exact ⟨by dsimp only; decide, by dsimp only; decide, rfl, fun _ => ⟨x, by simp, rfl⟩, fun h => absurd rfl h⟩
    · exact ⟨by dsimp only; decide, by dsimp only; decide, rfl, fun h => absurd h (by dsimp only; decide), fun _ => Or.inl rfl⟩
    · exact ⟨by dsimp only; decide, by dsimp only; decide, rfl, fun h => absurd h (by dsimp only; decide), fun _ => Or.inr (Or.inr ⟨x, by simp, rfl⟩)⟩
  | x :: y :: xs =>
    intro p t h
    simp only [itemToks, List.mem_cons] at h
    rcases h with rfl | rfl | rfl | rfl | h
    · exact ⟨by dsimp only; decide, by dsimp only; decide, rfl, fun _ => ⟨x, by simp, rfl⟩, fun h => absurd rfl h⟩
    · exact ⟨by dsimp only; decide, by dsimp only; decide, rfl, fun h => absurd h (by dsimp only; decide), fun _ => Or.inl rfl⟩
    · exact ⟨by dsimp only; decide, by dsimp only; decide, rfl, fun h => absurd h (by dsimp only; decide), fun _ => Or.inr (Or.inr ⟨x, by simp, rfl⟩)⟩
    · exact ⟨by dsimp only; decide, by dsimp only; decide, rfl, fun h => absurd h (by dsimp only; decide), fun _ => Or.inr (Or.inl rfl)⟩
    · obtain ⟨h1, h2, h3, h4, h5⟩ := itemToks_mem (y :: xs) _ t h
      refine ⟨h1, h2, h3, fun e => ?_, fun e => ?_⟩
      · obtain ⟨z, hz, e2⟩ := h4 e
        exact ⟨z, List.mem_cons_of_mem _ hz, e2⟩
      · rcases h5 e with e2 | e2 | ⟨z, hz, e2⟩
        · exact Or.inl e2
        · exact Or.inr (Or.inl e2)
        · exact Or.inr (Or.inr ⟨z, List.mem_cons_of_mem _ hz, e2⟩)

end Go.Proofs.Qxb6613163aDoor.Lx
