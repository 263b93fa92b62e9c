/-
  THE ROUND of (Lexer).Next's loop (22), and Next itself.
-/
import Derived.Test.Qxb6613163aDoorWg
import Derived.Test.Qxb6613163aDoorWh
import Derived.Test.Qxb6613163aDoorWi
import Derived.Test.Qxb6613163aDoorWk
import Derived.Deep.LoopGhost
namespace Go.Proofs.Qxb6613163aDoor
open Go.RowKit

theorem step_cons (l : Lx.Lex) (c : UInt8) (t s : List UInt8) (hs : s = c :: t) : Lx.step l s = (if Lx.blank c then some (.inl 1)
    else if l.exec && (Lib.hasPrefix s [47, 42, 33] || Lib.hasPrefix s [47, 42, 77, 33]) then
      some (.inl ((Lib.indexByte s 33 + 1).toNat + Lx.runOf Lx.isDig (s.drop (Lib.indexByte s 33 + 1).toNat)))
    else if l.exec && Lib.hasPrefix s [42, 47] then some (.inl 2)
    else if Lib.hasPrefix s [47, 42] then
      (if Lib.index (s.drop 2) [42, 47] < 0 then none else some (.inl (2 + (Lib.index (s.drop 2) [42, 47]).toNat + 2)))
    else if Lx.lineAt s then some (.inl (if Lib.indexByte s 10 < 0 then s.length else (Lib.indexByte s 10).toNat))
    else if Lx.isQuote c then
      (Lx.quoted l s).map fun x => .inr ⟨if Lx.quotesName l c then 119 else 115, x.1, Lx.quotesName l c, 0, x.2⟩
    else if c == 64 then Lx.atSign l s
    else if Lx.isDig c then
      (if Lx.numLen s < Lx.nameLen false s && !Lib.containsAny (s.take (Lx.numLen s)) [101, 69] then some (.inr ⟨119, s.take (Lx.nameLen false s), false, 0, Lx.nameLen false s⟩)
       else some (.inr ⟨110, s.take (Lx.numLen s), false, 0, Lx.numLen s⟩))
    else if 0 < Lx.nameLen false s then some (.inr ⟨119, s.take (Lx.nameLen false s), false, 0, Lx.nameLen false s⟩)
    else if Lib.hasPrefix s [58, 61] then some (.inr ⟨61, [58, 61], false, 0, 2⟩)
    else some (.inr ⟨c, [c], false, 0, 1⟩)) := by subst hs; rfl

/-- The leaves go over to whatever stands behind a return. -/
theorem leaf_mono {R : Option Lx.Tok} {w : World} {c : Code} {Q : Exit → Act → World → Prop} {a : Act} {w' : World} (hret : ∀ (a : Act) (w' : World), bodyPost Tryd.prog Tryd.f22 (fun e w' => NextIs R e ∧ Below w.heap.size w w') .ret a w' → Q .ret a w') (h : Code.wp Tryd.prog c (retOnly R w) a w') : Code.wp Tryd.prog c Q a w' := by
  refine Code.wp_mono ?_ h
  intro e a w' hq
  cases e with
  | ret => exact hret a w' hq
  | _ => exact hq.elim

/-- Behind blanks and comments: the plain step. -/
def tailStep (l : Lx.Lex) (c : UInt8) (s : List UInt8) : Option (Nat ⊕ Lx.Tok) :=
  if Lx.isQuote c then
      (Lx.quoted l s).map fun x => .inr ⟨if Lx.quotesName l c then 119 else 115, x.1, Lx.quotesName l c, 0, x.2⟩
    else if c == 64 then Lx.atSign l s
    else if Lx.isDig c then
      (if Lx.numLen s < Lx.nameLen false s && !Lib.containsAny (s.take (Lx.numLen s)) [101, 69] then some (.inr ⟨119, s.take (Lx.nameLen false s), false, 0, Lx.nameLen false s⟩)
       else some (.inr ⟨110, s.take (Lx.numLen s), false, 0, Lx.numLen s⟩))
    else if 0 < Lx.nameLen false s then some (.inr ⟨119, s.take (Lx.nameLen false s), false, 0, Lx.nameLen false s⟩)
    else if Lib.hasPrefix s [58, 61] then some (.inr ⟨61, [58, 61], false, 0, 2⟩)
    else some (.inr ⟨c, [c], false, 0, 1⟩)

set_option maxHeartbeats 8000000 in
set_option maxRecDepth 1000000 in
theorem tail (l : Lx.Lex) (q : ByteArray) (w : World) (hq : q.size ≤ 1073741824) (R : Option Lx.Tok) (k : Nat) (c : UInt8) (hlt : k < q.size) (hc : q[k]'hlt = c)
    (HR : Hid ((Lx.lexN l (q.data.toList.drop k)).map (Lx.Tok.shift k) = R)) (HS : Hid (Lx.step l (q.data.toList.drop k) = tailStep l c (q.data.toList.drop k))) (a : Act) (ha : FR8 l q k c w a) :
    Code.wp Tryd.prog ((Tryd.f22.body.bind (elseOf 119)).getD .skip) (retOnly R w) a (W2 l w) := by
  conv => arg 2; whnf
  have hret : Hid (∀ (a : Act) (w' : World), bodyPost Tryd.prog Tryd.f22 (fun e w' => NextIs R e ∧ Below w.heap.size w w') .ret a w' → retOnly R w .ret a w') := fun _ _ h => h
  have hlt' : (k : Int) < (q.size : Int) := by omega
  have hL : (q.data.toList.drop k).length = q.size - k := by rw [List.length_drop, Array.length_toList]; rfl
  obtain ⟨u, rfl⟩ := ha.open
  clear ha
  unfold tailStep at HS
  unfold W2
  by_cases b6 : Lx.isQuote c = true
  · replace HS := HS.out; rw [if_pos b6] at HS; replace HS : Hid (_) := HS
    have hcq : ((c.toNat : Int) == 39) = true ∨ (((c.toNat : Int) == 39) = false ∧ ((c.toNat : Int) == 34) = true) ∨ (((c.toNat : Int) == 39) = false ∧ ((c.toNat : Int) == 34) = false ∧ ((c.toNat : Int) == 96) = true) := by
      simp only [Lx.isQuote, Bool.or_eq_true, beq_iff_eq] at b6
      rcases b6 with (rfl | rfl) | rfl
      · exact Or.inl rfl
      · exact Or.inr (Or.inl ⟨rfl, rfl⟩)
      · exact Or.inr (Or.inr ⟨rfl, rfl, rfl⟩)
    rcases hcq with e1 | ⟨e1, e2⟩ | ⟨e1, e2, e3⟩
    all_goals
      go_upto_if 162 with fail; refine wp_cond_true rfl ?_
      cases hx : Lx.quoted l (q.data.toList.drop k) with
      | none =>
        have H2 : Hid (R = none) := rel_none HR.out (by rw [HS.out, hx]; rfl)
        refine leaf_mono (R := R) (w := w) (fun _ _ h => h) ?_; refine quote_none l q w hq R k c hlt hx H2 _ ?_; exact ⟨⟨rfl, rfl, rfl, rfl, rfl, rfl, rfl⟩, rfl⟩
      | some y =>
        obtain ⟨t, n⟩ := y
        have hle := Lx.quoted_le l _ _ hx
        simp only at hle
        have H2 : Hid (_) := rel_tok HR.out (by rw [HS.out, hx]; rfl) (by dsimp only; split <;> decide)
        refine leaf_mono (R := R) (w := w) (fun _ _ h => h) ?_; refine quote_some l q w hq R k c hlt t n (by omega) hx (Lx.quotesName l c) rfl H2 _ ?_; exact ⟨⟨rfl, rfl, rfl, rfl, rfl, rfl, rfl⟩, rfl⟩
  replace HS := HS.out; rw [if_neg b6] at HS; replace HS : Hid (_) := HS
  have e39 : ((c.toNat : Int) == 39) = false := by rw [beq_eq_false_iff_ne]; exact fun h => b6 (by rw [nat_eq (c := c) (d := 39) h]; rfl)
  have e34 : ((c.toNat : Int) == 34) = false := by rw [beq_eq_false_iff_ne]; exact fun h => b6 (by rw [nat_eq (c := c) (d := 34) h]; rfl)
  have e96 : ((c.toNat : Int) == 96) = false := by rw [beq_eq_false_iff_ne]; exact fun h => b6 (by rw [nat_eq (c := c) (d := 96) h]; rfl)
  clear b6
  by_cases b7 : (c == 64) = true
  · replace HS := HS.out; rw [if_pos b7] at HS; replace HS : Hid (_) := HS
    have e64 : ((c.toNat : Int) == 64) = true := by rw [beq_iff_eq] at b7; subst b7; rfl
    clear b7
    go_upto_if 204 with fail; refine wp_cond_true rfl ?_
    cases hs : Lib.hasPrefix (q.data.toList.drop k) [64, 64] with
    | true =>
      have hpl := Lx.hasPrefix_len _ _ hs
      rw [hL] at hpl
      simp at hpl
      have hat : Lx.atSign l (q.data.toList.drop k) = if Lx.nameLen true (q.data.toList.drop (k + 2)) == 0 then none else some (.inr ⟨118, (q.data.toList.drop (k + 2)).take (Lx.nameLen true (q.data.toList.drop (k + 2))), false, 0, 2 + Lx.nameLen true (q.data.toList.drop (k + 2))⟩) := by
        simp [Lx.atSign, hs, List.drop_drop]
      rw [hat] at HS
      have hnl := Lx.runOf_le (Lx.isNm true) (q.data.toList.drop (k + 2))
      rw [List.length_drop, Array.length_toList] at hnl
      by_cases h0 : Lx.nameLen true (q.data.toList.drop (k + 2)) = 0
      · have H2 : Hid (R = none) := rel_none HR.out (by rw [HS.out]; simp [h0])
        refine leaf_mono (R := R) (w := w) (fun _ _ h => h) ?_; refine at_none_true l q w hq R k c (by omega) hs _ rfl (by simp [h0]) H2 _ ?_; exact ⟨⟨rfl, rfl, rfl, rfl, rfl, rfl, rfl⟩, rfl⟩
      · have H2 : Hid (_) := rel_tok HR.out (by rw [HS.out, if_neg (by simpa using h0)]) (by dsimp only; decide)
        refine leaf_mono (R := R) (w := w) (fun _ _ h => h) ?_; refine at_name_true l q w hq R k c hlt hs _ rfl (by rw [beq_eq_false_iff_ne]; omega) (by show k + 2 + Lx.runOf (Lx.isNm true) _ ≤ q.size; have : q.data.size = q.size := rfl; omega) H2 _ ?_; exact ⟨⟨rfl, rfl, rfl, rfl, rfl, rfl, rfl⟩, rfl⟩
    | false =>
      have hat : Lx.atSign l (q.data.toList.drop k) = if Lx.nameLen true (q.data.toList.drop (k + 1)) == 0 && Lx.quoteHead (q.data.toList.drop (k + 1)) then (Lx.quoted l (q.data.toList.drop (k + 1))).map (fun x => .inr ⟨117, x.1, false, 0, 1 + x.2⟩) else if Lx.nameLen true (q.data.toList.drop (k + 1)) == 0 then none else some (.inr ⟨117, (q.data.toList.drop (k + 1)).take (Lx.nameLen true (q.data.toList.drop (k + 1))), false, 0, 1 + Lx.nameLen true (q.data.toList.drop (k + 1))⟩) := by
        simp [Lx.atSign, hs, List.drop_drop]
      rw [hat] at HS
      have hnl := Lx.runOf_le (Lx.isNm true) (q.data.toList.drop (k + 1))
      rw [List.length_drop, Array.length_toList] at hnl
      by_cases h0 : Lx.nameLen true (q.data.toList.drop (k + 1)) = 0
      · by_cases hk2 : k + 1 < q.size
        · obtain ⟨d, hd, hdd⟩ := byte_at q (k + 1) hk2
          by_cases hqd : Lx.isQuote d = true
          · have hdq : ((d.toNat : Int) == 39) = true ∨ (((d.toNat : Int) == 39) = false ∧ ((d.toNat : Int) == 34) = true) ∨ (((d.toNat : Int) == 39) = false ∧ ((d.toNat : Int) == 34) = false ∧ ((d.toNat : Int) == 96) = true) := by
              simp only [Lx.isQuote, Bool.or_eq_true, beq_iff_eq] at hqd
              rcases hqd with (h | h) | h
              · rw [h]; exact Or.inl rfl
              · rw [h]; exact Or.inr (Or.inl ⟨rfl, rfl⟩)
              · rw [h]; exact Or.inr (Or.inr ⟨rfl, rfl, rfl⟩)
            have hq1 : Lx.quoteHead (q.data.toList.drop (k + 1)) = true := by rw [hdd]; exact hqd
            cases hx : Lx.quoted l (q.data.toList.drop (k + 1)) with
            | none =>
              have H2 : Hid (R = none) := rel_none HR.out (by rw [HS.out, if_pos (by simp [h0, hq1]), hx]; rfl)
              refine leaf_mono (R := R) (w := w) (fun _ _ h => h) ?_; refine at_quote_none l q w hq R k c hk2 d hd hdq hs _ rfl (by simp [h0]) hx H2 _ ?_; exact ⟨⟨rfl, rfl, rfl, rfl, rfl, rfl, rfl⟩, rfl⟩
            | some y =>
              obtain ⟨t, n⟩ := y
              have hle := Lx.quoted_le l _ _ hx
              simp only at hle
              rw [List.length_drop, Array.length_toList] at hle
              have H2 : Hid (_) := rel_tok HR.out (by rw [HS.out, if_pos (by simp [h0, hq1]), hx]; rfl) (by dsimp only; decide)
              refine leaf_mono (R := R) (w := w) (fun _ _ h => h) ?_; refine at_quote_some l q w hq R k c hk2 d hd hdq hs _ rfl (by simp [h0]) t n (by have : q.data.size = q.size := rfl; omega) hx H2 _ ?_; exact ⟨⟨rfl, rfl, rfl, rfl, rfl, rfl, rfl⟩, rfl⟩
          · have hq1 : Lx.quoteHead (q.data.toList.drop (k + 1)) = false := by rw [hdd]; show Lx.isQuote d = false; simpa using hqd
            have H2 : Hid (R = none) := rel_none HR.out (by rw [HS.out, if_neg (by simp [hq1]), if_pos (by simp [h0])])
            have g : ∀ e : UInt8, Lx.isQuote e = true → ((d.toNat : Int) == (e.toNat : Int)) = false := fun e he => by
              rw [beq_eq_false_iff_ne]; exact fun h => hqd (by rw [nat_eq (c := d) (d := e) h]; exact he)
            refine leaf_mono (R := R) (w := w) (fun _ _ h => h) ?_; refine at_none_other l q w hq R k c hk2 d hd (g 39 rfl) (g 34 rfl) (g 96 rfl) hs _ rfl (by simp [h0]) H2 _ ?_; exact ⟨⟨rfl, rfl, rfl, rfl, rfl, rfl, rfl⟩, rfl⟩
        · have hq1 : Lx.quoteHead (q.data.toList.drop (k + 1)) = false := by rw [drop_end q (k + 1) (by omega)]; rfl
          have H2 : Hid (R = none) := rel_none HR.out (by rw [HS.out, if_neg (by simp [hq1]), if_pos (by simp [h0])])
          refine leaf_mono (R := R) (w := w) (fun _ _ h => h) ?_; refine at_none_end l q w hq R k c hlt (by simp; omega) hs _ rfl (by simp [h0]) H2 _ ?_; exact ⟨⟨rfl, rfl, rfl, rfl, rfl, rfl, rfl⟩, rfl⟩
      · have H2 : Hid (_) := rel_tok HR.out (by rw [HS.out, if_neg (by simp [h0]), if_neg (by simpa using h0)]) (by dsimp only; decide)
        refine leaf_mono (R := R) (w := w) (fun _ _ h => h) ?_; refine at_name_false l q w hq R k c hlt hs _ rfl (by rw [beq_eq_false_iff_ne]; omega) (by show k + 1 + Lx.runOf (Lx.isNm true) _ ≤ q.size; have : q.data.size = q.size := rfl; omega) H2 _ ?_; exact ⟨⟨rfl, rfl, rfl, rfl, rfl, rfl, rfl⟩, rfl⟩
  replace HS := HS.out; rw [if_neg b7] at HS; replace HS : Hid (_) := HS
  have e64 : ((c.toNat : Int) == 64) = false := by rw [beq_eq_false_iff_ne]; exact fun h => b7 (by rw [nat_eq (c := c) (d := 64) h]; rfl)
  clear b7
  go_wp2_with fail
  refine (isDigit_any c _).mono ?_
  rintro e w1 ⟨rfl, rfl⟩
  cases b8 : Lx.isDig c with
  | true =>
    replace HS := HS.out; rw [if_pos b8] at HS; replace HS : Hid (_) := HS
    have h1 := Lx.numLen_le (q.data.toList.drop k)
    have h2 := Lx.runOf_le (Lx.isNm false) (q.data.toList.drop k)
    rw [hL] at h1 h2
    replace h2 : Lx.nameLen false (q.data.toList.drop k) ≤ q.size - k := h2
    go_upto_if 291 with fail; refine wp_cond_true rfl ?_
    by_cases hnm : Lx.numLen (q.data.toList.drop k) < Lx.nameLen false (q.data.toList.drop k)
    · cases hca : Lib.containsAny ((q.data.toList.drop k).take (Lx.numLen (q.data.toList.drop k))) [101, 69] with
      | false =>
        have H2 : Hid (_) := rel_tok HR.out (by rw [HS.out, if_pos (by simp [hnm, hca])]) (by dsimp only; decide)
        refine leaf_mono (R := R) (w := w) (fun _ _ h => h) ?_; refine dig_word l q w hq R k c hlt _ _ rfl rfl (by omega) (by omega) (by omega) hca H2 _ ?_; exact ⟨⟨rfl, rfl, rfl, rfl, rfl, rfl, rfl⟩, rfl⟩
      | true =>
        have H2 : Hid (_) := rel_tok HR.out (by rw [HS.out, if_neg (by simp [hca])]) (by dsimp only; decide)
        refine leaf_mono (R := R) (w := w) (fun _ _ h => h) ?_; refine dig_num1 l q w hq R k c hlt _ _ rfl rfl (by omega) (by omega) hca H2 _ ?_; exact ⟨⟨rfl, rfl, rfl, rfl, rfl, rfl, rfl⟩, rfl⟩
    · have H2 : Hid (_) := rel_tok HR.out (by rw [HS.out, if_neg (by simp [hnm])]) (by dsimp only; decide)
      refine leaf_mono (R := R) (w := w) (fun _ _ h => h) ?_; refine dig_num2 l q w hq R k c hlt _ _ rfl rfl (by omega) (by simpa using hnm) H2 _ ?_; exact ⟨⟨rfl, rfl, rfl, rfl, rfl, rfl, rfl⟩, rfl⟩
  | false =>
    replace HS := HS.out; rw [if_neg (by rw [b8]; simp)] at HS; replace HS : Hid (_) := HS
    have h2 := Lx.runOf_le (Lx.isNm false) (q.data.toList.drop k)
    rw [hL] at h2
    replace h2 : Lx.nameLen false (q.data.toList.drop k) ≤ q.size - k := h2
    obtain ⟨n, hn⟩ : ∃ n, Hid (Lx.nameLen false (q.data.toList.drop k) = n) := ⟨_, rfl⟩
    rw [hn.out] at h2 HS
    go_wp2_with fail
    refine (name_at q k false n _ hq hn).mono ?_
    rintro e w1 ⟨rfl, rfl⟩
    by_cases hn0 : 0 < n
    · have H2 : Hid (_) := rel_tok HR.out (by rw [HS.out, if_pos hn0]) (by dsimp only; decide)
      go_upto_if 337 with fail; refine wp_cond_true rfl ?_
      refine leaf_mono (R := R) (w := w) (fun _ _ h => h) ?_; refine name_word l q w hq R k c hlt n hn (by omega) H2 _ ?_; exact ⟨⟨rfl, rfl, rfl, rfl, rfl, rfl, rfl⟩, rfl⟩
    replace HS := HS.out; rw [if_neg hn0] at HS; replace HS : Hid (_) := HS
    have hn0' : decide (0 < n) = false := by simpa using hn0
    have hn0i : decide ((0 : Int) < (n : Int)) = false := by simp; omega
    clear hn0
    cases hs : Lib.hasPrefix (q.data.toList.drop k) [58, 61] with
    | true =>
      have hpl := Lx.hasPrefix_len _ _ hs
      rw [hL] at hpl
      simp at hpl
      have H2 : Hid (_) := rel_tok HR.out (by rw [HS.out, if_pos hs]) (by dsimp only; decide)
      replace hs : Hid (_) := hs
      go_wp2_with fail
      refine (pre_at q k [58, 61] true _ hs).mono ?_
      rintro e w1 ⟨rfl, rfl⟩
      go_wp2
      exact ret22 _ _ _ _ _ _ _ _ rfl rfl (top_block _ _ _ (by simp)) (next_tok H2 rfl (by omega) rfl) (below_two _ _ _)
    | false =>
      replace HS := HS.out; rw [if_neg (by rw [hs]; simp)] at HS; replace HS : Hid (_) := HS
      replace hs : Hid (_) := hs
      have hx1 : (⟨((q.data.toList.drop k).take 1).toArray⟩ : ByteArray) = ⟨[c].toArray⟩ := by rw [drop_byte q k hlt, hc]; rfl
      go_wp2_with fail
      refine (pre_at q k [58, 61] false _ hs).mono ?_
      rintro e w1 ⟨rfl, rfl⟩
      go_wp2
      refine ret22 _ _ _ _ _ _ _ _ rfl rfl (top_block _ _ _ (by simp)) ?_ (below_two _ _ _)
      by_cases hc0 : c = 0
      · have H2 : Hid (R = none) := rel_tok0 HR.out HS.out hc0
        have hz : ((c.toNat : Nat) : Int) = 0 := by rw [hc0]; rfl
        rw [hz]
        exact next_none H2 (Or.inl rfl)
      · have H2 : Hid (_) := rel_tok HR.out HS.out hc0
        exact next_tok H2 ((extract_take q k 1).trans hx1) (by omega) rfl

end Go.Proofs.Qxb6613163aDoor
