/-
  StatementSettings (18) AT THE HEAD's TEXT.
-/
import Derived.Test.Qxb6613163aDoorLv
namespace Go.Proofs.Qxb6613163aDoor
open Go.RowKit
open Lx

theorem pieces_len : ∀ (xs : List (List UInt8 × List UInt8)) (a : Nat), (piecesOf a xs).length = xs.length
  | [], _ => rfl
  | [_], _ => rfl
  | _ :: y :: xs, a => by
    have := pieces_len (y :: xs) (a + 4)
    simp only [piecesOf, List.length_cons] at this ⊢
    omega

theorem pieces_mem : ∀ (xs : List (List UInt8 × List UInt8)) (a : Nat) (p : Nat × Nat), p ∈ piecesOf a xs → p.1 + 2 ≤ p.2 ∧ p.2 + 1 ≤ a + 4 * xs.length
  | [], _, p, h => by simp [piecesOf] at h
  | [_], a, p, h => by
    simp [piecesOf] at h
    subst h
    simp
  | _ :: y :: xs, a, p, h => by
    simp only [piecesOf, List.mem_cons] at h
    rcases h with rfl | h
    · simp; omega
    · have := pieces_mem (y :: xs) (a + 4) p h
      simp only [List.length_cons] at this ⊢
      omega

theorem items_le : ∀ (xs : List (List UInt8 × List UInt8)) (x : List UInt8 × List UInt8), x ∈ xs → x.1.length + x.2.length ≤ itemsLen xs
  | [], x, h => by simp at h
  | [y], x, h => by
    simp at h
    subst h
    simp only [itemsLen]; omega
  | z :: y :: xs, x, h => by
    rw [List.mem_cons] at h
    simp only [itemsLen]
    rcases h with rfl | h
    · omega
    · have := items_le (y :: xs) x h
      omega

theorem ascii_dig (d : List UInt8) (h : ∀ c ∈ d, isDig c = true) : Ascii d := ascii_of _ fun b hb => by
  have := h b hb
  rw [isDig_int, decide_eq_true_eq] at this
  omega

theorem settings_head (l : Lex) (xs : List (List UInt8 × List UInt8)) (text : List UInt8) (q : ByteArray) (hq : q.data.toList = headText xs text) (hsz : q.size ≤ 4194304) (hx0 : xs ≠ []) (hg : ∀ x ∈ xs, GoodItem x ∧ Ascii x.1 ∧ Lib.equalFold x.1 kwFor = false) (m : Int) (w : World) (hm : w.cell? ⟨5, 0, none⟩ = some (.int .i64 m)) :
    Calls Tryd.prog 18 #[.string q, .agg #[.bool l.exec, .bool l.noEsc, .bool l.ansi]] w fun e w' => (∃ rs vt B cs, e = .returned (.tuple #[rs, vt]) ∧ w'.ownsRow B 47 2 rs xs.length cs ∧ SetsOK w' (itemToks 14 xs) cs (piecesOf 0 xs) ∧ Reads w' vt ((toks l text).map (Tok.shift (14 + itemsLen xs + 5)))) ∧ Below w.heap.size w w' := by
  have hT := toks_head l xs text hx0 (fun x hx => (hg x hx).1)
  rw [← hq] at hT
  have hIl := itemToks_len xs 14 hx0
  have hmem := itemToks_mem xs 14
  have hxl : 1 ≤ xs.length := by
    cases xs with
    | nil => exact absurd rfl hx0
    | cons => simp
  have hql : q.size = 14 + itemsLen xs + 5 + text.length := by
    have : q.data.toList.length = q.size := Array.length_toList
    rw [← this, hq]
    simp [headText, itemsText_len, wSET, wSTATEMENT, wFOR]
    omega
  generalize hI : itemToks 14 xs = I at *
  generalize hR : (toks l text).map (Tok.shift (14 + itemsLen xs + 5)) = R at *
  have hno : ∀ t ∈ I, t.kind ≠ 40 ∧ t.kind ≠ 41 := fun t ht => ⟨(hmem t ht).1, (hmem t ht).2.1⟩
  have hOI : outsF 0 0 I = List.range' 0 I.length := by
    have := outs_plain I [] hno 0
    simpa [outsF] using this
  have hP : itemsF I 0 (outsF 0 0 I) = piecesOf 0 xs := by
    rw [hOI]
    have := items_pieces xs 14 [] hx0
    rw [hI] at this
    simpa using this
  have hdrop : ∀ (a b : Tok) (X : List Tok), (a :: b :: X).drop (2 + I.length + 1) = X.drop (I.length + 1) := fun a b X => by
    rw [show 2 + I.length + 1 = (I.length + 1) + 1 + 1 from by omega]; rfl
  have key := settings_h l q m w hsz hm _ hT ⟨119, wSET, false, 0, 3⟩ ⟨119, wSTATEMENT, false, 4, 13⟩ rfl (ascii_of _ (by decide)) (by decide) (by decide) rfl (ascii_of _ (by decide)) (by decide) (by decide)
    (2 + I.length) (by omega) (by simp; omega) ?hfor ?hO I ?hS (piecesOf 0 xs) hP ?hSO ?hpc ?hPl
  case hfor =>
    intro j hj
    rcases Nat.lt_or_ge j 2 with h2 | h2
    · obtain rfl | rfl : j = 0 ∨ j = 1 := by omega
      · exact ⟨_, rfl, by rw [decide_eq_false (by omega)]; decide, ascii_of _ (by decide), by decide⟩
      · exact ⟨_, rfl, by rw [decide_eq_false (by omega)]; decide, ascii_of _ (by decide), by decide⟩
    · obtain ⟨j, rfl⟩ : ∃ i, j = i + 1 + 1 := ⟨j - 2, by omega⟩
      rw [List.getElem?_cons_succ, List.getElem?_cons_succ]
      rcases Nat.lt_or_ge j I.length with hlt | hge
      · have ht : I[j]? = some I[j] := List.getElem?_eq_getElem hlt
        obtain ⟨_, _, h3, h4, h5⟩ := hmem I[j] (List.getElem_mem hlt)
        refine ⟨I[j], by rw [List.getElem?_append_left hlt]; exact ht, ?_, ?_⟩
        · rw [decide_eq_false (by omega)]
          unfold isKw
          by_cases hk : I[j].kind = 119
          · obtain ⟨x, hx, e⟩ := h4 hk
            rw [e, (hg x hx).2.2]; simp
          · simp [hk]
        · by_cases hk : I[j].kind = 119
          · obtain ⟨x, hx, e⟩ := h4 hk
            have := items_le xs x hx
            rw [e]
            exact ⟨(hg x hx).2.1, by omega⟩
          · rcases h5 hk with e | e | ⟨x, hx, e⟩
            · rw [e]; exact ⟨ascii_of _ (by decide), by decide⟩
            · rw [e]; exact ⟨ascii_of _ (by decide), by decide⟩
            · have := items_le xs x hx
              rw [e]
              exact ⟨ascii_dig _ (hg x hx).1.2.2, by omega⟩
      · obtain rfl : j = I.length := by omega
        refine ⟨_, by rw [List.getElem?_append_right (Nat.le_refl _), Nat.sub_self]; rfl, ?_, ascii_of wFOR (by decide), by simp [wFOR]⟩
        rw [decide_eq_true (by omega)]
        simp [isKw]
        decide
  case hO =>
    intro j hj
    have := outs_plain (⟨119, wSET, false, 0, 3⟩ :: ⟨119, wSTATEMENT, false, 4, 13⟩ :: (I ++ [⟨119, wFOR, false, 14 + itemsLen xs + 1, 14 + itemsLen xs + 4⟩])) R (by
      intro t ht
      simp only [List.mem_cons, List.mem_append, List.not_mem_nil, or_false] at ht
      rcases ht with rfl | rfl | h | rfl
      · exact ⟨by dsimp only; decide, by dsimp only; decide⟩
      · exact ⟨by dsimp only; decide, by dsimp only; decide⟩
      · exact hno t h
      · exact ⟨by dsimp only; decide, by dsimp only; decide⟩) 0
    rw [List.cons_append, List.cons_append, List.append_assoc, List.singleton_append] at this
    rw [this, List.getElem?_append_left (by simp; omega), List.getElem?_range' (by simp; omega)]
    simp
  case hS =>
    rw [List.drop_succ_cons, List.drop_succ_cons, List.drop_zero, Nat.add_sub_cancel_left, List.take_left']
    rfl
  case hSO =>
    rw [hOI]
    intro h
    have := congrArg List.length h
    rw [List.length_range'] at this
    simp only [List.length_nil] at this
    omega
  case hpc =>
    intro p hp
    have := pieces_mem xs 0 p hp
    omega
  case hPl => rw [pieces_len]; omega
  refine key.mono ?_
  rintro e w' ⟨⟨rs, vt, B, cs, rfl, h1, h2, h3⟩, hb⟩
  rw [pieces_len] at h1
  rw [hdrop, List.drop_append, List.drop_eq_nil_of_le (by omega), List.nil_append, Nat.add_sub_cancel_left] at h3
  exact ⟨⟨rs, vt, B, cs, rfl, h1, h2, h3⟩, hb⟩

end Go.Proofs.Qxb6613163aDoor
