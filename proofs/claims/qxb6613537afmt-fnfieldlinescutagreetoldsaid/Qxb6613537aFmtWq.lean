/-
  THE WALK of zzmReadAll (7).
-/
import Derived.Test.Qxb6613537aFmtWp
namespace Go.Proofs.Qxb6613537aFmt
open Go.RowKit
open Pl

theorem results_tmp4 {fn : Func} {t u v x : Tmp} (h : fn.results = #[.tmp t, .tmp u, .tmp v, .tmp x]) (tmps : Array Value) (P : Program) (w : World) :
    (results fn tmps).run P w = .ok (.tuple #[tmps.getD t undef, tmps.getD u undef, tmps.getD v undef, tmps.getD x undef]) w := by
  simp [results, h]

theorem tok_parts (rem : List UInt8) (h : rem ≠ []) : ∃ tl, (fld rem).length + tl.length = tokLen rem ∧ rem.take (tokLen rem) = fld rem ++ tl ∧ ((tl = [] ∧ fld rem ≠ [] ∧ (∀ x ∈ fld rem, isSep x = false) ∧ endB rem = false) ∨ (tl = [32] ∧ endB rem = false) ∨ (tl = [10] ∧ endB rem = true)) := by
  by_cases hi : idx rem < rem.length
  · obtain ⟨d, h1, h2⟩ := fld_sep rem hi
    have ht : tokLen rem = idx rem + 1 := by unfold tokLen; rw [if_pos hi]
    have hd : rem.drop (idx rem) = d :: rem.drop (idx rem + 1) := by
      rw [List.drop_eq_getElem_cons hi]
      congr 1
      rw [List.getElem?_eq_getElem hi] at h1
      exact Option.some.inj h1
    have he : endB rem = (d == 10) := by unfold endB; rw [h1]; rfl
    refine ⟨[d], by rw [ht]; rfl, ?_, ?_⟩
    · have e3 : fld rem ++ d :: rem.drop (idx rem + 1) = rem := by rw [← hd]; exact (fld_drop rem).symm
      have e4 : (fld rem ++ d :: rem.drop (idx rem + 1)).take ((fld rem).length + 1) = fld rem ++ [d] := by rw [List.take_length_add_append]; rfl
      rw [e3] at e4
      rw [ht]
      exact e4
    · unfold isSep at h2
      simp only [Bool.or_eq_true, beq_iff_eq] at h2
      rcases h2 with rfl | rfl
      · exact Or.inr (Or.inl ⟨rfl, he⟩)
      · exact Or.inr (Or.inr ⟨rfl, he⟩)
  · have hl := idx_le rem
    have hil : idx rem = rem.length := by omega
    have ht : tokLen rem = rem.length := by unfold tokLen; rw [if_neg hi]
    have hf : fld rem = rem := by
      have e := fld_drop rem
      rw [hil, List.drop_length, List.append_nil] at e
      exact e.symm
    refine ⟨[], by rw [ht, hf]; rfl, by rw [ht, hf, List.take_length, List.append_nil], Or.inl ⟨rfl, by rw [hf]; exact h, fun x hx => fld_clean rem x hx, ?_⟩⟩
    unfold endB
    rw [hil, List.getElem?_eq_none (Nat.le_refl _)]
    rfl

theorem own_frT {w w' : World} {Bs e n : Nat} {v : Value} {xs : List Value} (h : w.ownsRow Bs e 1 v n xs) (hf : FrT w w') (h1 : e ≠ 65) (h2 : e ≠ 58) (h3 : e ≠ 5) : w'.ownsRow Bs e 1 v n xs := by
  refine ⟨h.1, ?_⟩
  rcases h.2 with h0 | ⟨g, cap, cur, hv, hb, hg, rest⟩
  · exact Or.inl h0
  · exact Or.inr ⟨g, cap, cur, hv, hb, hf g cur e hg h1 h2 h3, rest⟩

theorem own_bel {w w' : World} {Bs e n : Nat} {v : Value} {xs : List Value} (h : w.ownsRow Bs e 1 v n xs) (hb : Below w.heap.size w w') : w'.ownsRow Bs e 1 v n xs := by
  refine ⟨h.1, ?_⟩
  rcases h.2 with h0 | ⟨g, cap, cur, hv, hB, hg, rest⟩
  · exact Or.inl h0
  · exact Or.inr ⟨g, cap, cur, hv, hB, (hb.block g (lt_of_block hg)).trans hg, rest⟩

theorem own_grown {w w' : World} {Bs e e' n n' : Nat} {v v' : Value} {xs xs' : List Value} (h : w.ownsRow Bs e 1 v n xs) (h' : w.ownsRow Bs e' 1 v' n' xs') (hne : e ≠ e') (hg : w.grownBy w' v'.ownBlock) : w'.ownsRow Bs e 1 v n xs := by
  refine ⟨h.1, ?_⟩
  rcases h.2 with h0 | ⟨g, cap, cur, hv, hB, hgb, rest⟩
  · exact Or.inl h0
  · refine Or.inr ⟨g, cap, cur, hv, hB, (hg.block g (lt_of_block hgb) ?_).trans hgb, rest⟩
    intro hx
    rcases h'.2 with ⟨rfl, _⟩ | ⟨g', cap', cur', rfl, _, hg', _⟩
    · simp [Value.ownBlock] at hx
    · simp only [Value.ownBlock, Option.some.injEq] at hx
      subst hx
      exact block_ne hgb hg' hne rfl

theorem vrow_own {α : Type} {enc : α → Value} {w : World} {Bs e : Nat} {v : Value} {T : List α} (h : w.ownsRow Bs e 1 v T.length (T.map enc)) : VRow enc w v T := by
  rcases h.2 with ⟨h1, h2⟩ | ⟨g, cap, cur, hv, _, hg, hc, _, hs, ht⟩
  · exact Or.inl ⟨List.eq_nil_of_length_eq_zero h2, h1⟩
  · refine Or.inr ⟨g, 0, cap, hv, hc, fun j f hf => ?_⟩
    have hjl : j < T.length := (List.getElem?_eq_some_iff.1 hf).1
    rw [Nat.mul_one] at ht
    rw [cell_of_row w g _ _ e (0, 0) hg, ← Array.getElem?_toList, Nat.zero_add, ← List.getElem?_take_of_lt (l := cur.toList) hjl, ht, List.getElem?_map, hf]
    rfl

theorem Tryf.info9 : (Tryf.prog.info? 9).map (fun i => (i.zero, i.size, i.bytes)) = some (some (.string ⟨#[]⟩), 1, 16) := by kernel_rfl
theorem Tryf.info4 : (Tryf.prog.info? 4).map (fun i => (i.zero, i.size, i.bytes)) = some (some (.bool false), 1, 1) := by kernel_rfl

/-- The reader's blocks stay. -/
theorem RSt.same {w w' : World} {Bs M S R : Nat} {src : ByteArray} {rem : List UInt8} {ev : Value} (h : RSt w Bs M S R src rem ev) (hb : ∀ (g : Nat) (c : Array Value) (T : TypeId), w.heap[g]? = some (.cells c T (0, 0)) → T = 65 ∨ T = 58 ∨ T = 5 ∨ T = 50 → w'.heap[g]? = some (.cells c T (0, 0))) : RSt w' Bs M S R src rem ev := by
  obtain ⟨cm, hM⟩ := h.mb
  have hM' := hb M cm 50 hM (by simp)
  obtain ⟨B, N, st, en, i, tok, eof, emp, sc, cur, X, hsc, a⟩ := h.st
  obtain ⟨pr, hR⟩ := hsc.hR
  exact ⟨by rw [World.cell?_of_block (w := w) (hM'.trans hM.symm)]; exact h.m, ⟨cm, hM'⟩, ⟨B, N, st, en, i, tok, eof, emp, sc, cur, X, ⟨hb S _ 65 hsc.hS (by simp), ⟨pr, hb R _ 58 hR (by simp)⟩, hb B _ 5 hsc.hB (by simp), hsc.hN⟩, a⟩, h.hS, h.hR⟩

theorem RSt.grown {w w' : World} {Bs M S R e n : Nat} {src : ByteArray} {rem : List UInt8} {ev v : Value} {xs : List Value} (h : RSt w Bs M S R src rem ev) (ho : w.ownsRow Bs e 1 v n xs) (he : e = 9 ∨ e = 4) (hg : w.grownBy w' v.ownBlock) : RSt w' Bs M S R src rem ev := by
  refine h.same fun g c T hgb hT => (hg.block g (lt_of_block hgb) ?_).trans hgb
  intro hx
  rcases ho.2 with ⟨rfl, _⟩ | ⟨g', cap', cur', rfl, _, hg', _⟩
  · simp [Value.ownBlock] at hx
  · simp only [Value.ownBlock, Option.some.injEq] at hx
    subst hx
    exact block_ne hgb hg' (by rcases he with rfl | rfl <;> rcases hT with rfl | rfl | rfl | rfl <;> decide) rfl

theorem RSt.below {w w' : World} {Bs M S R : Nat} {src : ByteArray} {rem : List UInt8} {ev : Value} (h : RSt w Bs M S R src rem ev) (hb : Below w.heap.size w w') : RSt w' Bs M S R src rem ev :=
  h.same fun g _ _ hgb _ => (hb.block g (lt_of_block hgb)).trans hgb

set_option maxHeartbeats 16000000 in
set_option maxRecDepth 1000000 in
theorem readAll_any (wi : World) (ev : Value) (m : Int) (gl : Gl wi ev m) (src : ByteArray) (hsrc : src.size ≤ 1048576) (w : World) (M S R : Nat) (hw : Hid (Below wi.heap.size wi w)) (hR : Hid (RSt w wi.heap.size M S R src src.data.toList ev)) :
    Calls Tryf.prog 7 #[.pointer (some ⟨M, 0, none⟩), .int .i64 src.size] w fun e w' => ∃ tv evv, e = .returned (.tuple #[tv, evv, .bool (read src.data.toList).2, .bool true]) ∧ VRow encS w' tv ((read src.data.toList).1.map (·.1)) ∧ VRow Value.bool w' evv ((read src.data.toList).1.map (·.2)) ∧ Below wi.heap.size wi w' := by
  obtain ⟨i9, hi9, z9a, z9b, z9c⟩ := info_parts Tryf.info9
  obtain ⟨i4, hi4, z4a, z4b, z4c⟩ := info_parts Tryf.info4
  obtain ⟨rd0, hrd⟩ : ∃ r, read src.data.toList = r := ⟨_, rfl⟩
  rw [hrd]
  replace hrd : Hid (_) := hrd
  have h10 := gl.ten
  replace gl : Hid (_) := gl
  have hdl : src.data.toList.length = src.size := Array.length_toList
  go_enter Tryf.func7, Tryf.ntmps7
  go_wp2
  go_loopg [10, 8, 9] src.size (fun q kv tv evv wr => ∃ (k : Nat) (l : List (List UInt8 × Bool)) (rem : List UInt8), k + rem.length ≤ src.size ∧ rem.length ≤ q ∧ kv = .int .i64 k ∧ l.length ≤ k ∧ Hid (rd0 = (l ++ (read rem).1, (read rem).2)) ∧ Hid (RSt wr wi.heap.size M S R src rem ev) ∧ Hid (wr.ownsRow wi.heap.size 9 1 tv (l.map (·.1)).length ((l.map (·.1)).map encS)) ∧ Hid (wr.ownsRow wi.heap.size 4 1 evv (l.map (·.2)).length ((l.map (·.2)).map Value.bool)) ∧ Hid (Below wi.heap.size wi wr))
  case atStart => exact ⟨0, [], src.data.toList, by omega, by omega, rfl, by simp, by show _ = _; rw [← hrd.out]; rfl, hR, World.ownsRow_nil _ _ _ _, World.ownsRow_nil _ _ _ _, hw⟩
  case round =>
    obtain ⟨k, l, rem, hk, hq, rfl, hlk, HD, HS, HT, HE, HB⟩ := hrel
    have hsz := HB.out.size
    have hkn : (k : Int) ≤ (src.size : Int) := by omega
    have hkn' : decide ((k : Int) ≤ (src.size : Int)) = true := by simp; omega
    have SA : Hid (_) := step_any wr wi.heap.size M S R src rem ev m (gl.out.below HB.out) h10 hsz (by omega) hsrc HS.out
    go_wp2_with fail
    refine Calls.mono SA.out ?_
    rintro e w1 ⟨hfr, hb1, hcase⟩
    have HT1 : Hid (w1.ownsRow wi.heap.size 9 1 u8 (l.map (·.1)).length ((l.map (·.1)).map encS)) := own_frT HT.out hfr (by decide) (by decide) (by decide)
    have HE1 : Hid (w1.ownsRow wi.heap.size 4 1 u9 (l.map (·.2)).length ((l.map (·.2)).map Value.bool)) := own_frT HE.out hfr (by decide) (by decide) (by decide)
    have HB1 : Hid (Below wi.heap.size wi w1) := HB.out.trans hb1
    have hsz1 := HB1.out.size
    clear hfr hb1 SA
    rcases hcase with ⟨h0, rfl⟩ | ⟨h0, rfl, hrs, B, st, c, h3, hc1, hc2, hby⟩
    · have HD2 : Hid (rd0 = (l, false)) := by
        show _ = _
        rw [HD.out, h0, read_nil]; simp
      obtain ⟨x1, x2, x3, hx⟩ : ∃ ao nn cp, u8 = .slice ao nn cp := by
        rcases HT1.out.2 with ⟨h, hn⟩ | ⟨g, cp, cur, h, _⟩
        · exact ⟨_, _, _, h⟩
        · exact ⟨_, _, _, h⟩
      obtain ⟨y1, y2, y3, hy⟩ : ∃ ao nn cp, u9 = .slice ao nn cp := by
        rcases HE1.out.2 with ⟨h, hn⟩ | ⟨g, cp, cur, h, _⟩
        · exact ⟨_, _, _, h⟩
        · exact ⟨_, _, _, h⟩
      subst hx hy
      go_wp2
      (try simp only [Exit.inBlock, Exit.then])
      refine bodyPost_ret (results_tmp4 rfl _ _ _) rfl ?_
      rw [HD2.out]
      exact ⟨_, _, rfl, vrow_own HT1.out, vrow_own HE1.out, HB1.out⟩
    · obtain ⟨tl, t1, t2, t3⟩ := tok_parts rem h0
      have hpos := tokLen_pos rem h0
      have hle := tokLen_le rem
      rw [← t1] at h3 hc1
      rw [t2] at hby
      have ZF : Hid (_) := zzfield_any M S B st c (fld rem) tl (endB rem) w1 hrs.m h3 hc1 hc2 hby t3
      have HS1 : Hid (_) := hrs
      clear h3 hby hrs t3
      go_wp2_with fail
      refine Calls.mono ZF.out ?_
      rintro e w2 ⟨hE, hb2⟩
      have HT2 : Hid (w2.ownsRow wi.heap.size 9 1 u8 (l.map (·.1)).length ((l.map (·.1)).map encS)) := own_bel HT1.out hb2
      have HE2 : Hid (w2.ownsRow wi.heap.size 4 1 u9 (l.map (·.2)).length ((l.map (·.2)).map Value.bool)) := own_bel HE1.out hb2
      have HS2 : Hid (_) := HS1.out.below hb2
      have HB2 : Hid (Below wi.heap.size wi w2) := HB1.out.trans (hb2.mono hsz1)
      have hsz2 := HB2.out.size
      clear hb2 ZF HT1 HE1 HS1 HB1
      obtain ⟨x1, x2, x3, hx⟩ : ∃ ao nn cp, u8 = .slice ao nn cp := by
        rcases HT2.out.2 with ⟨h, hn⟩ | ⟨g, cp, cur, h, _⟩
        · exact ⟨_, _, _, h⟩
        · exact ⟨_, _, _, h⟩
      obtain ⟨y1, y2, y3, hy⟩ : ∃ ao nn cp, u9 = .slice ao nn cp := by
        rcases HE2.out.2 with ⟨h, hn⟩ | ⟨g, cp, cur, h, _⟩
        · exact ⟨_, _, _, h⟩
        · exact ⟨_, _, _, h⟩
      subst hx hy
      rcases hE with ⟨hok, rfl⟩ | ⟨hok, t, v, rfl⟩
      · have HD2 : Hid (rd0 = ((l ++ [(fld rem, endB rem)]) ++ (read (rem.drop (tokLen rem))).1, (read (rem.drop (tokLen rem))).2)) := by
          show _ = _
          rw [HD.out, read_ok rem h0 hok]; simp
        generalize fld rem = f at *
        generalize endB rem = b at *
        have hll : (l.map (·.1)).length = l.length := List.length_map _
        have hll2 : (l.map (·.2)).length = l.length := List.length_map _
        have hm1 : (l.map (·.1)).length + 1 ≤ maxLen := by rw [hll]; unfold maxLen; omega
        have hm2 : ((l.map (·.1)).length + 1) * 16 ≤ 140737488355328 := by rw [hll]; omega
        have hm3 : (l.map (·.2)).length + 1 ≤ maxLen := by rw [hll2]; unfold maxLen; omega
        have hm4 : ((l.map (·.2)).length + 1) * 1 ≤ 140737488355328 := by rw [hll2]; omega
        replace hll : Hid (_) := hll
        replace hll2 : Hid (_) := hll2
        generalize hT0 : (l.map (·.1)) = T0 at *
        generalize hE0 : (l.map (·.2)) = E0 at *
        replace hT0 : Hid (_) := hT0
        replace hE0 : Hid (_) := hE0
        go_wp2_with (at_builtin; refine wpList_append_own _ rfl _ _ 23 rfl wi.heap.size 9 i9 _ 1 16 Tryf.underlying23 hi9 z9a z9b z9c rfl (by decide) _ _ _ rfl (HT2.out.alloc _) ⟨w2.heap.size, 0, none⟩ 1 1 [.string ⟨f.toArray⟩] rfl rfl (cells_new_at w2 _ [.string ⟨f.toArray⟩] 9 rfl) (by intro u hu; simp at hu; subst hu; rfl) hm1 hm2 (by simp; omega) ?_)
        intro v3 w3 ho3 hg3 _
        have HT3 : Hid (w3.ownsRow wi.heap.size 9 1 v3 (T0 ++ [f]).length ((T0 ++ [f]).map encS)) := by
          show w3.ownsRow _ _ _ _ _ _
          rw [List.length_append, List.map_append]
          exact ho3
        have HE3 : Hid (w3.ownsRow wi.heap.size 4 1 (.slice y1 y2 y3) E0.length (E0.map Value.bool)) := own_grown (HE2.out.alloc _) (HT2.out.alloc _) (by decide) hg3
        have HS3 : Hid (RSt w3 wi.heap.size M S R src (rem.drop (tokLen rem)) ev) := (HS2.out.below ((Below.refl _ w2).alloc (Nat.le_refl _) _)).grown (HT2.out.alloc _) (Or.inl rfl) hg3
        have HB3 : Hid (Below wi.heap.size wi w3) := (HB2.out.alloc hsz2 _).grown hg3 (by simp; omega) (fun j e => (HT2.out.lt j e).1)
        have hsz3 := HB3.out.size
        clear ho3 hg3 HT2 HE2 HS2 HB2
        obtain ⟨x4, x5, x6, rfl⟩ : ∃ ao nn cp, v3 = .slice ao nn cp := by
          rcases HT3.out.2 with ⟨h, hn⟩ | ⟨g, cp, cur, h, _⟩
          · exact ⟨_, _, _, h⟩
          · exact ⟨_, _, _, h⟩
        go_wp2_with (at_builtin; refine wpList_append_own _ rfl _ _ 24 rfl wi.heap.size 4 i4 _ 1 1 Tryf.underlying24 hi4 z4a z4b z4c rfl (by decide) _ _ _ rfl (HE3.out.alloc _) ⟨w3.heap.size, 0, none⟩ 1 1 [.bool b] rfl rfl (cells_new_at w3 _ [.bool b] 4 rfl) (by intro u hu; simp at hu; subst hu; rfl) hm3 hm4 (by simp; omega) ?_)
        intro v4 w4 ho4 hg4 _
        have HE4 : Hid (w4.ownsRow wi.heap.size 4 1 v4 (E0 ++ [b]).length ((E0 ++ [b]).map Value.bool)) := by
          show w4.ownsRow _ _ _ _ _ _
          rw [List.length_append, List.map_append]
          exact ho4
        have HT4 : Hid (w4.ownsRow wi.heap.size 9 1 (.slice x4 x5 x6) (T0 ++ [f]).length ((T0 ++ [f]).map encS)) := own_grown (HT3.out.alloc _) (HE3.out.alloc _) (by decide) hg4
        have HS4 : Hid (RSt w4 wi.heap.size M S R src (rem.drop (tokLen rem)) ev) := (HS3.out.below ((Below.refl _ w3).alloc (Nat.le_refl _) _)).grown (HE3.out.alloc _) (Or.inr rfl) hg4
        have HB4 : Hid (Below wi.heap.size wi w4) := (HB3.out.alloc hsz3 _).grown hg4 (by simp; omega) (fun j e => (HE3.out.lt j e).1)
        clear ho4 hg4 HT3 HE3 HS3 HB3
        obtain ⟨y4, y5, y6, rfl⟩ : ∃ ao nn cp, v4 = .slice ao nn cp := by
          rcases HE4.out.2 with ⟨h, hn⟩ | ⟨g, cp, cur, h, _⟩
          · exact ⟨_, _, _, h⟩
          · exact ⟨_, _, _, h⟩
        go_wp2
        go_roundg (gk - 1)
        case measure => omega
        case rel =>
          refine ⟨k + 1, l ++ [(f, b)], rem.drop (tokLen rem), by rw [List.length_drop]; omega, by rw [List.length_drop]; omega, by go_num, by simp; omega, HD2, HS4, ?_, ?_, HB4⟩
          · show w4.ownsRow _ _ _ _ _ _
            rw [List.map_append, hT0.out]; exact HT4.out
          · show w4.ownsRow _ _ _ _ _ _
            rw [List.map_append, hE0.out]; exact HE4.out
      · have HD2 : Hid (rd0 = (l, true)) := by
          show _ = _
          rw [HD.out, read_bad rem h0 hok]; simp
        go_wp2
        (try simp only [Exit.inBlock, Exit.then])
        refine bodyPost_ret (results_tmp4 rfl _ _ _) rfl ?_
        rw [HD2.out]
        exact ⟨_, _, rfl, vrow_own HT2.out, vrow_own HE2.out, HB2.out⟩

end Go.Proofs.Qxb6613537aFmt
