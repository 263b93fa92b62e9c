/-
  Scan (26), its first part: a token out of what is held.
-/
import Derived.Test.Qxb6613537aFmtWf
import Derived.StillTailTactics
import Derived.Test.Qxb6613537aFmtRg
namespace Go.Proofs.Qxb6613537aFmt
open Go.RowKit
open Pl

theorem LS.drew {w0 w : World} {S R B0 : Nat} {src : ByteArray} {rem : List UInt8} {B N st en i : Nat} {tok err : Value} {emp : Int} {cur : Array Value} {X : List UInt8} (h : LS w0 w S R B0 src rem B N st en i tok err emp cur X) : LS w0 w.drew S R B0 src rem B N st en i tok err emp cur X :=
  ⟨⟨h.sc.hS, h.sc.hR, h.sc.hB, h.sc.hN⟩, h.hst, h.hen, h.hN1, h.hN2, h.hi, h.data, h.eq, h.kept.drew, h.hB⟩

/-- A callee that only makes memory. -/
theorem LS.bel {w0 w w' : World} {S R B0 : Nat} {src : ByteArray} {rem : List UInt8} {B N st en i : Nat} {tok err : Value} {emp : Int} {cur : Array Value} {X : List UInt8} (h : LS w0 w S R B0 src rem B N st en i tok err emp cur X) (hb : Below w.heap.size w w') : LS w0 w' S R B0 src rem B N st en i tok err emp cur X :=
  ⟨⟨(hb.block S (lt_of_block h.sc.hS)).trans h.sc.hS, (by obtain ⟨pr, hp⟩ := h.sc.hR; exact ⟨pr, (hb.block R (lt_of_block hp)).trans hp⟩), (hb.block B (lt_of_block h.sc.hB)).trans h.sc.hB, h.sc.hN⟩, h.hst, h.hen, h.hN1, h.hN2, h.hi, h.data, h.eq, h.kept.bel hb, h.hB⟩

/-- The scanner's own cells turn, nothing else; bytes are taken. -/
theorem LS.put {w0 w w' : World} {S R B0 : Nat} {src : ByteArray} {rem : List UInt8} {B N st en i : Nat} {tok err : Value} {emp : Int} {cur : Array Value} {X : List UInt8} (h : LS w0 w S R B0 src rem B N st en i tok err emp cur X) (n : Nat) (hn : st + n ≤ en) (tok' : Value) (emp' : Int)
    (hS : w'.heap[S]? = some (.cells (scArr R tok' B N ((st + n : Nat) : Int) en err emp' true) 65 (0, 0))) (hk : Kept w w' (fun j => j = S)) : LS w0 w' S R B0 src (rem.drop n) B N (st + n) en i tok' err emp' cur (X.drop n) := by
  have hl := h.len
  obtain ⟨pr, hR⟩ := h.sc.hR
  have hRS : R ≠ S := block_ne hR h.sc.hS (by decide)
  have hBS : B ≠ S := block_ne h.sc.hB h.sc.hS (by decide)
  refine ⟨⟨hS, ⟨pr, (hk.block R (lt_of_block hR) hRS).trans hR⟩, (hk.block B (lt_of_block h.sc.hB) hBS).trans h.sc.hB, h.sc.hN⟩, hn, h.hen, h.hN1, h.hN2, h.hi, ?_, ?_, h.kept.trans (hk.mono (fun j hj => Or.inl hj)), h.hB⟩
  · have := congrArg (List.drop n) h.data
    rw [List.drop_take, List.drop_drop] at this
    rw [show en - (st + n) = en - st - n from by omega, this]
    simp [Lib.byteCells]
  · rw [← h.eq, List.drop_append_of_le_length (by omega)]

theorem LS.same {w0 w : World} {S R B0 : Nat} {src : ByteArray} {rem : List UInt8} {B N st en i : Nat} {tok err : Value} {emp : Int} {cur : Array Value} {X : List UInt8} (h : LS w0 w S R B0 src (rem.drop 0) B N (st + 0) en i tok err emp cur (X.drop 0)) : LS w0 w S R B0 src rem B N st en i tok err emp cur X := by
  rw [List.drop_zero, List.drop_zero] at h
  exact h

/-- Behind 'advance'. -/
theorem after_adv {w0 w1 w2 : World} {S R B0 : Nat} {src : ByteArray} {rem : List UInt8} {B N st en i n nq : Nat} {tok err : Value} {emp : Int} {cur : Array Value} {X : List UInt8} (h : LS w0 w1 S R B0 src rem B N st en i tok err emp cur X) (hw : w2 = (w1.drewN nq).setCell ⟨S, 5, none⟩ (.int .i64 ((st + n : Nat) : Int))) :
    Hid (w2.heap[S]? = some (.cells (scArr R tok B N ((st + n : Nat) : Int) en err emp true) 65 (0, 0))) ∧ Hid (Kept w1 w2 (fun j => j = S)) ∧ w2.cell? ⟨S, 0, none⟩ = some (.iface 40 (.pointer (some ⟨R, 0, none⟩))) ∧ w2.cell? ⟨S, 3, none⟩ = some tok ∧ w2.cell? ⟨S, 7, none⟩ = some err ∧ w2.cell? ⟨S, 8, none⟩ = some (.int .i64 emp) ∧ w2.frozen? ⟨S, 3, none⟩ = false ∧ w2.frozen? ⟨S, 8, none⟩ = false := by
  have hS : w2.heap[S]? = some (.cells (scArr R tok B N ((st + n : Nat) : Int) en err emp true) 65 (0, 0)) := by
    rw [hw]
    exact set_block (w1.drewN nq) S 5 _ _ 65 h.sc.hS
  have hk : Kept w1 w2 (fun j => j = S) := by
    rw [hw]
    exact Kept.set (X := fun j => j = S) ((Kept.refl w1 _).drewN nq) (rfl : S = S) _
  have c := fun k => cell_of_row w2 S k _ 65 (0, 0) hS
  have f := fun k => frozen_of_row w2 S k _ 65 hS
  exact ⟨hS, hk, c 0, c 3, c 7, c 8, f 3, f 8⟩

abbrev ErrV (eof : Bool) (ev : Value) : Value := if eof = true then ev else .nilIface

abbrev aPost (w0 : World) (S R B0 : Nat) (src : ByteArray) (rem : List UInt8) (ev : Value) (B N st en i : Nat) (eof : Bool) (emp : Int) (cur : Array Value) (X : List UInt8) : Exit → Act → World → Prop := fun e a w' =>
  match e with
  | .normal => ∃ tok', FR S a ∧ LS w0 w' S R B0 src rem B N st en i tok' (ErrV eof ev) emp cur X ∧ adv X eof = 0
  | .ret => bodyPost Tryf.prog Tryf.f26 (ScanEnd w0 S R B0 src rem ev) .ret a w'
  | _ => False

set_option maxHeartbeats 16000000 in
set_option maxRecDepth 1000000 in
theorem scanA (w0 : World) (S R B0 : Nat) (src : ByteArray) (rem : List UInt8) (ev : Value) (m : Int) (cx : Cx w0 S R B0 src ev m) (B N st en i : Nat) (tok : Value) (eof : Bool) (emp : Int) (cur : Array Value) (X : List UInt8) (w : World)
    (HL : Hid (LS w0 w S R B0 src rem B N st en i tok (ErrV eof ev) emp cur X)) (HE : Hid (eof = true → i = src.size)) (hcond : st < en ∨ eof = true) (a : Act) (ha : FR S a) :
    Code.wp Tryf.prog ((Tryf.f26.body.bind (thenOf 33)).getD .skip) (aPost w0 S R B0 src rem ev B N st en i eof emp cur X) a w := by
  conv => arg 2; whnf
  obtain ⟨u, rfl⟩ := ha.open
  clear ha
  obtain ⟨⟨c0, c1, c2, c3, c4, c5, c6, c7, c8, c9, c10⟩, f3, f4, f5, f6, f7, f8, f9⟩ := sc_cells HL.out.sc.hS
  have hst := HL.out.hst
  have hen := HL.out.hen
  have hN1 := HL.out.hN1
  have hN2 := HL.out.hN2
  have hXl := HL.out.len
  have hBl : B < w.heap.size := lt_of_block HL.out.sc.hB
  obtain ⟨ty, pe, hev⟩ := cx.hev
  obtain ⟨g1, g2, g3⟩ := cx.cells HL.out.drew.kept
  by_cases hsN : st = N
  · -- all of the buffer is used up: nothing is held, the end is known
    have hX : X = [] := List.eq_nil_of_length_eq_zero (by omega)
    have hef : eof = true := by
      rcases hcond with h | h
      · omega
      · exact h
    subst hX hef hsN
    have SF : Hid (_) := splitFields_any w.drew B 0 0 [] true m g1 g2 (fun j c hj => by simp at hj) hBl (by simp) (by omega)
    rw [show adv [] true = 0 from rfl, show tokV B 0 0 0 = .slice none 0 0 from rfl] at SF
    have hse : en = st := by omega
    subst hse
    have e1 : (en == en) = true := by simp
    clear g1 g2 g3
    simp only [ErrV, if_true, hev] at c7
    go_wp2_with fail
    refine wp_region_call 22 (by kernel_rfl) (by kernel_rfl) (fun ⟨_, _, h⟩ => h) ?_
    simp only [List.take_succ_cons, List.take_zero, List.drop_succ_cons, List.drop_zero]
    repeat still_step
    try refine wpStill_nil ?_
    go_wp2_with fail
    refine Calls.mono SF.out ?_
    rintro e w1 ⟨rfl, hb1⟩
    have HL1 : Hid (LS w0 w1 S R B0 src rem B en en en i tok (ErrV true ev) emp cur []) := HL.out.drew.bel hb1
    clear hb1 SF c0 c1 c2 c3 c4 c5 c6 c7 c8 c9 c10 f3 f4 f5 f6 f7 f8 f9
    obtain ⟨⟨c0, c1, c2, c3, c4, c5, c6, c7, c8, c9, c10⟩, f3, f4, f5, f6, f7, f8, f9⟩ := sc_cells HL1.out.sc.hS
    simp only [ErrV, if_true, hev] at c7
    have AD : Hid (_) := advance_any S en en 0 w1 c5 f5 c6 (by omega) (by omega)
    go_wp2_with fail
    refine Calls.mono AD.out ?_
    rintro e w2 ⟨rfl, nq, hw2⟩
    obtain ⟨HS2, HK2, c0, c3, c7, c8, f3, f8⟩ := after_adv HL1.out hw2
    simp only [ErrV, if_true, hev] at c7
    clear hw2 AD
    go_wp2
    exact ⟨_, ⟨rfl, rfl, rfl⟩, LS.same (HL1.out.put 0 (by omega) _ emp (set_block _ _ _ _ _ _ HS2.out) (HK2.out.set rfl _)), rfl⟩
  · have SF : Hid (_) := splitFields_any w.drew B st (N - st) X eof m g1 g2 HL.out.drew.bytes hBl (by omega) (by omega)
    rw [hXl] at SF
    have e1 : (N == st) = false := by rw [beq_eq_false_iff_ne]; omega
    have e2 : ¬ N = st := by omega
    have e3 : (st : Int) ≤ (en : Int) := by omega
    have e4 : (en : Int) ≤ (N : Int) := by omega
    obtain ⟨n, hadv⟩ : ∃ n, adv X eof = n := ⟨_, rfl⟩
    rw [hadv] at SF
    have hY : Hid (0 < n → tokLen rem = n ∧ n ≤ X.length) := fun h0 => by
      rw [← hadv, ← HL.out.eq]
      exact adv_tok X _ eof (fun he => by rw [HE.out he]; exact List.drop_eq_nil_of_le (by rw [Array.length_toList]; exact Nat.le_refl _)) (by rw [hadv]; exact h0)
    have hnl : st + n ≤ en := by
      rcases Nat.eq_zero_or_pos n with h0 | h0
      · omega
      · have := (hY.out h0).2; omega
    clear g1 g2 g3
    rcases Nat.eq_zero_or_pos n with h0 | h0
    · subst h0
      rw [show tokV B st (N - st) 0 = .slice none 0 0 from rfl] at SF
      clear hY
      cases eof
      · simp only [ErrV, Bool.false_eq_true, if_false] at c7
        go_wp2_with fail
        refine wp_region_call 22 (by kernel_rfl) (by kernel_rfl) (fun ⟨_, _, h⟩ => h) ?_
        simp only [List.take_succ_cons, List.take_zero, List.drop_succ_cons, List.drop_zero]
        repeat still_step
        try refine wpStill_nil ?_
        go_wp2_with fail
        refine Calls.mono SF.out ?_
        rintro e w1 ⟨rfl, hb1⟩
        have HL1 : Hid (LS w0 w1 S R B0 src rem B N st en i tok (ErrV false ev) emp cur X) := HL.out.drew.bel hb1
        clear hb1 SF c0 c1 c2 c3 c4 c5 c6 c7 c8 c9 c10 f3 f4 f5 f6 f7 f8 f9
        obtain ⟨⟨c0, c1, c2, c3, c4, c5, c6, c7, c8, c9, c10⟩, f3, f4, f5, f6, f7, f8, f9⟩ := sc_cells HL1.out.sc.hS
        simp only [ErrV, Bool.false_eq_true, if_false] at c7
        have AD : Hid (_) := advance_any S st en 0 w1 c5 f5 c6 hnl (by omega)
        go_wp2_with fail
        refine Calls.mono AD.out ?_
        rintro e w2 ⟨rfl, nq, hw2⟩
        obtain ⟨HS2, HK2, c0, c3, c7, c8, f3, f8⟩ := after_adv HL1.out hw2
        simp only [ErrV, Bool.false_eq_true, if_false] at c7
        clear hw2 AD
        go_wp2
        exact ⟨_, ⟨rfl, rfl, rfl⟩, LS.same (HL1.out.put 0 (by omega) _ emp (set_block _ _ _ _ _ _ HS2.out) (HK2.out.set rfl _)), hadv⟩
      · simp only [ErrV, if_true, hev] at c7
        go_wp2_with fail
        refine wp_region_call 22 (by kernel_rfl) (by kernel_rfl) (fun ⟨_, _, h⟩ => h) ?_
        simp only [List.take_succ_cons, List.take_zero, List.drop_succ_cons, List.drop_zero]
        repeat still_step
        try refine wpStill_nil ?_
        go_wp2_with fail
        refine Calls.mono SF.out ?_
        rintro e w1 ⟨rfl, hb1⟩
        have HL1 : Hid (LS w0 w1 S R B0 src rem B N st en i tok (ErrV true ev) emp cur X) := HL.out.drew.bel hb1
        clear hb1 SF c0 c1 c2 c3 c4 c5 c6 c7 c8 c9 c10 f3 f4 f5 f6 f7 f8 f9
        obtain ⟨⟨c0, c1, c2, c3, c4, c5, c6, c7, c8, c9, c10⟩, f3, f4, f5, f6, f7, f8, f9⟩ := sc_cells HL1.out.sc.hS
        simp only [ErrV, if_true, hev] at c7
        have AD : Hid (_) := advance_any S st en 0 w1 c5 f5 c6 hnl (by omega)
        go_wp2_with fail
        refine Calls.mono AD.out ?_
        rintro e w2 ⟨rfl, nq, hw2⟩
        obtain ⟨HS2, HK2, c0, c3, c7, c8, f3, f8⟩ := after_adv HL1.out hw2
        simp only [ErrV, if_true, hev] at c7
        clear hw2 AD
        go_wp2
        exact ⟨_, ⟨rfl, rfl, rfl⟩, LS.same (HL1.out.put 0 (by omega) _ emp (set_block _ _ _ _ _ _ HS2.out) (HK2.out.set rfl _)), hadv⟩
    · rw [show tokV B st (N - st) n = .slice (some ⟨B, st, none⟩) n (N - st) from by unfold tokV; rw [if_neg (by omega)]] at SF
      have htl : Hid (tokLen rem = n) := (hY.out h0).1
      have hnX := (hY.out h0).2
      have hrne : Hid (rem ≠ []) := fun h => by
        have h1 := HL.out.eq
        rw [h] at h1
        have h2 := congrArg List.length h1
        rw [List.length_append] at h2
        simp only [List.length_nil] at h2
        omega
      have htk : Hid ((cur.toList.drop st).take n = Lib.byteCells (rem.take n)) := by
        show _ = _
        have h1 := congrArg (List.take n) HL.out.data
        rw [List.take_take, Nat.min_eq_left (by omega)] at h1
        rw [h1, ← HL.out.eq, List.take_append_of_le_length hnX]
        simp [Lib.byteCells]
      have hn0 : decide ((0 : Int) < (n : Int)) = true := by simp; omega
      have hn1 : decide (0 < n) = true := by simp; omega
      clear hY
      cases eof
      · simp only [ErrV, Bool.false_eq_true, if_false] at c7
        go_wp2_with fail
        refine wp_region_call 22 (by kernel_rfl) (by kernel_rfl) (fun ⟨_, _, h⟩ => h) ?_
        simp only [List.take_succ_cons, List.take_zero, List.drop_succ_cons, List.drop_zero]
        repeat still_step
        try refine wpStill_nil ?_
        go_wp2_with fail
        refine Calls.mono SF.out ?_
        rintro e w1 ⟨rfl, hb1⟩
        have HL1 : Hid (LS w0 w1 S R B0 src rem B N st en i tok (ErrV false ev) emp cur X) := HL.out.drew.bel hb1
        clear hb1 SF c0 c1 c2 c3 c4 c5 c6 c7 c8 c9 c10 f3 f4 f5 f6 f7 f8 f9
        obtain ⟨⟨c0, c1, c2, c3, c4, c5, c6, c7, c8, c9, c10⟩, f3, f4, f5, f6, f7, f8, f9⟩ := sc_cells HL1.out.sc.hS
        simp only [ErrV, Bool.false_eq_true, if_false] at c7
        have AD : Hid (_) := advance_any S st en n w1 c5 f5 c6 hnl (by omega)
        go_wp2_with fail
        refine Calls.mono AD.out ?_
        rintro e w2 ⟨rfl, nq, hw2⟩
        obtain ⟨HS2, HK2, c0, c3, c7, c8, f3, f8⟩ := after_adv HL1.out hw2
        simp only [ErrV, Bool.false_eq_true, if_false] at c7
        clear hw2 AD
        go_wp2
        refine ret26 _ _ _ rfl rfl ?_
        right
        refine ⟨hrne.out, rfl, B, N, st, en, i, false, 0, cur, X.drop n, N - st, ?_, fun h => HE.out (by first | exact h | trivial), by rw [htl.out]; omega, by omega, ?_⟩
        · rw [htl.out]
          exact HL1.out.put n hnl _ 0 (set_block _ _ _ _ _ _ (set_block _ _ _ _ _ _ HS2.out)) ((HK2.out.set rfl _).set rfl _)
        · rw [htl.out]; exact htk.out
      · simp only [ErrV, if_true, hev] at c7
        go_wp2_with fail
        refine wp_region_call 22 (by kernel_rfl) (by kernel_rfl) (fun ⟨_, _, h⟩ => h) ?_
        simp only [List.take_succ_cons, List.take_zero, List.drop_succ_cons, List.drop_zero]
        repeat still_step
        try refine wpStill_nil ?_
        go_wp2_with fail
        refine Calls.mono SF.out ?_
        rintro e w1 ⟨rfl, hb1⟩
        have HL1 : Hid (LS w0 w1 S R B0 src rem B N st en i tok (ErrV true ev) emp cur X) := HL.out.drew.bel hb1
        clear hb1 SF c0 c1 c2 c3 c4 c5 c6 c7 c8 c9 c10 f3 f4 f5 f6 f7 f8 f9
        obtain ⟨⟨c0, c1, c2, c3, c4, c5, c6, c7, c8, c9, c10⟩, f3, f4, f5, f6, f7, f8, f9⟩ := sc_cells HL1.out.sc.hS
        simp only [ErrV, if_true, hev] at c7
        have AD : Hid (_) := advance_any S st en n w1 c5 f5 c6 hnl (by omega)
        go_wp2_with fail
        refine Calls.mono AD.out ?_
        rintro e w2 ⟨rfl, nq, hw2⟩
        obtain ⟨HS2, HK2, c0, c3, c7, c8, f3, f8⟩ := after_adv HL1.out hw2
        simp only [ErrV, if_true, hev] at c7
        clear hw2 AD
        go_wp2
        refine ret26 _ _ _ rfl rfl ?_
        right
        refine ⟨hrne.out, rfl, B, N, st, en, i, true, 0, cur, X.drop n, N - st, ?_, fun h => HE.out (by first | exact h | trivial), by rw [htl.out]; omega, by omega, ?_⟩
        · rw [htl.out]
          exact HL1.out.put n hnl _ 0 (set_block _ _ _ _ _ _ (set_block _ _ _ _ _ _ HS2.out)) ((HK2.out.set rfl _).set rfl _)
        · rw [htl.out]; exact htk.out

end Go.Proofs.Qxb6613537aFmt
