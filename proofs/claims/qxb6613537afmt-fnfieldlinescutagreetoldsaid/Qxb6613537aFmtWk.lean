/-
  Scan (26): the rest of the round.
-/
import Derived.Test.Qxb6613537aFmtWi
import Derived.Test.Qxb6613537aFmtWj
namespace Go.Proofs.Qxb6613537aFmt
open Go.RowKit
open Pl

/-- What follows the test on a slot. -/
def afterIf (n : Nat) : Code → Option Code
  | .seq (.seq _ (.cond (.tmp i) p _)) rest => if i = n then some rest else match afterIf n rest with
    | some c => some c
    | none => afterIf n p
  | .seq a b => match afterIf n a with
    | some c => some c
    | none => afterIf n b
  | .block _ c => afterIf n c
  | .scope c => afterIf n c
  | .loop c => afterIf n c
  | _ => none

abbrev rPost (w0 : World) (S R B0 : Nat) (src : ByteArray) (rem : List UInt8) (ev : Value) (i : Nat) : Exit → Act → World → Prop := fun e a w' =>
  match e with
  | .normal => ∃ B N st en i' tok eof emp cur X, FR S a ∧ LS w0 w' S R B0 src rem B N st en i' tok (ErrV eof ev) emp cur X ∧ (eof = true → i' = src.size) ∧ (if eof = true then 0 else src.size - i' + 1) < src.size - i + 1
  | .ret => bodyPost Tryf.prog Tryf.f26 (ScanEnd w0 S R B0 src rem ev) .ret a w'
  | _ => False

set_option maxHeartbeats 16000000 in
set_option maxRecDepth 1000000 in
theorem scanRest (w0 : World) (S R B0 : Nat) (src : ByteArray) (rem : List UInt8) (hrem : rem.length ≤ 1048576) (ev : Value) (m : Int) (cx : Cx w0 S R B0 src ev m) (B N st en i : Nat) (tok : Value) (emp : Int) (cur : Array Value) (X : List UInt8) (w : World)
    (HL : Hid (LS w0 w S R B0 src rem B N st en i tok .nilIface emp cur X)) (a : Act) (ha : FR S a) :
    Code.wp Tryf.prog ((Tryf.f26.body.bind (afterIf 117)).getD .skip) (rPost w0 S R B0 src rem ev i) a w := by
  conv => arg 2; whnf
  obtain ⟨u, rfl⟩ := ha.open
  clear ha
  obtain ⟨⟨c0, c1, c2, c3, c4, c5, c6, c7, c8, c9, c10⟩, f3, f4, f5, f6, f7, f8, f9⟩ := sc_cells HL.out.sc.hS
  have hst := HL.out.hst
  have hen := HL.out.hen
  have hN1 := HL.out.hN1
  have hN2 := HL.out.hN2
  have hXl := HL.out.len
  by_cases h0 : st = 0
  · subst h0
    by_cases hg : en = N
    · subst hg
      have q1 : decide ((0 : Int) < 0) = false := by decide
      have q2 : ((en : Int) == (en : Int)) = true := by simp
      go_wp2_with fail
      go_quiet (fail)
      go_wp2_with fail
      have HL1 : Hid (LS w0 (w.drewN nq) S R B0 src rem B en 0 en i tok .nilIface emp cur X) := HL.out.drewN nq
      generalize w.drewN nq = w1 at *
      clear c0 c1 c2 c3 c4 c5 c6 c7 c8 c9 c10 f3 f4 f5 f6 f7 f8 f9
      obtain ⟨⟨c0, c1, c2, c3, c4, c5, c6, c7, c8, c9, c10⟩, f3, f4, f5, f6, f7, f8, f9⟩ := sc_cells HL1.out.sc.hS
      go_quiet (fail)
      have HL2 : Hid (LS w0 (w1.drewN nq) S R B0 src rem B en 0 en i tok .nilIface emp cur X) := HL1.out.drewN _
      clear c0 c1 c2 c3 c4 c5 c6 c7 c8 c9 c10 f3 f4 f5 f6 f7 f8 f9
      generalize w1.drewN nq = w2 at *
      go_upto_if 195 with fail
      refine wp_cond_true rfl ?_
      refine Code.wp_mono ?_ (scanD w0 S R B0 src rem hrem B en i tok emp cur X w2 HL2 _ ⟨rfl, rfl, rfl⟩)
      intro e a3 w3 hq
      cases e with
      | normal =>
        obtain ⟨B3, N3, st3, en3, tok3, emp3, cur3, hfr, hls, hlt3⟩ := hq
        have HL3 : Hid (_) := hls
        obtain ⟨u3, rfl⟩ := hfr.open
        clear hfr hls
        go_wp2_with fail
        refine wp_loop_once ?_
        refine Code.wp_mono ?_ (scanE w0 S R B0 src rem ev m cx _ _ _ _ i _ _ _ _ _ HL3 hlt3 _ ⟨rfl, rfl, rfl⟩ ⟨_, rfl⟩ 2 rfl)
        intro e a2 w2 hq
        cases e with
        | exit x =>
          obtain ⟨rfl, hq⟩ := hq
          replace hq : Hid (_) := hq
          obtain ⟨B2, N2, st2, en2, i2, tok2, eof2, emp2, cur2, X2', hfr, hls, he, hms⟩ := hq.out
          obtain ⟨u2, rfl⟩ := hfr.open
          go_wp2
          exact hq.out
        | _ => exact hq.elim

      | _ => exact hq.elim
    · have q1 : decide ((0 : Int) < 0) = false := by decide
      have hlt : en < N := by omega
      go_wp2_with fail
      go_quiet (fail)
      go_wp2_with fail
      have HL1 : Hid (LS w0 (w.drewN nq) S R B0 src rem B N 0 en i tok .nilIface emp cur X) := HL.out.drewN nq
      generalize w.drewN nq = w1 at *
      clear c0 c1 c2 c3 c4 c5 c6 c7 c8 c9 c10 f3 f4 f5 f6 f7 f8 f9
      obtain ⟨⟨c0, c1, c2, c3, c4, c5, c6, c7, c8, c9, c10⟩, f3, f4, f5, f6, f7, f8, f9⟩ := sc_cells HL1.out.sc.hS
      have z1 : ((en : Int) == (N : Int)) = false := by rw [beq_eq_false_iff_ne]; omega
      go_quiet (fail)
      have HL9 : Hid (LS w0 (w1.drewN nq) S R B0 src rem B N 0 en i tok .nilIface emp cur X) := HL1.out.drewN _
      clear c0 c1 c2 c3 c4 c5 c6 c7 c8 c9 c10 f3 f4 f5 f6 f7 f8 f9
      generalize w1.drewN nq = w9 at *
      go_wp2_with fail
      refine wp_loop_once ?_
      refine Code.wp_mono ?_ (scanE w0 S R B0 src rem ev m cx _ _ _ _ i _ _ _ _ _ HL9 hlt _ ⟨rfl, rfl, rfl⟩ ⟨_, rfl⟩ 2 rfl)
      intro e a2 w2 hq
      cases e with
      | exit x =>
        obtain ⟨rfl, hq⟩ := hq
        replace hq : Hid (_) := hq
        obtain ⟨B2, N2, st2, en2, i2, tok2, eof2, emp2, cur2, X2', hfr, hls, he, hms⟩ := hq.out
        obtain ⟨u2, rfl⟩ := hfr.open
        go_wp2
        exact hq.out
      | _ => exact hq.elim
  · have q1 : decide ((0 : Int) < (st : Int)) = true := by simp; omega
    have q1' : decide (0 < st) = true := by simp; omega
    by_cases hg : en = N
    · have q2 : ((en : Int) == (N : Int)) = true := by rw [beq_iff_eq]; omega
      go_wp2_with fail
      go_quiet (fail)
      have HL1 : Hid (LS w0 (w.drewN nq) S R B0 src rem B N st en i tok .nilIface emp cur X) := HL.out.drewN nq
      clear c0 c1 c2 c3 c4 c5 c6 c7 c8 c9 c10 f3 f4 f5 f6 f7 f8 f9
      generalize w.drewN nq = w1 at *
      go_upto_if 153 with fail
      refine wp_cond_true rfl ?_
      refine Code.wp_mono ?_ (scanC w0 S R B0 src rem B N st en i tok emp cur X w1 HL1 _ ⟨rfl, rfl, rfl⟩)
      intro e a3 w3 hq
      cases e with
      | normal =>
        obtain ⟨B3, tok3, emp3, cur3, hfr, hls⟩ := hq
        have HL3 : Hid (_) := hls
        obtain ⟨u3, rfl⟩ := hfr.open
        clear hfr hls
        have hlt : X.length < N := by omega
        go_wp2_with fail
        obtain ⟨⟨c0, c1, c2, c3, c4, c5, c6, c7, c8, c9, c10⟩, f3, f4, f5, f6, f7, f8, f9⟩ := sc_cells HL3.out.sc.hS
        have z1 : ((X.length : Int) == (N : Int)) = false := by rw [beq_eq_false_iff_ne]; omega
        go_quiet (fail)
        have HL9 : Hid (LS w0 (w3.drewN nq) S R B0 src rem B3 N 0 X.length i tok3 .nilIface emp3 cur3 X) := HL3.out.drewN _
        clear c0 c1 c2 c3 c4 c5 c6 c7 c8 c9 c10 f3 f4 f5 f6 f7 f8 f9
        generalize w3.drewN nq = w9 at *
        go_wp2_with fail
        refine wp_loop_once ?_
        refine Code.wp_mono ?_ (scanE w0 S R B0 src rem ev m cx _ _ _ _ i _ _ _ _ _ HL9 hlt _ ⟨rfl, rfl, rfl⟩ ⟨_, rfl⟩ 2 rfl)
        intro e a2 w2 hq
        cases e with
        | exit x =>
          obtain ⟨rfl, hq⟩ := hq
          replace hq : Hid (_) := hq
          obtain ⟨B2, N2, st2, en2, i2, tok2, eof2, emp2, cur2, X2', hfr, hls, he, hms⟩ := hq.out
          obtain ⟨u2, rfl⟩ := hfr.open
          go_wp2
          exact hq.out
        | _ => exact hq.elim
      | _ => exact hq.elim
    · have q2 : ((en : Int) == (N : Int)) = false := by rw [beq_eq_false_iff_ne]; omega
      have hlt : en < N := by omega
      by_cases hh : N / 2 < st
      · have q3 : decide ((N : Int) / 2 < (st : Int)) = true := by simp; omega
        have q4 : decide ((N : Int).tdiv 2 < (st : Int)) = true := by
          rw [Int.tdiv_eq_ediv_of_nonneg (by omega)]; exact q3
        go_wp2_with fail
        go_quiet (fail)
        have HL1 : Hid (LS w0 (w.drewN nq) S R B0 src rem B N st en i tok .nilIface emp cur X) := HL.out.drewN nq
        clear c0 c1 c2 c3 c4 c5 c6 c7 c8 c9 c10 f3 f4 f5 f6 f7 f8 f9
        generalize w.drewN nq = w1 at *
        go_upto_if 153 with fail
        refine wp_cond_true rfl ?_
        refine Code.wp_mono ?_ (scanC w0 S R B0 src rem B N st en i tok emp cur X w1 HL1 _ ⟨rfl, rfl, rfl⟩)
        intro e a3 w3 hq
        cases e with
        | normal =>
          obtain ⟨B3, tok3, emp3, cur3, hfr, hls⟩ := hq
          have HL3 : Hid (_) := hls
          obtain ⟨u3, rfl⟩ := hfr.open
          clear hfr hls
          have hlt : X.length < N := by omega
          go_wp2_with fail
          obtain ⟨⟨c0, c1, c2, c3, c4, c5, c6, c7, c8, c9, c10⟩, f3, f4, f5, f6, f7, f8, f9⟩ := sc_cells HL3.out.sc.hS
          have z1 : ((X.length : Int) == (N : Int)) = false := by rw [beq_eq_false_iff_ne]; omega
          go_quiet (fail)
          have HL9 : Hid (LS w0 (w3.drewN nq) S R B0 src rem B3 N 0 X.length i tok3 .nilIface emp3 cur3 X) := HL3.out.drewN _
          clear c0 c1 c2 c3 c4 c5 c6 c7 c8 c9 c10 f3 f4 f5 f6 f7 f8 f9
          generalize w3.drewN nq = w9 at *
          go_wp2_with fail
          refine wp_loop_once ?_
          refine Code.wp_mono ?_ (scanE w0 S R B0 src rem ev m cx _ _ _ _ i _ _ _ _ _ HL9 hlt _ ⟨rfl, rfl, rfl⟩ ⟨_, rfl⟩ 2 rfl)
          intro e a2 w2 hq
          cases e with
          | exit x =>
            obtain ⟨rfl, hq⟩ := hq
            replace hq : Hid (_) := hq
            obtain ⟨B2, N2, st2, en2, i2, tok2, eof2, emp2, cur2, X2', hfr, hls, he, hms⟩ := hq.out
            obtain ⟨u2, rfl⟩ := hfr.open
            go_wp2
            exact hq.out
          | _ => exact hq.elim
        | _ => exact hq.elim
      · have q3 : decide ((N : Int) / 2 < (st : Int)) = false := by simp; omega
        have q4 : decide ((N : Int).tdiv 2 < (st : Int)) = false := by
          rw [Int.tdiv_eq_ediv_of_nonneg (by omega)]; exact q3
        go_wp2_with fail
        go_quiet (fail)
        go_wp2_with fail
        have HL1 : Hid (LS w0 (w.drewN nq) S R B0 src rem B N st en i tok .nilIface emp cur X) := HL.out.drewN nq
        generalize w.drewN nq = w1 at *
        clear c0 c1 c2 c3 c4 c5 c6 c7 c8 c9 c10 f3 f4 f5 f6 f7 f8 f9
        obtain ⟨⟨c0, c1, c2, c3, c4, c5, c6, c7, c8, c9, c10⟩, f3, f4, f5, f6, f7, f8, f9⟩ := sc_cells HL1.out.sc.hS
        have z1 : ((en : Int) == (N : Int)) = false := by rw [beq_eq_false_iff_ne]; omega
        go_quiet (fail)
        have HL9 : Hid (LS w0 (w1.drewN nq) S R B0 src rem B N st en i tok .nilIface emp cur X) := HL1.out.drewN _
        clear c0 c1 c2 c3 c4 c5 c6 c7 c8 c9 c10 f3 f4 f5 f6 f7 f8 f9
        generalize w1.drewN nq = w9 at *
        go_wp2_with fail
        refine wp_loop_once ?_
        refine Code.wp_mono ?_ (scanE w0 S R B0 src rem ev m cx _ _ _ _ i _ _ _ _ _ HL9 hlt _ ⟨rfl, rfl, rfl⟩ ⟨_, rfl⟩ 2 rfl)
        intro e a2 w2 hq
        cases e with
        | exit x =>
          obtain ⟨rfl, hq⟩ := hq
          replace hq : Hid (_) := hq
          obtain ⟨B2, N2, st2, en2, i2, tok2, eof2, emp2, cur2, X2', hfr, hls, he, hms⟩ := hq.out
          obtain ⟨u2, rfl⟩ := hfr.open
          go_wp2
          exact hq.out
        | _ => exact hq.elim

end Go.Proofs.Qxb6613537aFmt
