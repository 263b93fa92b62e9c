/-
  Scan (26): the round, the loop, Scan itself.
-/
import Derived.Test.Qxb6613537aFmtWk
namespace Go.Proofs.Qxb6613537aFmt
open Go.RowKit
open Pl

def mu (src : ByteArray) (eof : Bool) (i : Nat) : Nat := if eof = true then 0 else src.size - i + 1

abbrev nPost (w0 : World) (S R B0 : Nat) (src : ByteArray) (rem : List UInt8) (ev : Value) (q : Nat) : Exit → Act → World → Prop := fun e a w' =>
  match e with
  | .normal => ∃ B N st en i tok eof emp cur X, FR S a ∧ LS w0 w' S R B0 src rem B N st en i tok (ErrV eof ev) emp cur X ∧ (eof = true → i = src.size) ∧ mu src eof i < q
  | .ret => bodyPost Tryf.prog Tryf.f26 (ScanEnd w0 S R B0 src rem ev) .ret a w'
  | _ => False

theorem adv_zero_eof (X : List UInt8) (h : adv X true = 0) : X = [] := by
  unfold adv at h
  split at h
  · omega
  · exact List.eq_nil_of_length_eq_zero (by simpa using h)

set_option maxHeartbeats 16000000 in
set_option maxRecDepth 1000000 in
theorem scanRound (w0 : World) (S R B0 : Nat) (src : ByteArray) (rem : List UInt8) (hrem : rem.length ≤ 1048576) (ev : Value) (m : Int) (cx : Cx w0 S R B0 src ev m) (B N st en i : Nat) (tok : Value) (eof : Bool) (emp : Int) (cur : Array Value) (X : List UInt8) (w : World)
    (HL : Hid (LS w0 w S R B0 src rem B N st en i tok (ErrV eof ev) emp cur X)) (HE : Hid (eof = true → i = src.size)) (a : Act) (ha : FR S a) :
    Code.wp Tryf.prog ((Tryf.f26.body.bind firstLoop).getD .skip) (nPost w0 S R B0 src rem ev (mu src eof i)) a w := by
  conv => arg 2; whnf
  obtain ⟨u, rfl⟩ := ha.open
  clear ha
  obtain ⟨⟨c0, c1, c2, c3, c4, c5, c6, c7, c8, c9, c10⟩, f3, f4, f5, f6, f7, f8, f9⟩ := sc_cells HL.out.sc.hS
  have hst := HL.out.hst
  obtain ⟨ty, pe, hev⟩ := cx.hev
  cases eof
  · simp only [ErrV, Bool.false_eq_true, if_false] at c7
    by_cases hlt : st < en
    · have q1 : decide ((st : Int) < (en : Int)) = true := by simp; omega
      have q2 : decide (st < en) = true := by simp; omega
      go_wp2_with fail
      go_quiet (fail)
      have HL1 : Hid (LS w0 (w.drewN nq) S R B0 src rem B N st en i tok (ErrV false ev) emp cur X) := HL.out.drewN nq
      clear c0 c1 c2 c3 c4 c5 c6 c7 c8 c9 c10 f3 f4 f5 f6 f7 f8 f9
      generalize w.drewN nq = w1 at *
      go_upto_if 33 with fail
      refine wp_cond_true rfl ?_
      refine Code.wp_mono ?_ (scanA w0 S R B0 src rem ev m cx B N st en i tok false emp cur X w1 HL1 HE (Or.inl hlt) _ ⟨rfl, rfl, rfl⟩)
      intro e a3 w3 hq
      cases e with
      | normal =>
        obtain ⟨tok3, hfr, hls, hadv⟩ := hq
        have HL3 : Hid (LS w0 w3 S R B0 src rem B N st en i tok3 .nilIface emp cur X) := hls
        obtain ⟨u3, rfl⟩ := hfr.open
        clear hfr hls
        obtain ⟨⟨c0, c1, c2, c3, c4, c5, c6, c7, c8, c9, c10⟩, f3, f4, f5, f6, f7, f8, f9⟩ := sc_cells HL3.out.sc.hS
        go_upto_if 117 with fail
        refine wp_cond_false rfl ?_
        refine wp_skip ?_
        simp only [Exit.then]
        apply_assumption
        refine Code.wp_mono ?_ (scanRest w0 S R B0 src rem hrem ev m cx B N st en i tok3 emp cur X w3 HL3 _ ⟨rfl, rfl, rfl⟩)
        intro e a4 w4 hq
        cases e with
        | normal => exact hq
        | ret => exact hq
        | _ => exact hq.elim
      | ret => exact hq
      | _ => exact hq.elim
    · have q1 : decide ((st : Int) < (en : Int)) = false := by simp; omega
      have q2 : decide (st < en) = false := by simp; omega
      go_wp2_with fail
      go_quiet (fail)
      have HL1 : Hid (LS w0 (w.drewN nq) S R B0 src rem B N st en i tok .nilIface emp cur X) := HL.out.drewN nq
      clear c0 c1 c2 c3 c4 c5 c6 c7 c8 c9 c10 f3 f4 f5 f6 f7 f8 f9
      generalize w.drewN nq = w1 at *
      obtain ⟨⟨c0, c1, c2, c3, c4, c5, c6, c7, c8, c9, c10⟩, f3, f4, f5, f6, f7, f8, f9⟩ := sc_cells HL1.out.sc.hS
      go_upto_if 117 with fail
      refine wp_cond_false rfl ?_
      refine wp_skip ?_
      simp only [Exit.then]
      apply_assumption
      refine Code.wp_mono ?_ (scanRest w0 S R B0 src rem hrem ev m cx B N st en i tok emp cur X w1 HL1 _ ⟨rfl, rfl, rfl⟩)
      intro e a4 w4 hq
      cases e with
      | normal => exact hq
      | ret => exact hq
      | _ => exact hq.elim
  · simp only [ErrV, if_true, hev] at c7
    have hisz := HE.out rfl
    by_cases hlt : st < en
    case' pos =>
      have q1 : decide ((st : Int) < (en : Int)) = true := by simp; omega
      have q2 : decide (st < en) = true := by simp; omega
    case' neg =>
      have q1 : decide ((st : Int) < (en : Int)) = false := by simp; omega
      have q2 : decide (st < en) = false := by simp; omega
    all_goals
      go_wp2_with fail
      go_quiet (fail)
      have HL1 : Hid (LS w0 (w.drewN nq) S R B0 src rem B N st en i tok (ErrV true ev) emp cur X) := HL.out.drewN nq
      clear c0 c1 c2 c3 c4 c5 c6 c7 c8 c9 c10 f3 f4 f5 f6 f7 f8 f9
      generalize w.drewN nq = w1 at *
      go_upto_if 33 with fail
      refine wp_cond_true rfl ?_
      refine Code.wp_mono ?_ (scanA w0 S R B0 src rem ev m cx B N st en i tok true emp cur X w1 HL1 (fun _ => hisz) (Or.inr rfl) _ ⟨rfl, rfl, rfl⟩)
      intro e a3 w3 hq
      cases e with
      | normal =>
        obtain ⟨tok3, hfr, hls, hadv⟩ := hq
        have hX := adv_zero_eof X hadv
        have hrem0 : Hid (rem = []) := by
          show rem = []
          rw [← hls.eq, hX, hisz]
          exact List.drop_eq_nil_of_le (by rw [Array.length_toList]; exact Nat.le_refl _)
        have HL3 : Hid (LS w0 w3 S R B0 src rem B N st en i tok3 (ErrV true ev) emp cur X) := hls
        obtain ⟨u3, rfl⟩ := hfr.open
        clear hfr hls
        obtain ⟨⟨c0, c1, c2, c3, c4, c5, c6, c7, c8, c9, c10⟩, f3, f4, f5, f6, f7, f8, f9⟩ := sc_cells HL3.out.sc.hS
        simp only [ErrV, if_true, hev] at c7
        go_wp2
        refine ret26 _ _ _ rfl rfl ?_
        exact Or.inl ⟨hrem0.out, rfl, Kept.set (X := X3 S R B0) (Kept.set (X := X3 S R B0) HL3.out.kept (Or.inl rfl) _) (Or.inl rfl) _⟩
      | ret => exact hq
      | _ => exact hq.elim

theorem scanLoop (w0 : World) (S R B0 : Nat) (src : ByteArray) (rem : List UInt8) (hrem : rem.length ≤ 1048576) (ev : Value) (m : Int) (cx : Cx w0 S R B0 src ev m) (B N st en i : Nat) (tok : Value) (eof : Bool) (emp : Int) (cur : Array Value) (X : List UInt8) (w : World)
    (HL : LS w0 w S R B0 src rem B N st en i tok (ErrV eof ev) emp cur X) (HE : eof = true → i = src.size) (a : Act) (ha : FR S a) (Q0 : Exit → Act → World → Prop) (hret : ∀ a w', bodyPost Tryf.prog Tryf.f26 (ScanEnd w0 S R B0 src rem ev) .ret a w' → Q0 .ret a w') :
    Code.wp Tryf.prog (Code.loop ((Tryf.f26.body.bind firstLoop).getD .skip)) Q0 a w := by
  refine wp_loop_ghost (fun g a w' => ∃ B N st en i tok eof emp cur X, FR S a ∧ LS w0 w' S R B0 src rem B N st en i tok (ErrV eof ev) emp cur X ∧ (eof = true → i = src.size) ∧ mu src eof i ≤ g) (mu src eof i) ⟨B, N, st, en, i, tok, eof, emp, cur, X, ha, HL, HE, Nat.le_refl _⟩ ?_
  rintro n a w' ⟨B, N, st, en, i, tok, eof, emp, cur, X, hF, hL, hE, hmu⟩
  refine Code.wp_mono ?_ (scanRound w0 S R B0 src rem hrem ev m cx B N st en i tok eof emp cur X w' hL hE a hF)
  intro e a2 w2 hq
  cases e with
  | normal =>
    obtain ⟨B, N, st, en, i, tok, eof, emp, cur, X, h1, h2, h3, h4⟩ := hq
    exact ⟨mu src eof i, by omega, B, N, st, en, i, tok, eof, emp, cur, X, h1, h2, h3, Nat.le_refl _⟩
  | ret => exact hret _ _ hq
  | _ => exact hq.elim

set_option maxHeartbeats 16000000 in
set_option maxRecDepth 1000000 in
theorem scan_any (w0 : World) (S R B0 : Nat) (src : ByteArray) (rem : List UInt8) (hrem : rem.length ≤ 1048576) (ev : Value) (m : Int) (cx : Cx w0 S R B0 src ev m) (B N st en i : Nat) (tok : Value) (eof : Bool) (emp : Int) (sc : Bool) (cur : Array Value) (X : List UInt8)
    (hS : Hid (LS w0 (w0.setCell ⟨S, 9, none⟩ (.bool true)) S R B0 src rem B N st en i tok (ErrV eof ev) emp cur X)) (HE : Hid (eof = true → i = src.size)) (h9 : w0.cell? ⟨S, 9, none⟩ = some (.bool sc)) (f9 : w0.frozen? ⟨S, 9, none⟩ = false) (h10 : w0.cell? ⟨S, 10, none⟩ = some (.bool false)) :
    Calls Tryf.prog 26 #[.pointer (some ⟨S, 0, none⟩)] w0 (ScanEnd w0 S R B0 src rem ev) := by
  go_enter Tryf.func26, Tryf.ntmps26
  go_wp2
  refine scanLoop w0 S R B0 src rem hrem ev m cx B N st en i tok eof emp cur X _ hS.out HE.out _ ⟨rfl, rfl, rfl⟩ _ ?_
  exact fun a w' h => h

end Go.Proofs.Qxb6613537aFmt
