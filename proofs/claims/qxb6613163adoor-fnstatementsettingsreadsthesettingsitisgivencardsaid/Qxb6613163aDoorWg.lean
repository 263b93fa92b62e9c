/-
  LEAVES of the round of (Lexer).Next's loop (22): a quoted text.
-/
import Derived.Test.Qxb6613163aDoorWf
namespace Go.Proofs.Qxb6613163aDoor
open Go.RowKit

set_option maxHeartbeats 8000000 in
set_option maxRecDepth 1000000 in
theorem quote_none (l : Lx.Lex) (q : ByteArray) (w : World) (hq : q.size ≤ 1073741824) (R : Option Lx.Tok) (k : Nat) (c : UInt8) (hlt : k < q.size)
    (hx : Hid (Lx.quoted l (q.data.toList.drop k) = none)) (HR : Hid (R = none)) (a : Act) (ha : FR8 l q k c w a) :
    Code.wp Tryd.prog ((Tryd.f22.body.bind (thenOf 162)).getD .skip) (retOnly R w) a (W2 l w) := by
  conv => arg 2; whnf
  obtain ⟨u, rfl⟩ := ha.open
  clear ha
  have hlt' : (k : Int) < (q.size : Int) := by omega
  unfold W2
  go_upto_region 23 with fail
  go_region_with (go_at_call 33; refine (quoted_none l q k _ hq hlt hx).mono ?_; rintro e w1 ⟨rfl, hbl⟩; replace hbl : Hid (Below (W2 l w).heap.size (W2 l w) w1) := ((Below.refl _ (W2 l w)).drew).trans hbl)
  all_goals
    obtain ⟨hsz, ⟨c0, c1, c2, c3, c4⟩, f0, f1, f2, f3, f4⟩ := tok_facts hbl.out
    go_wp2
    exact ret22 _ _ _ _ _ _ _ _ rfl rfl (old_block (put5_block (tok_cells hbl.out) _ _ _ _ _)) (next_none HR (Or.inr ⟨_, rfl⟩)) ((put5 (W2_below2 hbl.out) _ _ _ _ _).alloc (by simp; omega) _)

set_option maxHeartbeats 8000000 in
set_option maxRecDepth 1000000 in
theorem quote_some (l : Lx.Lex) (q : ByteArray) (w : World) (hq : q.size ≤ 1073741824) (R : Option Lx.Tok) (k : Nat) (c : UInt8) (hlt : k < q.size) (t : List UInt8) (n : Nat) (hn : n ≤ q.size)
    (hx : Hid (Lx.quoted l (q.data.toList.drop k) = some (t, n))) (b : Bool) (hqn : Hid (Lx.quotesName l c = b)) (HR : Hid (R = some (Lx.Tok.shift k ⟨if b then 119 else 115, t, b, 0, n⟩))) (a : Act) (ha : FR8 l q k c w a) :
    Code.wp Tryd.prog ((Tryd.f22.body.bind (thenOf 162)).getD .skip) (retOnly R w) a (W2 l w) := by
  conv => arg 2; whnf
  obtain ⟨u, rfl⟩ := ha.open
  clear ha
  have hlt' : (k : Int) < (q.size : Int) := by omega
  unfold W2
  go_upto_region 23 with fail
  go_region_with (go_at_call 33; refine (quoted_some l q k t n _ hq hlt hx).mono ?_; rintro e w1 ⟨rfl, hbl⟩; replace hbl : Hid (Below (W2 l w).heap.size (W2 l w) w1) := ((Below.refl _ (W2 l w)).drew).trans hbl)
  all_goals
    obtain ⟨hsz, ⟨c0, c1, c2, c3, c4⟩, f0, f1, f2, f3, f4⟩ := tok_facts hbl.out
    obtain ⟨l0, l1, l2⟩ := lex_facts hbl.out
    go_wp2_with fail
    refine (quotesName_any l c _).mono ?_
    rintro e w2 ⟨rfl, rfl⟩
    rw [hqn.out]
    cases b
    all_goals
      go_wp2
      exact ret22 _ _ _ _ _ _ _ _ rfl rfl (old_block (put5_block (tok_cells hbl.out) _ _ _ _ _)) (next_tok HR rfl (by omega) rfl) ((put5 (W2_below2 hbl.out) _ _ _ _ _).alloc (by simp; omega) _)

end Go.Proofs.Qxb6613163aDoor
