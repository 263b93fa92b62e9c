/-
  LEAVES of the round of (Lexer).Next's loop (22): a variable with a quoted name.
-/
import Derived.Test.Qxb6613163aDoorWf
namespace Go.Proofs.Qxb6613163aDoor
open Go.RowKit

set_option maxHeartbeats 8000000 in
set_option maxRecDepth 1000000 in
theorem at_quote_none (l : Lx.Lex) (q : ByteArray) (w : World) (hq : q.size ≤ 1073741824) (R : Option Lx.Tok) (k : Nat) (c : UInt8) (h2 : k + 1 < q.size) (d : UInt8) (hd : q[k + 1]'h2 = d) (hdq : ((d.toNat : Int) == 39) = true ∨ (((d.toNat : Int) == 39) = false ∧ ((d.toNat : Int) == 34) = true) ∨ (((d.toNat : Int) == 39) = false ∧ ((d.toNat : Int) == 34) = false ∧ ((d.toNat : Int) == 96) = true))
    (hs : Hid (Lib.hasPrefix (q.data.toList.drop k) [64, 64] = false)) (n : Nat) (hn : Hid (Lx.nameLen true (q.data.toList.drop (k + 1)) = n)) (h1 : ((n : Int) == 0) = true)
    (hx : Hid (Lx.quoted l (q.data.toList.drop (k + 1)) = none)) (HR : Hid (R = none)) (a : Act) (ha : FR8 l q k c w a) :
    Code.wp Tryd.prog ((Tryd.f22.body.bind (thenOf 204)).getD .skip) (retOnly R w) a (W2 l w) := by
  conv => arg 2; whnf
  obtain ⟨u, rfl⟩ := ha.open
  clear ha
  have hlt' : (k : Int) < (q.size : Int) := by omega
  unfold W2
  have h2' : (k : Int) + 1 < (q.size : Int) := by omega
  rcases hdq with e1 | ⟨e1, e2⟩ | ⟨e1, e2, e3⟩
  all_goals
    go_wp2_with fail
    refine (pre_at q k [64, 64] false _ hs).mono ?_
    rintro e w1 ⟨rfl, rfl⟩
    go_wp2_with fail
    refine (name_at q (k + 1) true n _ hq hn).mono ?_
    rintro e w1 ⟨rfl, rfl⟩
    go_upto_region 35 with fail
    go_region_with (go_at_call 33; refine (quoted_none l q (k + 1) _ hq h2 hx).mono ?_; rintro e w1 ⟨rfl, hbl⟩; replace hbl : Hid (Below (W2 l w).heap.size (W2 l w) w1) := ((Below.refl _ (W2 l w)).drew).trans hbl)
    all_goals
      obtain ⟨hsz, ⟨c0, c1, c2, c3, c4⟩, f0, f1, f2, f3, f4⟩ := tok_facts hbl.out
      go_wp2
      exact ret22 _ _ _ _ _ _ _ _ rfl rfl (old_block (put5_block (tok_cells hbl.out) _ _ _ _ _)) (next_none HR (Or.inr ⟨_, rfl⟩)) ((put5 (W2_below2 hbl.out) _ _ _ _ _).alloc (by simp; omega) _)

set_option maxHeartbeats 8000000 in
set_option maxRecDepth 1000000 in
theorem at_quote_some (l : Lx.Lex) (q : ByteArray) (w : World) (hq : q.size ≤ 1073741824) (R : Option Lx.Tok) (k : Nat) (c : UInt8) (h2 : k + 1 < q.size) (d : UInt8) (hd : q[k + 1]'h2 = d) (hdq : ((d.toNat : Int) == 39) = true ∨ (((d.toNat : Int) == 39) = false ∧ ((d.toNat : Int) == 34) = true) ∨ (((d.toNat : Int) == 39) = false ∧ ((d.toNat : Int) == 34) = false ∧ ((d.toNat : Int) == 96) = true))
    (hs : Hid (Lib.hasPrefix (q.data.toList.drop k) [64, 64] = false)) (n : Nat) (hn : Hid (Lx.nameLen true (q.data.toList.drop (k + 1)) = n)) (h1 : ((n : Int) == 0) = true)
    (t : List UInt8) (m : Nat) (hm : m ≤ q.size) (hx : Hid (Lx.quoted l (q.data.toList.drop (k + 1)) = some (t, m))) (HR : Hid (R = some (Lx.Tok.shift k ⟨117, t, false, 0, 1 + m⟩))) (a : Act) (ha : FR8 l q k c w a) :
    Code.wp Tryd.prog ((Tryd.f22.body.bind (thenOf 204)).getD .skip) (retOnly R w) a (W2 l w) := by
  conv => arg 2; whnf
  obtain ⟨u, rfl⟩ := ha.open
  clear ha
  have hlt' : (k : Int) < (q.size : Int) := by omega
  unfold W2
  have h2' : (k : Int) + 1 < (q.size : Int) := by omega
  rcases hdq with e1 | ⟨e1, e2⟩ | ⟨e1, e2, e3⟩
  all_goals
    go_wp2_with fail
    refine (pre_at q k [64, 64] false _ hs).mono ?_
    rintro e w1 ⟨rfl, rfl⟩
    go_wp2_with fail
    refine (name_at q (k + 1) true n _ hq hn).mono ?_
    rintro e w1 ⟨rfl, rfl⟩
    go_upto_region 35 with fail
    go_region_with (go_at_call 33; refine (quoted_some l q (k + 1) t m _ hq h2 hx).mono ?_; rintro e w1 ⟨rfl, hbl⟩; replace hbl : Hid (Below (W2 l w).heap.size (W2 l w) w1) := ((Below.refl _ (W2 l w)).drew).trans hbl)
    all_goals
      obtain ⟨hsz, ⟨c0, c1, c2, c3, c4⟩, f0, f1, f2, f3, f4⟩ := tok_facts hbl.out
      go_wp2
      exact ret22 _ _ _ _ _ _ _ _ rfl rfl (put5_block (tok_cells hbl.out) _ _ _ _ _) (next_tok HR rfl (by omega) rfl) (put5 (W2_below2 hbl.out) _ _ _ _ _)


end Go.Proofs.Qxb6613163aDoor
