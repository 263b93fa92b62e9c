/-
  LEAVES of the round of (Lexer).Next's loop (22): a variable.
-/
import Derived.Test.Qxb6613163aDoorWf
namespace Go.Proofs.Qxb6613163aDoor
open Go.RowKit

set_option maxHeartbeats 8000000 in
set_option maxRecDepth 1000000 in
theorem at_name_true (l : Lx.Lex) (q : ByteArray) (w : World) (hq : q.size ≤ 1073741824) (R : Option Lx.Tok) (k : Nat) (c : UInt8) (hlt : k < q.size)
    (hs : Hid (Lib.hasPrefix (q.data.toList.drop k) [64, 64] = true)) (n : Nat) (hn : Hid (Lx.nameLen true (q.data.toList.drop (k + 2)) = n)) (h1 : ((n : Int) == 0) = false) (h2 : k + 2 + n ≤ q.size)
    (HR : Hid (R = some (Lx.Tok.shift k ⟨118, (q.data.toList.drop (k + 2)).take n, false, 0, 2 + n⟩))) (a : Act) (ha : FR8 l q k c w a) :
    Code.wp Tryd.prog ((Tryd.f22.body.bind (thenOf 204)).getD .skip) (retOnly R w) a (W2 l w) := by
  conv => arg 2; whnf
  obtain ⟨u, rfl⟩ := ha.open
  clear ha
  have hlt' : (k : Int) < (q.size : Int) := by omega
  unfold W2
  go_wp2_with fail
  refine (pre_at q k [64, 64] true _ hs).mono ?_
  rintro e w1 ⟨rfl, rfl⟩
  go_wp2_with fail
  refine (name_at q (k + 2) true n _ hq hn).mono ?_
  rintro e w1 ⟨rfl, rfl⟩
  go_wp2
  exact ret22 _ _ _ _ _ _ _ _ rfl rfl (top_block _ _ _ (by simp)) (next_tok HR (extract_take q (k + 2) n) (by omega) rfl) (below_two _ _ _)

set_option maxHeartbeats 8000000 in
set_option maxRecDepth 1000000 in
theorem at_name_false (l : Lx.Lex) (q : ByteArray) (w : World) (hq : q.size ≤ 1073741824) (R : Option Lx.Tok) (k : Nat) (c : UInt8) (hlt : k < q.size)
    (hs : Hid (Lib.hasPrefix (q.data.toList.drop k) [64, 64] = false)) (n : Nat) (hn : Hid (Lx.nameLen true (q.data.toList.drop (k + 1)) = n)) (h1 : ((n : Int) == 0) = false) (h2 : k + 1 + n ≤ q.size)
    (HR : Hid (R = some (Lx.Tok.shift k ⟨117, (q.data.toList.drop (k + 1)).take n, false, 0, 1 + n⟩))) (a : Act) (ha : FR8 l q k c w a) :
    Code.wp Tryd.prog ((Tryd.f22.body.bind (thenOf 204)).getD .skip) (retOnly R w) a (W2 l w) := by
  conv => arg 2; whnf
  obtain ⟨u, rfl⟩ := ha.open
  clear ha
  have hlt' : (k : Int) < (q.size : Int) := by omega
  unfold W2
  go_wp2_with fail
  refine (pre_at q k [64, 64] false _ hs).mono ?_
  rintro e w1 ⟨rfl, rfl⟩
  go_wp2_with fail
  refine (name_at q (k + 1) true n _ hq hn).mono ?_
  rintro e w1 ⟨rfl, rfl⟩
  go_wp2
  exact ret22 _ _ _ _ _ _ _ _ rfl rfl (top_block _ _ _ (by simp)) (next_tok HR (extract_take q (k + 1) n) (by omega) rfl) (below_two _ _ _)

set_option maxHeartbeats 8000000 in
set_option maxRecDepth 1000000 in
theorem at_none_true (l : Lx.Lex) (q : ByteArray) (w : World) (hq : q.size ≤ 1073741824) (R : Option Lx.Tok) (k : Nat) (c : UInt8) (h2 : k + 2 ≤ q.size)
    (hs : Hid (Lib.hasPrefix (q.data.toList.drop k) [64, 64] = true)) (n : Nat) (hn : Hid (Lx.nameLen true (q.data.toList.drop (k + 2)) = n)) (h1 : ((n : Int) == 0) = true)
    (HR : Hid (R = none)) (a : Act) (ha : FR8 l q k c w a) :
    Code.wp Tryd.prog ((Tryd.f22.body.bind (thenOf 204)).getD .skip) (retOnly R w) a (W2 l w) := by
  conv => arg 2; whnf
  obtain ⟨u, rfl⟩ := ha.open
  clear ha
  have hlt' : (k : Int) < (q.size : Int) := by omega
  unfold W2
  go_wp2_with fail
  refine (pre_at q k [64, 64] true _ hs).mono ?_
  rintro e w1 ⟨rfl, rfl⟩
  go_wp2_with fail
  refine (name_at q (k + 2) true n _ hq hn).mono ?_
  rintro e w1 ⟨rfl, rfl⟩
  go_wp2
  exact ret22 _ _ _ _ _ _ _ _ rfl rfl (old_block (top_block _ _ _ (by simp))) (next_none HR (Or.inr ⟨_, rfl⟩)) ((below_two _ _ _).alloc (by simp; omega) _)

set_option maxHeartbeats 8000000 in
set_option maxRecDepth 1000000 in
theorem at_none_end (l : Lx.Lex) (q : ByteArray) (w : World) (hq : q.size ≤ 1073741824) (R : Option Lx.Tok) (k : Nat) (c : UInt8) (hlt : k < q.size) (h2 : decide ((k : Int) + 1 < (q.size : Int)) = false)
    (hs : Hid (Lib.hasPrefix (q.data.toList.drop k) [64, 64] = false)) (n : Nat) (hn : Hid (Lx.nameLen true (q.data.toList.drop (k + 1)) = n)) (h1 : ((n : Int) == 0) = true)
    (HR : Hid (R = none)) (a : Act) (ha : FR8 l q k c w a) :
    Code.wp Tryd.prog ((Tryd.f22.body.bind (thenOf 204)).getD .skip) (retOnly R w) a (W2 l w) := by
  conv => arg 2; whnf
  obtain ⟨u, rfl⟩ := ha.open
  clear ha
  have hlt' : (k : Int) < (q.size : Int) := by omega
  unfold W2
  go_wp2_with fail
  refine (pre_at q k [64, 64] false _ hs).mono ?_
  rintro e w1 ⟨rfl, rfl⟩
  go_wp2_with fail
  refine (name_at q (k + 1) true n _ hq hn).mono ?_
  rintro e w1 ⟨rfl, rfl⟩
  go_wp2
  exact ret22 _ _ _ _ _ _ _ _ rfl rfl (old_block (top_block _ _ _ (by simp))) (next_none HR (Or.inr ⟨_, rfl⟩)) ((below_two _ _ _).alloc (by simp; omega) _)

set_option maxHeartbeats 8000000 in
set_option maxRecDepth 1000000 in
theorem at_none_other (l : Lx.Lex) (q : ByteArray) (w : World) (hq : q.size ≤ 1073741824) (R : Option Lx.Tok) (k : Nat) (c : UInt8) (h2 : k + 1 < q.size) (d : UInt8) (hd : q[k + 1]'h2 = d) (e1 : ((d.toNat : Int) == 39) = false) (e2 : ((d.toNat : Int) == 34) = false) (e3 : ((d.toNat : Int) == 96) = false)
    (hs : Hid (Lib.hasPrefix (q.data.toList.drop k) [64, 64] = false)) (n : Nat) (hn : Hid (Lx.nameLen true (q.data.toList.drop (k + 1)) = n)) (h1 : ((n : Int) == 0) = true)
    (HR : Hid (R = none)) (a : Act) (ha : FR8 l q k c w a) :
    Code.wp Tryd.prog ((Tryd.f22.body.bind (thenOf 204)).getD .skip) (retOnly R w) a (W2 l w) := by
  conv => arg 2; whnf
  obtain ⟨u, rfl⟩ := ha.open
  clear ha
  have hlt' : (k : Int) < (q.size : Int) := by omega
  unfold W2
  have h2' : (k : Int) + 1 < (q.size : Int) := by omega
  go_wp2_with fail
  refine (pre_at q k [64, 64] false _ hs).mono ?_
  rintro e w1 ⟨rfl, rfl⟩
  go_wp2_with fail
  refine (name_at q (k + 1) true n _ hq hn).mono ?_
  rintro e w1 ⟨rfl, rfl⟩
  go_wp2
  exact ret22 _ _ _ _ _ _ _ _ rfl rfl (old_block (top_block _ _ _ (by simp))) (next_none HR (Or.inr ⟨_, rfl⟩)) ((below_two _ _ _).alloc (by simp; omega) _)


end Go.Proofs.Qxb6613163aDoor
