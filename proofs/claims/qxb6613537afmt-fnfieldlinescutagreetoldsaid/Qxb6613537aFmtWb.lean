/-
  THE WALKS of the scanner's small methods: setErr (32), advance (33), Bytes (34), Buffer (29), Split (30); NewScanner (28), NewReader (20, 21), ZZnewReaderString (8).
-/
import Derived.Test.Qxb6613537aFmtWa
import Derived.OwnWalk
import Derived.Laws.EntriesVeiled
namespace Go.Proofs.Qxb6613537aFmt
open Go.RowKit

/-- The scanner's cells. -/
def scArr (R : Nat) (tok : Value) (B N : Nat) (st en : Int) (err : Value) (emp : Int) (sc : Bool) : Array Value :=
  #[.iface 40 (.pointer (some ⟨R, 0, none⟩)), .func (Fn.func 31) #[] #[], .int .i64 9223372036854775807, tok, .slice (some ⟨B, 0, none⟩) N N, .int .i64 st, .int .i64 en, err, .int .i64 emp, .bool sc, .bool false]

theorem setErr_nil (S : Nat) (w : World) (h1 : w.cell? ⟨S, 7, none⟩ = some .nilIface) (f1 : w.frozen? ⟨S, 7, none⟩ = false) (v : Value) (ty : TypeId) (pe : Option Addr) (hv : v = .iface ty (.pointer pe)) :
    Calls Tryf.prog 32 #[.pointer (some ⟨S, 0, none⟩), v] w fun e w' => e = .returned (.tuple #[]) ∧ ∃ nq, w' = (w.drewN nq).setCell ⟨S, 7, none⟩ v := by
  subst hv
  go_enter Tryf.func32, Tryf.ntmps32
  go_wp2_with fail
  go_quiet (fail)
  go_wp2
  go_end0
  exact ⟨rfl, _, rfl⟩

theorem advance_any (S st en adv : Nat) (w : World) (h5 : w.cell? ⟨S, 5, none⟩ = some (.int .i64 st)) (f5 : w.frozen? ⟨S, 5, none⟩ = false) (h6 : w.cell? ⟨S, 6, none⟩ = some (.int .i64 en)) (hle : st + adv ≤ en) (hen : en ≤ 16777216) :
    Calls Tryf.prog 33 #[.pointer (some ⟨S, 0, none⟩), .int .i64 adv] w fun e w' => e = .returned (.bool true) ∧ ∃ nq, w' = (w.drewN nq).setCell ⟨S, 5, none⟩ (.int .i64 ((st + adv : Nat) : Int)) := by
  have e1 : decide ((adv : Int) < 0) = false := by simp
  have e2 : decide ((en : Int) - (st : Int) < (adv : Int)) = false := by simp; omega
  go_enter Tryf.func33, Tryf.ntmps33
  go_wp2_with fail
  go_quiet (fail)
  go_wp2
  go_ret
  exact ⟨rfl, _, rfl⟩

theorem bytes_any (S : Nat) (w : World) (tok : Value) (ht : ∃ a l c, tok = .slice a l c) (h3 : w.cell? ⟨S, 3, none⟩ = some tok) :
    Calls Tryf.prog 34 #[.pointer (some ⟨S, 0, none⟩)] w fun e w' => e = .returned tok ∧ w' = w := by
  obtain ⟨a, l, c, rfl⟩ := ht
  go_enter Tryf.func34, Tryf.ntmps34
  go_wp2
  go_ret
  exact ⟨rfl, rfl⟩

theorem newR_any (s : ByteArray) (w : World) : Calls Tryf.prog 21 #[.string s] w fun e w' => e = .returned (.pointer (some ⟨w.heap.size, 0, none⟩)) ∧ w' = w.alloc (.cells #[.string s, .int .i64 0, .int .i64 (-1)] 58) := by
  go_enter Tryf.func21, Tryf.ntmps21
  go_wp2
  go_ret
  exact ⟨rfl, rfl⟩

theorem newScanner_any (R : Nat) (w : World) : Calls Tryf.prog 28 #[.iface 40 (.pointer (some ⟨R, 0, none⟩))] w fun e w' => e = .returned (.pointer (some ⟨w.heap.size, 0, none⟩)) ∧
    w' = w.alloc (.cells #[.iface 40 (.pointer (some ⟨R, 0, none⟩)), .func (Fn.func 37) #[] #[], .int .i64 65536, .slice none 0 0, .slice none 0 0, .int .i64 0, .int .i64 0, .nilIface, .int .i64 0, .bool false, .bool false] 65) := by
  go_enter Tryf.func28, Tryf.ntmps28
  go_wp2
  go_ret
  exact ⟨rfl, rfl⟩

theorem split_any (S : Nat) (w : World) (c1 : Value) (h1 : w.cell? ⟨S, 1, none⟩ = some c1) (f1 : w.frozen? ⟨S, 1, none⟩ = false) (h9 : w.cell? ⟨S, 9, none⟩ = some (.bool false)) :
    Calls Tryf.prog 30 #[.pointer (some ⟨S, 0, none⟩), .func (Fn.func 31) #[] #[]] w fun e w' => e = .returned (.tuple #[]) ∧ w' = w.setCell ⟨S, 1, none⟩ (.func (Fn.func 31) #[] #[]) := by
  go_enter Tryf.func30, Tryf.ntmps30
  go_wp2
  go_end0
  exact ⟨rfl, rfl⟩

theorem buffer_any (S B N : Nat) (w : World) (c2 c4 : Value) (h2 : w.cell? ⟨S, 2, none⟩ = some c2) (f2 : w.frozen? ⟨S, 2, none⟩ = false) (h4 : w.cell? ⟨S, 4, none⟩ = some c4) (f4 : w.frozen? ⟨S, 4, none⟩ = false) (h9 : w.cell? ⟨S, 9, none⟩ = some (.bool false)) (hN : 0 < N) (hN2 : N ≤ 16777216) :
    Calls Tryf.prog 29 #[.pointer (some ⟨S, 0, none⟩), .slice (some ⟨B, 0, none⟩) N N, .int .i64 9223372036854775807] w fun e w' => e = .returned (.tuple #[]) ∧ w' = (w.setCell ⟨S, 4, none⟩ (.slice (some ⟨B, 0, none⟩) N N)).setCell ⟨S, 2, none⟩ (.int .i64 9223372036854775807) := by
  go_enter Tryf.func29, Tryf.ntmps29
  go_wp2
  go_end0
  exact ⟨rfl, rfl⟩

theorem Tryf.info5 : (Tryf.prog.info? 5).map (fun i => (i.zero, i.size, i.bytes)) = some (some (.int .u8 0), 1, 1) := by kernel_rfl

theorem lt_of_block {w : World} {g : Nat} {o : Obj} (h : w.heap[g]? = some o) : g < w.heap.size := by
  rcases Nat.lt_or_ge g w.heap.size with h' | h'
  · exact h'
  · rw [Array.getElem?_eq_none h'] at h; cases h

theorem make_block {w : World} {B e g j : Nat} {xs : List Value} (h : w.ownsRow B e 1 (.slice (some ⟨g, 0, none⟩) j j) j xs) : ∃ cur, w.heap[g]? = some (.cells cur e (0, 0)) ∧ cur.size = j ∧ B ≤ g := by
  rcases h.2 with ⟨h0, _⟩ | ⟨g', cap, cur, hv, hB, hg, _, _, hs, _⟩
  · cases h0
  · simp only [Value.slice.injEq, Option.some.injEq, Addr.mk.injEq] at hv
    obtain ⟨⟨rfl, _⟩, _, rfl⟩ := hv
    exact ⟨cur, hg, by omega, hB⟩

theorem block_ne {w : World} {g k : Nat} {c1 c2 : Array Value} {T1 T2 : Nat} (h1 : w.heap[g]? = some (.cells c1 T1 (0, 0))) (h2 : w.heap[k]? = some (.cells c2 T2 (0, 0))) (hT : T1 ≠ T2) : g ≠ k := by
  rintro rfl
  rw [h1] at h2
  simp only [Option.some.injEq, Obj.cells.injEq] at h2
  exact hT h2.2.1

/-- The parts of a reader, in memory. -/
structure Sc (w : World) (S R B : Nat) (src : ByteArray) (i N st en : Nat) (tok err : Value) (emp : Int) (sc : Bool) (cur : Array Value) : Prop where
  hS : w.heap[S]? = some (.cells (scArr R tok B N st en err emp sc) 65 (0, 0))
  hR : ∃ pr, w.heap[R]? = some (.cells #[.string src, .int .i64 i, pr] 58 (0, 0))
  hB : w.heap[B]? = some (.cells cur 5 (0, 0))
  hN : cur.size = N

set_option maxHeartbeats 2000000 in
theorem newRd_any (s : ByteArray) (R : Nat) (pr : Value) (w : World) (hR : w.heap[R]? = some (.cells #[.string s, .int .i64 0, pr] 58 (0, 0))) :
    Calls Tryf.prog 20 #[.iface 40 (.pointer (some ⟨R, 0, none⟩))] w fun e w' => ∃ M S B cur, e = .returned (.pointer (some ⟨M, 0, none⟩)) ∧ w'.cell? ⟨M, 0, none⟩ = some (.pointer (some ⟨S, 0, none⟩)) ∧ Sc w' S R B s 0 65536 0 0 (.slice none 0 0) .nilIface 0 false cur ∧
      w.heap.size ≤ S ∧ w.heap.size ≤ B ∧ (∃ cm, w'.heap[M]? = some (.cells cm 50 (0, 0))) ∧ Below w.heap.size w w' := by
  obtain ⟨i5, hi5, z5a, z5b, z5c⟩ := info_parts Tryf.info5
  have hRl := lt_of_block hR
  go_enter Tryf.func20, Tryf.ntmps20
  go_wp2_with fail
  refine (newScanner_any R w).mono ?_
  rintro e w1 ⟨rfl, hw1⟩
  have hS1 : w1.heap[w.heap.size]? = some (.cells #[.iface 40 (.pointer (some ⟨R, 0, none⟩)), .func (Fn.func 37) #[] #[], .int .i64 65536, .slice none 0 0, .slice none 0 0, .int .i64 0, .int .i64 0, .nilIface, .int .i64 0, .bool false, .bool false] 65 (0, 0)) := by
    rw [hw1]; exact heap_alloc_new w _
  have hb1 : Below w.heap.size w w1 := by rw [hw1]; exact (Below.refl _ w).alloc (Nat.le_refl _) _
  have hs1 : w.heap.size + 1 ≤ w1.heap.size := by rw [hw1]; simp
  have hR1 : w1.heap[R]? = _ := (hb1.block R hRl).trans hR
  clear hw1
  go_wp2_with (at_make; refine wpList_make_full _ rfl _ _ 43 rfl w1.heap.size 5 i5 _ 1 Tryf.underlying43 hi5 z5a z5b _ _ _ _ 65536 rfl rfl rfl rfl ?q1 ?q2 ?q3 ?_)
  case q1 => rw [z5c]; omega
  case q2 => unfold maxLen; omega
  case q3 => omega
  intro w2 o2 g2
  obtain ⟨cur, hB2, hcs, _⟩ := make_block o2
  have hS2 := (g2.block w.heap.size (by omega) (by simp)).trans hS1
  have hR2 := (g2.block R (by omega) (by simp)).trans hR1
  have hb2 : Below w.heap.size w w2 := hb1.grown g2 (by omega) (by simp)
  have hBl := lt_of_block hB2
  clear o2 g2 hS1 hR1
  have c2 := (cell_of_row w2 _ 2 _ 65 (0, 0) hS2)
  have c4 := (cell_of_row w2 _ 4 _ 65 (0, 0) hS2)
  have c9 := (cell_of_row w2 _ 9 _ 65 (0, 0) hS2)
  have BU : Hid (_) := buffer_any w.heap.size w1.heap.size 65536 w2 _ _ (c2.trans rfl) (frozen_of_row w2 _ 2 _ 65 hS2) (c4.trans rfl) (frozen_of_row w2 _ 4 _ 65 hS2) (c9.trans rfl) (by omega) (by omega)
  go_wp2_with fail
  refine Calls.mono BU.out ?_
  rintro e w3 ⟨rfl, hw3⟩
  have hS3 := set_block _ _ 2 (.int .i64 9223372036854775807) _ _ (set_block _ _ 4 (.slice (some ⟨w1.heap.size, 0, none⟩) 65536 65536) _ _ hS2)
  have hB3 := (set_other _ w.heap.size 2 w1.heap.size (.int .i64 9223372036854775807) (by omega)).trans ((set_other _ w.heap.size 4 w1.heap.size (.slice (some ⟨w1.heap.size, 0, none⟩) 65536 65536) (by omega)).trans hB2)
  have hR3 := (set_other _ w.heap.size 2 R (.int .i64 9223372036854775807) (by omega)).trans ((set_other _ w.heap.size 4 R (.slice (some ⟨w1.heap.size, 0, none⟩) 65536 65536) (by omega)).trans hR2)
  have hb3 := (hb2.setCell (p := ⟨w.heap.size, 4, none⟩) (Nat.le_refl _) (.slice (some ⟨w1.heap.size, 0, none⟩) 65536 65536)).setCell (p := ⟨w.heap.size, 2, none⟩) (Nat.le_refl _) (.int .i64 9223372036854775807)
  rw [← hw3] at hS3 hB3 hR3 hb3
  clear hw3 BU c2 c4 c9 hS2 hB2 hR2 hb2
  have c1 := (cell_of_row w3 _ 1 _ 65 (0, 0) hS3)
  have c9 := (cell_of_row w3 _ 9 _ 65 (0, 0) hS3)
  have SP : Hid (_) := split_any w.heap.size w3 _ (c1.trans rfl) (frozen_of_row w3 _ 1 _ 65 hS3) (c9.trans rfl)
  go_wp2_with fail
  refine Calls.mono SP.out ?_
  rintro e w4 ⟨rfl, hw4⟩
  have hS4 := set_block _ _ 1 (.func (Fn.func 31) #[] #[]) _ _ hS3
  have hB4 := (set_other _ w.heap.size 1 w1.heap.size (.func (Fn.func 31) #[] #[]) (by omega)).trans hB3
  have hR4 := (set_other _ w.heap.size 1 R (.func (Fn.func 31) #[] #[]) (by omega)).trans hR3
  have hb4 := hb3.setCell (p := ⟨w.heap.size, 1, none⟩) (Nat.le_refl _) (.func (Fn.func 31) #[] #[])
  rw [← hw4] at hS4 hB4 hR4 hb4
  have hs4 := hb4.size
  have hSl := lt_of_block hS4
  have hBl4 := lt_of_block hB4
  clear hw4 SP c1 c9 hS3 hB3 hR3 hb3
  replace hS4 : Hid (_) := hS4
  replace hB4 : Hid (_) := hB4
  replace hR4 : Hid (_) := hR4
  replace hb4 : Hid (_) := hb4
  go_wp2
  go_ret
  refine ⟨_, w.heap.size, w1.heap.size, cur, rfl, ?_, ⟨?_, ⟨pr, ?_⟩, ?_, hcs⟩, Nat.le_refl _, by omega, ⟨_, heap_alloc_new w4 _⟩, hb4.out.alloc (by omega) _⟩
  · rw [cell_of_row _ _ 0 _ 50 (0, 0) (heap_alloc_new w4 _)]; rfl
  · rw [heap_alloc_old _ _ hSl, hS4.out]; rfl
  · rw [heap_alloc_old _ _ (by omega), hR4.out]; rfl
  · rw [heap_alloc_old _ _ hBl4, hB4.out]

set_option maxHeartbeats 2000000 in
theorem newReader_any (s : ByteArray) (w : World) :
    Calls Tryf.prog 8 #[.string s] w fun e w' => ∃ M S R B cur, e = .returned (.pointer (some ⟨M, 0, none⟩)) ∧ w'.cell? ⟨M, 0, none⟩ = some (.pointer (some ⟨S, 0, none⟩)) ∧ Sc w' S R B s 0 65536 0 0 (.slice none 0 0) .nilIface 0 false cur ∧
      w.heap.size ≤ S ∧ w.heap.size ≤ R ∧ w.heap.size ≤ B ∧ (∃ cm, w'.heap[M]? = some (.cells cm 50 (0, 0))) ∧ Below w.heap.size w w' := by
  have NR : Hid (_) := newRd_any s w.heap.size _ (w.alloc (.cells #[.string s, .int .i64 0, .int .i64 (-1)] 58)) (heap_alloc_new w _)
  go_enter Tryf.func8, Tryf.ntmps8
  go_wp2_with fail
  refine (newR_any s w).mono ?_
  rintro e w1 ⟨rfl, rfl⟩
  go_wp2_with fail
  refine Calls.mono NR.out ?_
  rintro e w2 ⟨M, S, B, cur, rfl, h1, h2, h3, h4, h5, h6⟩
  have hall : w.heap.size ≤ S ∧ w.heap.size ≤ w.heap.size ∧ w.heap.size ≤ B := by
    simp at h3 h4
    omega
  replace h1 : Hid (_) := h1
  replace h2 : Hid (_) := h2
  replace h5 : Hid (_) := h5
  replace h6 : Hid (_) := h6
  replace hall : Hid (_) := hall
  clear h3 h4
  go_wp2
  go_ret
  exact ⟨M, S, _, B, cur, rfl, h1.out, h2.out, hall.out.1, hall.out.2.1, hall.out.2.2, h5.out, ((Below.refl _ w).alloc (Nat.le_refl _) _).trans (h6.out.mono (by simp))⟩

end Go.Proofs.Qxb6613537aFmt
