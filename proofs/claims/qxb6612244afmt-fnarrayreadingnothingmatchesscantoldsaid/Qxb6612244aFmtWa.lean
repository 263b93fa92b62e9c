/-
  THE WALKS, THE LEAVES: what each small function of the road computes.
-/
import Derived.Test.Qxb6612244aFmtRows
import Derived.Test.Qxb6612244aFmtPl
import Derived.WalkKit
import Derived.WalkSpells
import Derived.WalkLawsBesides
import Derived.Deep.QuietTactic
import Derived.BigQuiet
namespace Go.Proofs.Qxb6612244aFmt
open Go.RowKit

set_option maxHeartbeats 400000 in
theorem zzBytes_yes (ao : Option Addr) (len cap : Nat) (p d : Int) (w : World) (h : len ≤ 1048576) :
    Calls Tryf.prog 4 #[.slice ao len cap, .int .i64 p, .int .i64 d] w fun e w' => e = .returned (.bool true) ∧ w' = w := by
  go_enter Tryf.func4, Tryf.ntmps4
  go_wp2
  go_ret
  exact ⟨rfl, rfl⟩

set_option maxHeartbeats 400000 in
theorem zzBytes_no (ao : Option Addr) (len cap : Nat) (p d : Int) (w : World) (h : 1048576 < len) :
    Calls Tryf.prog 4 #[.slice ao len cap, .int .i64 p, .int .i64 d] w fun e w' => e = .returned (.bool false) ∧ w' = w := by
  go_enter Tryf.func4, Tryf.ntmps4
  go_wp2
  go_ret
  exact ⟨rfl, rfl⟩

set_option maxHeartbeats 400000 in
theorem isSc_any (c : Int) (w : World) :
    Calls Tryf.prog 13 #[.int .u8 c] w fun e w' => e = .returned (.bool (Pl.isSc c)) ∧ w' = w := by
  by_cases h1 : c = 32
  · subst h1
    go_enter Tryf.func13, Tryf.ntmps13
    go_wp2
    go_ret
    exact ⟨rfl, rfl⟩
  by_cases h2 : c = 9
  · subst h2
    go_enter Tryf.func13, Tryf.ntmps13
    go_wp2
    go_ret
    exact ⟨rfl, rfl⟩
  by_cases h3 : c = 13
  · subst h3
    go_enter Tryf.func13, Tryf.ntmps13
    go_wp2
    go_ret
    exact ⟨rfl, rfl⟩
  by_cases h4 : c = 10
  · subst h4
    go_enter Tryf.func13, Tryf.ntmps13
    go_wp2
    go_ret
    exact ⟨rfl, rfl⟩
  have e1 : (c == 32) = false := by simpa using h1
  have e2 : (c == 9) = false := by simpa using h2
  have e3 : (c == 13) = false := by simpa using h3
  have e4 : (c == 10) = false := by simpa using h4
  have hf : Hid (Pl.isSc c = (c == 44)) := by simp [Hid, Pl.isSc, e1, e2, e3, e4]
  clear h1 h2 h3 h4
  go_enter Tryf.func13, Tryf.ntmps13
  go_wp2
  go_ret
  exact ⟨by rw [hf.out]; rfl, rfl⟩

/-- THE READER: its block, whole: the data slice, the place, the path, no violation, 'more' false. -/
def Rd (w : World) (B bd n : Nat) (pos : Int) (pv : Value) : Prop :=
  w.heap[B]? = some (.cells #[.slice (some ⟨bd, 0, none⟩) n n, .int .i64 pos, pv, .slice none 0 0, .bool false] 40 (0, 0))

theorem Rd.c0 {w : World} {B bd n : Nat} {pos : Int} {pv : Value} (h : Rd w B bd n pos pv) : w.cell? ⟨B, 0, none⟩ = some (.slice (some ⟨bd, 0, none⟩) n n) := by rw [cell_of_row w B 0 _ 40 (0, 0) h]; rfl
theorem Rd.c1 {w : World} {B bd n : Nat} {pos : Int} {pv : Value} (h : Rd w B bd n pos pv) : w.cell? ⟨B, 1, none⟩ = some (.int .i64 pos) := by rw [cell_of_row w B 1 _ 40 (0, 0) h]; rfl
theorem Rd.c2 {w : World} {B bd n : Nat} {pos : Int} {pv : Value} (h : Rd w B bd n pos pv) : w.cell? ⟨B, 2, none⟩ = some pv := by rw [cell_of_row w B 2 _ 40 (0, 0) h]; rfl
theorem Rd.c3 {w : World} {B bd n : Nat} {pos : Int} {pv : Value} (h : Rd w B bd n pos pv) : w.cell? ⟨B, 3, none⟩ = some (.slice none 0 0) := by rw [cell_of_row w B 3 _ 40 (0, 0) h]; rfl
theorem Rd.c4 {w : World} {B bd n : Nat} {pos : Int} {pv : Value} (h : Rd w B bd n pos pv) : w.cell? ⟨B, 4, none⟩ = some (.bool false) := by rw [cell_of_row w B 4 _ 40 (0, 0) h]; rfl
theorem Rd.free {w : World} {B bd n : Nat} {pos : Int} {pv : Value} (h : Rd w B bd n pos pv) (j : Nat) : w.frozen? ⟨B, j, none⟩ = false := frozen_of_row w B j _ 40 h
theorem Rd.lt {w : World} {B bd n : Nat} {pos : Int} {pv : Value} (h : Rd w B bd n pos pv) : B < w.heap.size := lt_of_block h
theorem Rd.setPos {w : World} {B bd n : Nat} {pos : Int} {pv : Value} (h : Rd w B bd n pos pv) (q : Int) : Rd (w.setCell ⟨B, 1, none⟩ (.int .i64 q)) B bd n q pv := heap_setCell_same w B 1 _ 40 _ h
theorem Rd.setPath {w : World} {B bd n : Nat} {pos : Int} {pv : Value} (h : Rd w B bd n pos pv) (v : Value) : Rd (w.setCell ⟨B, 2, none⟩ v) B bd n pos v := heap_setCell_same w B 2 _ 40 _ h

set_option maxHeartbeats 400000 in
theorem pos_any {w : World} {B bd n : Nat} {pos : Int} {pv : Value} (h : Rd w B bd n pos pv) :
    Calls Tryf.prog 8 #[.pointer (some ⟨B, 0, none⟩)] w fun e w' => e = .returned (.int .i64 pos) ∧ w' = w := by
  have c1 := h.c1
  go_enter Tryf.func8, Tryf.ntmps8
  go_wp2
  go_ret
  exact ⟨rfl, rfl⟩

set_option maxHeartbeats 400000 in
theorem depth_any {w : World} {B bd n : Nat} {pos : Int} {ao : Option Addr} {k c : Nat} (h : Rd w B bd n pos (.slice ao k c)) :
    Calls Tryf.prog 9 #[.pointer (some ⟨B, 0, none⟩)] w fun e w' => e = .returned (.int .i64 k) ∧ w' = w := by
  have c2 := h.c2
  go_enter Tryf.func9, Tryf.ntmps9
  go_wp2
  go_ret
  exact ⟨rfl, rfl⟩

set_option maxHeartbeats 400000 in
theorem count_any {w : World} {B bd n : Nat} {pos : Int} {pv : Value} (h : Rd w B bd n pos pv) :
    Calls Tryf.prog 10 #[.pointer (some ⟨B, 0, none⟩)] w fun e w' => e = .returned (.int .i64 0) ∧ w' = w := by
  have c3 := h.c3
  go_enter Tryf.func10, Tryf.ntmps10
  go_wp2
  go_ret
  exact ⟨rfl, rfl⟩

set_option maxHeartbeats 400000 in
theorem more_any {w : World} {B bd n : Nat} {pos : Int} {pv : Value} (h : Rd w B bd n pos pv) :
    Calls Tryf.prog 11 #[.pointer (some ⟨B, 0, none⟩)] w fun e w' => e = .returned (.bool false) ∧ w' = w := by
  have c4 := h.c4
  go_enter Tryf.func11, Tryf.ntmps11
  go_wp2
  go_ret
  exact ⟨rfl, rfl⟩

end Go.Proofs.Qxb6612244aFmt
