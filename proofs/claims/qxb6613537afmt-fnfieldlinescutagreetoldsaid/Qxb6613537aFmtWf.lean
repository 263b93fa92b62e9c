/-
  THE WALK of (*bufio.Scanner).Scan (26).
-/
import Derived.Test.Qxb6613537aFmtWe
import Derived.Deep.CutRange
namespace Go.Proofs.Qxb6613537aFmt
open Go.RowKit
open Pl

def X3 (a b c : Nat) (j : Nat) : Prop := j = a ∨ j = b ∨ j = c

theorem sc_cells {w : World} {S R B N : Nat} {tok err : Value} {st en emp : Int} {sc : Bool} (h : w.heap[S]? = some (.cells (scArr R tok B N st en err emp sc) 65 (0, 0))) :
    (w.cell? ⟨S, 0, none⟩ = some (.iface 40 (.pointer (some ⟨R, 0, none⟩))) ∧ w.cell? ⟨S, 1, none⟩ = some (.func (Fn.func 31) #[] #[]) ∧ w.cell? ⟨S, 2, none⟩ = some (.int .i64 9223372036854775807) ∧ w.cell? ⟨S, 3, none⟩ = some tok ∧
    w.cell? ⟨S, 4, none⟩ = some (.slice (some ⟨B, 0, none⟩) N N) ∧ w.cell? ⟨S, 5, none⟩ = some (.int .i64 st) ∧ w.cell? ⟨S, 6, none⟩ = some (.int .i64 en) ∧ w.cell? ⟨S, 7, none⟩ = some err ∧ w.cell? ⟨S, 8, none⟩ = some (.int .i64 emp) ∧ w.cell? ⟨S, 9, none⟩ = some (.bool sc) ∧ w.cell? ⟨S, 10, none⟩ = some (.bool false)) ∧
    (w.frozen? ⟨S, 3, none⟩ = false ∧ w.frozen? ⟨S, 4, none⟩ = false ∧ w.frozen? ⟨S, 5, none⟩ = false ∧ w.frozen? ⟨S, 6, none⟩ = false ∧ w.frozen? ⟨S, 7, none⟩ = false ∧ w.frozen? ⟨S, 8, none⟩ = false ∧ w.frozen? ⟨S, 9, none⟩ = false) := by
  have c := fun k => cell_of_row w S k _ 65 (0, 0) h
  have f := fun k => frozen_of_row w S k _ 65 h
  exact ⟨⟨c 0, c 1, c 2, c 3, c 4, c 5, c 6, c 7, c 8, c 9, c 10⟩, f 3, f 4, f 5, f 6, f 7, f 8, f 9⟩

/-- The state at a round's head, the error apart. -/
structure LS (w0 w : World) (S R B0 : Nat) (src : ByteArray) (rem : List UInt8) (B N st en i : Nat) (tok err : Value) (emp : Int) (cur : Array Value) (X : List UInt8) : Prop where
  sc : Sc w S R B src i N st en tok err emp true cur
  hst : st ≤ en
  hen : en ≤ N
  hN1 : 65536 ≤ N
  hN2 : N ≤ 2097152
  hi : i ≤ src.size
  data : (cur.toList.drop st).take (en - st) = Lib.byteCells X
  eq : X ++ src.data.toList.drop i = rem
  kept : Kept w0 w (X3 S R B0)
  hB : B = B0 ∨ w0.heap.size ≤ B

theorem LS.len {w0 w : World} {S R B0 : Nat} {src : ByteArray} {rem : List UInt8} {B N st en i : Nat} {tok err : Value} {emp : Int} {cur : Array Value} {X : List UInt8} (h : LS w0 w S R B0 src rem B N st en i tok err emp cur X) : X.length = en - st := by
  have h1 := congrArg List.length h.data
  have h2 := h.hen
  have h3 := h.sc.hN
  rw [Lib.byteCells_length, List.length_take, List.length_drop, Array.length_toList] at h1
  omega

/-- The bytes that are held. -/
theorem LS.bytes {w0 w : World} {S R B0 : Nat} {src : ByteArray} {rem : List UInt8} {B N st en i : Nat} {tok err : Value} {emp : Int} {cur : Array Value} {X : List UInt8} (h : LS w0 w S R B0 src rem B N st en i tok err emp cur X) :
    ∀ j c, X[j]? = some c → w.cell? ⟨B, st + j, none⟩ = some (.int .u8 c.toNat) := fun j c hj => by
  have hl := h.len
  have hjl : j < X.length := (List.getElem?_eq_some_iff.1 hj).1
  have h1 : (Lib.byteCells X)[j]? = some (.int .u8 c.toNat) := by simp [Lib.byteCells, hj]
  rw [← h.data, List.getElem?_take_of_lt (by omega), List.getElem?_drop] at h1
  rw [cell_of_row w B _ _ 5 (0, 0) h.sc.hB, ← Array.getElem?_toList]
  exact h1

theorem Sc.drewN {w : World} {S R B : Nat} {src : ByteArray} {i N st en : Nat} {tok err : Value} {emp : Int} {sc : Bool} {cur : Array Value} (h : Sc w S R B src i N st en tok err emp sc cur) (n : Nat) : Sc (w.drewN n) S R B src i N st en tok err emp sc cur := ⟨h.hS, h.hR, h.hB, h.hN⟩
theorem LS.drewN {w0 w : World} {S R B0 : Nat} {src : ByteArray} {rem : List UInt8} {B N st en i : Nat} {tok err : Value} {emp : Int} {cur : Array Value} {X : List UInt8} (h : LS w0 w S R B0 src rem B N st en i tok err emp cur X) (n : Nat) : LS w0 (w.drewN n) S R B0 src rem B N st en i tok err emp cur X :=
  ⟨h.sc.drewN n, h.hst, h.hen, h.hN1, h.hN2, h.hi, h.data, h.eq, h.kept.drewN n, h.hB⟩

theorem adv_tok (X Y : List UInt8) (eof : Bool) (hY : eof = true → Y = []) (h : 0 < adv X eof) : tokLen (X ++ Y) = adv X eof ∧ adv X eof ≤ X.length := by
  unfold adv at h ⊢
  by_cases hi : idx X < X.length
  · rw [if_pos hi, (fld_app X Y hi).2.1]
    unfold tokLen
    rw [if_pos hi]
    exact ⟨rfl, by omega⟩
  · rw [if_neg hi] at h ⊢
    cases eof with
    | false => simp at h
    | true =>
      rw [hY rfl, List.append_nil]
      unfold tokLen
      rw [if_neg hi]
      exact ⟨rfl, Nat.le_refl _⟩

/-- What Scan leaves. -/
def ScanEnd (w0 : World) (S R B0 : Nat) (src : ByteArray) (rem : List UInt8) (ev : Value) (e : Ending) (w' : World) : Prop :=
  (rem = [] ∧ e = .returned (.bool false) ∧ Kept w0 w' (X3 S R B0)) ∨
  (rem ≠ [] ∧ e = .returned (.bool true) ∧ ∃ B N st en i eof emp cur X c, LS w0 w' S R B0 src (rem.drop (tokLen rem)) B N (st + tokLen rem) en i (.slice (some ⟨B, st, none⟩) (tokLen rem) c) (if eof = true then ev else .nilIface) emp cur X ∧ (eof = true → i = src.size) ∧
    tokLen rem ≤ c ∧ c ≤ 2097152 ∧ (cur.toList.drop st).take (tokLen rem) = Lib.byteCells (rem.take (tokLen rem)))

/-- What stays as it is while Scan runs. -/
structure Cx (w0 : World) (S R B0 : Nat) (src : ByteArray) (ev : Value) (m : Int) : Prop where
  hT : Lib.Utf8Tabs 8 9 w0
  hm : w0.cell? ⟨7, 0, none⟩ = some (.int .i64 m)
  he : w0.cell? ⟨4, 0, none⟩ = some ev
  hev : ∃ ty pe, ev = .iface ty (.pointer pe)
  hsrc : src.size ≤ 1048576
  hS : 10 ≤ S
  hR : 10 ≤ R
  hB : 10 ≤ B0

theorem kept_cell {w0 w : World} {S R B0 : Nat} (h : Kept w0 w (X3 S R B0)) (hS : 10 ≤ S) (hR : 10 ≤ R) (hB : 10 ≤ B0) {p : Addr} {v : Value} (hp : p.block < 10) (hc : w0.cell? p = some v) : w.cell? p = some v := by
  rw [World.cell?_of_block (w := w0) (h.block p.block (World.block_lt_of_cell? w0 p hc) (fun hx => by
    rcases hx with h | h | h <;> omega))]
  exact hc

theorem Cx.cells {w0 w : World} {S R B0 : Nat} {src : ByteArray} {ev : Value} {m : Int} (c : Cx w0 S R B0 src ev m) (h : Kept w0 w (X3 S R B0)) : Lib.Utf8Tabs 8 9 w ∧ w.cell? ⟨7, 0, none⟩ = some (.int .i64 m) ∧ w.cell? ⟨4, 0, none⟩ = some ev :=
  ⟨⟨fun x hx => kept_cell h c.hS c.hR c.hB (by show 8 < 10; omega) (c.hT.1 x hx), fun i hi => ⟨kept_cell h c.hS c.hR c.hB (by show 9 < 10; omega) (c.hT.2 i hi).1, kept_cell h c.hS c.hR c.hB (by show 9 < 10; omega) (c.hT.2 i hi).2⟩⟩, kept_cell h c.hS c.hR c.hB (by show 7 < 10; omega) c.hm, kept_cell h c.hS c.hR c.hB (by show 4 < 10; omega) c.he⟩

def firstLoop : Code → Option Code
  | .loop c => some c
  | .seq a b => match firstLoop a with
    | some c => some c
    | none => firstLoop b
  | .block _ c => firstLoop c
  | .scope c => firstLoop c
  | .cond _ a b => match firstLoop a with
    | some c => some c
    | none => firstLoop b
  | _ => none

/-- The then of the test on a slot. -/
def thenOf (n : Nat) : Code → Option Code
  | .cond (.tmp i) a b => if i = n then some a else match thenOf n a with
    | some c => some c
    | none => thenOf n b
  | .seq a b => match thenOf n a with
    | some c => some c
    | none => thenOf n b
  | .block _ c => thenOf n c
  | .scope c => thenOf n c
  | .loop c => thenOf n c
  | _ => none

theorem frame_all (n : Nat) (t : Array Value) (h : t.size = n) : t = ((List.range n).map fun i => t.getD i undef).toArray := by
  apply Array.ext'
  apply List.ext_getElem
  · simp [h]
  · intro i h1 h2
    simp at h1 h2
    simp [h1]

/-- Scan's frame: the pointer in slot 0 is all that counts. -/
def FR (S : Nat) (a : Act) : Prop := a.defers = [] ∧ a.tmps.size = 334 ∧ a.tmps[0]? = some (.pointer (some ⟨S, 0, none⟩))

set_option maxRecDepth 1000000 in
theorem FR.open {S : Nat} {a : Act} (h : FR S a) : ∃ u : Nat → Value, a = ⟨#[.pointer (some ⟨S, 0, none⟩), u 1, u 2, u 3, u 4, u 5, u 6, u 7, u 8, u 9, u 10, u 11, u 12, u 13, u 14, u 15, u 16, u 17, u 18, u 19, u 20, u 21, u 22, u 23, u 24, u 25, u 26, u 27, u 28, u 29, u 30, u 31, u 32, u 33, u 34, u 35, u 36, u 37, u 38, u 39, u 40, u 41, u 42, u 43, u 44, u 45, u 46, u 47, u 48, u 49, u 50, u 51, u 52, u 53, u 54, u 55, u 56, u 57, u 58, u 59, u 60, u 61, u 62, u 63, u 64, u 65, u 66, u 67, u 68, u 69, u 70, u 71, u 72, u 73, u 74, u 75, u 76, u 77, u 78, u 79, u 80, u 81, u 82, u 83, u 84, u 85, u 86, u 87, u 88, u 89, u 90, u 91, u 92, u 93, u 94, u 95, u 96, u 97, u 98, u 99, u 100, u 101, u 102, u 103, u 104, u 105, u 106, u 107, u 108, u 109, u 110, u 111, u 112, u 113, u 114, u 115, u 116, u 117, u 118, u 119, u 120, u 121, u 122, u 123, u 124, u 125, u 126, u 127, u 128, u 129, u 130, u 131, u 132, u 133, u 134, u 135, u 136, u 137, u 138, u 139, u 140, u 141, u 142, u 143, u 144, u 145, u 146, u 147, u 148, u 149, u 150, u 151, u 152, u 153, u 154, u 155, u 156, u 157, u 158, u 159, u 160, u 161, u 162, u 163, u 164, u 165, u 166, u 167, u 168, u 169, u 170, u 171, u 172, u 173, u 174, u 175, u 176, u 177, u 178, u 179, u 180, u 181, u 182, u 183, u 184, u 185, u 186, u 187, u 188, u 189, u 190, u 191, u 192, u 193, u 194, u 195, u 196, u 197, u 198, u 199, u 200, u 201, u 202, u 203, u 204, u 205, u 206, u 207, u 208, u 209, u 210, u 211, u 212, u 213, u 214, u 215, u 216, u 217, u 218, u 219, u 220, u 221, u 222, u 223, u 224, u 225, u 226, u 227, u 228, u 229, u 230, u 231, u 232, u 233, u 234, u 235, u 236, u 237, u 238, u 239, u 240, u 241, u 242, u 243, u 244, u 245, u 246, u 247, u 248, u 249, u 250, u 251, u 252, u 253, u 254, u 255, u 256, u 257, u 258, u 259, u 260, u 261, u 262, u 263, u 264, u 265, u 266, u 267, u 268, u 269, u 270, u 271, u 272, u 273, u 274, u 275, u 276, u 277, u 278, u 279, u 280, u 281, u 282, u 283, u 284, u 285, u 286, u 287, u 288, u 289, u 290, u 291, u 292, u 293, u 294, u 295, u 296, u 297, u 298, u 299, u 300, u 301, u 302, u 303, u 304, u 305, u 306, u 307, u 308, u 309, u 310, u 311, u 312, u 313, u 314, u 315, u 316, u 317, u 318, u 319, u 320, u 321, u 322, u 323, u 324, u 325, u 326, u 327, u 328, u 329, u 330, u 331, u 332, u 333], []⟩ := by
  obtain ⟨t, d⟩ := a
  obtain ⟨h0, hs, h1⟩ := h
  simp only at h0 hs h1
  subst h0
  have g : ∀ (i : Nat) (v : Value), t[i]? = some v → t.getD i undef = v := fun i v hv => by rw [Array.getD_eq_getD_getElem?, hv]; rfl
  have e := frame_all 334 t hs
  generalize hu : (fun i => t.getD i undef) = u at e
  refine ⟨u, ?_⟩
  have e0 : u 0 = .pointer (some ⟨S, 0, none⟩) := by rw [← hu]; exact g 0 _ h1
  have r : ((List.range 334).map u).toArray = #[u 0, u 1, u 2, u 3, u 4, u 5, u 6, u 7, u 8, u 9, u 10, u 11, u 12, u 13, u 14, u 15, u 16, u 17, u 18, u 19, u 20, u 21, u 22, u 23, u 24, u 25, u 26, u 27, u 28, u 29, u 30, u 31, u 32, u 33, u 34, u 35, u 36, u 37, u 38, u 39, u 40, u 41, u 42, u 43, u 44, u 45, u 46, u 47, u 48, u 49, u 50, u 51, u 52, u 53, u 54, u 55, u 56, u 57, u 58, u 59, u 60, u 61, u 62, u 63, u 64, u 65, u 66, u 67, u 68, u 69, u 70, u 71, u 72, u 73, u 74, u 75, u 76, u 77, u 78, u 79, u 80, u 81, u 82, u 83, u 84, u 85, u 86, u 87, u 88, u 89, u 90, u 91, u 92, u 93, u 94, u 95, u 96, u 97, u 98, u 99, u 100, u 101, u 102, u 103, u 104, u 105, u 106, u 107, u 108, u 109, u 110, u 111, u 112, u 113, u 114, u 115, u 116, u 117, u 118, u 119, u 120, u 121, u 122, u 123, u 124, u 125, u 126, u 127, u 128, u 129, u 130, u 131, u 132, u 133, u 134, u 135, u 136, u 137, u 138, u 139, u 140, u 141, u 142, u 143, u 144, u 145, u 146, u 147, u 148, u 149, u 150, u 151, u 152, u 153, u 154, u 155, u 156, u 157, u 158, u 159, u 160, u 161, u 162, u 163, u 164, u 165, u 166, u 167, u 168, u 169, u 170, u 171, u 172, u 173, u 174, u 175, u 176, u 177, u 178, u 179, u 180, u 181, u 182, u 183, u 184, u 185, u 186, u 187, u 188, u 189, u 190, u 191, u 192, u 193, u 194, u 195, u 196, u 197, u 198, u 199, u 200, u 201, u 202, u 203, u 204, u 205, u 206, u 207, u 208, u 209, u 210, u 211, u 212, u 213, u 214, u 215, u 216, u 217, u 218, u 219, u 220, u 221, u 222, u 223, u 224, u 225, u 226, u 227, u 228, u 229, u 230, u 231, u 232, u 233, u 234, u 235, u 236, u 237, u 238, u 239, u 240, u 241, u 242, u 243, u 244, u 245, u 246, u 247, u 248, u 249, u 250, u 251, u 252, u 253, u 254, u 255, u 256, u 257, u 258, u 259, u 260, u 261, u 262, u 263, u 264, u 265, u 266, u 267, u 268, u 269, u 270, u 271, u 272, u 273, u 274, u 275, u 276, u 277, u 278, u 279, u 280, u 281, u 282, u 283, u 284, u 285, u 286, u 287, u 288, u 289, u 290, u 291, u 292, u 293, u 294, u 295, u 296, u 297, u 298, u 299, u 300, u 301, u 302, u 303, u 304, u 305, u 306, u 307, u 308, u 309, u 310, u 311, u 312, u 313, u 314, u 315, u 316, u 317, u 318, u 319, u 320, u 321, u 322, u 323, u 324, u 325, u 326, u 327, u 328, u 329, u 330, u 331, u 332, u 333] := rfl
  rw [e, r, e0]

theorem ret26 {Q : Ending → World → Prop} (a : Act) (w : World) (v : Value) (hd : a.defers = []) (h2 : a.tmps.getD 2 undef = v) (hq : Q (.returned v) w) : bodyPost Tryf.prog Tryf.f26 Q .ret a w := by
  refine bodyPost_ret (v := v) ?_ hd hq
  rw [← h2]
  exact results_tmp rfl _ _ _

end Go.Proofs.Qxb6613537aFmt
