/-
  THE ROUND of (Lexer).Next's loop (22): its frame and its body.
-/
import Derived.Test.Qxb6613163aDoorWp
import Derived.Handy
import Derived.Deep.RegionWith
import Derived.Deep.CutRange
namespace Go.Proofs.Qxb6613163aDoor
open Go.RowKit

def firstLoop : Code → Option Code
  | .loop c => some c
  | .seq a b => match firstLoop a with
    | some c => some c
    | none => firstLoop b
  | .block _ c => firstLoop c
  | .scope c => firstLoop c
  | .cond _ a b => match firstLoop a with
    | some c => some c
    | none => firstLoop b
  | _ => none

/-- A frame of so many slots, named by their places. -/
theorem frame_all (n : Nat) (t : Array Value) (h : t.size = n) : t = ((List.range n).map fun i => t.getD i undef).toArray := by
  apply Array.ext'
  apply List.ext_getElem
  · simp [h]
  · intro i h1 h2
    simp at h1 h2
    simp [h1]

/-- Where the loop stands: what the frame holds. -/
def FR (l : Lx.Lex) (q : ByteArray) (k : Nat) (w : World) (a : Act) : Prop :=
  a.defers = [] ∧ a.tmps.size = 372 ∧ a.tmps[0]? = some (.agg #[.bool l.exec, .bool l.noEsc, .bool l.ansi]) ∧ a.tmps[1]? = some (.string q) ∧ a.tmps[2]? = some (.int .i64 k) ∧ a.tmps[3]? = some (.pointer (some ⟨w.heap.size, 0, none⟩)) ∧ a.tmps[6]? = some (.pointer (some ⟨w.heap.size + 1, 0, none⟩))

set_option maxRecDepth 1000000 in
theorem FR.open {l : Lx.Lex} {q : ByteArray} {k : Nat} {w : World} {a : Act} (h : FR l q k w a) : ∃ u : Nat → Value, a = ⟨#[.agg #[.bool l.exec, .bool l.noEsc, .bool l.ansi], .string q, .int .i64 k, .pointer (some ⟨w.heap.size, 0, none⟩), u 4, u 5, .pointer (some ⟨w.heap.size + 1, 0, none⟩), u 7, u 8, u 9, u 10, u 11, u 12, u 13, u 14, u 15, u 16, u 17, u 18, u 19, u 20, u 21, u 22, u 23, u 24, u 25, u 26, u 27, u 28, u 29, u 30, u 31, u 32, u 33, u 34, u 35, u 36, u 37, u 38, u 39, u 40, u 41, u 42, u 43, u 44, u 45, u 46, u 47, u 48, u 49, u 50, u 51, u 52, u 53, u 54, u 55, u 56, u 57, u 58, u 59, u 60, u 61, u 62, u 63, u 64, u 65, u 66, u 67, u 68, u 69, u 70, u 71, u 72, u 73, u 74, u 75, u 76, u 77, u 78, u 79, u 80, u 81, u 82, u 83, u 84, u 85, u 86, u 87, u 88, u 89, u 90, u 91, u 92, u 93, u 94, u 95, u 96, u 97, u 98, u 99, u 100, u 101, u 102, u 103, u 104, u 105, u 106, u 107, u 108, u 109, u 110, u 111, u 112, u 113, u 114, u 115, u 116, u 117, u 118, u 119, u 120, u 121, u 122, u 123, u 124, u 125, u 126, u 127, u 128, u 129, u 130, u 131, u 132, u 133, u 134, u 135, u 136, u 137, u 138, u 139, u 140, u 141, u 142, u 143, u 144, u 145, u 146, u 147, u 148, u 149, u 150, u 151, u 152, u 153, u 154, u 155, u 156, u 157, u 158, u 159, u 160, u 161, u 162, u 163, u 164, u 165, u 166, u 167, u 168, u 169, u 170, u 171, u 172, u 173, u 174, u 175, u 176, u 177, u 178, u 179, u 180, u 181, u 182, u 183, u 184, u 185, u 186, u 187, u 188, u 189, u 190, u 191, u 192, u 193, u 194, u 195, u 196, u 197, u 198, u 199, u 200, u 201, u 202, u 203, u 204, u 205, u 206, u 207, u 208, u 209, u 210, u 211, u 212, u 213, u 214, u 215, u 216, u 217, u 218, u 219, u 220, u 221, u 222, u 223, u 224, u 225, u 226, u 227, u 228, u 229, u 230, u 231, u 232, u 233, u 234, u 235, u 236, u 237, u 238, u 239, u 240, u 241, u 242, u 243, u 244, u 245, u 246, u 247, u 248, u 249, u 250, u 251, u 252, u 253, u 254, u 255, u 256, u 257, u 258, u 259, u 260, u 261, u 262, u 263, u 264, u 265, u 266, u 267, u 268, u 269, u 270, u 271, u 272, u 273, u 274, u 275, u 276, u 277, u 278, u 279, u 280, u 281, u 282, u 283, u 284, u 285, u 286, u 287, u 288, u 289, u 290, u 291, u 292, u 293, u 294, u 295, u 296, u 297, u 298, u 299, u 300, u 301, u 302, u 303, u 304, u 305, u 306, u 307, u 308, u 309, u 310, u 311, u 312, u 313, u 314, u 315, u 316, u 317, u 318, u 319, u 320, u 321, u 322, u 323, u 324, u 325, u 326, u 327, u 328, u 329, u 330, u 331, u 332, u 333, u 334, u 335, u 336, u 337, u 338, u 339, u 340, u 341, u 342, u 343, u 344, u 345, u 346, u 347, u 348, u 349, u 350, u 351, u 352, u 353, u 354, u 355, u 356, u 357, u 358, u 359, u 360, u 361, u 362, u 363, u 364, u 365, u 366, u 367, u 368, u 369, u 370, u 371], []⟩ := by
  obtain ⟨t, d⟩ := a
  obtain ⟨h0, hs, h1, h2, h3, h4, h5⟩ := h
  simp only at h0 hs h1 h2 h3 h4 h5
  subst h0
  have g : ∀ (i : Nat) (v : Value), t[i]? = some v → t.getD i undef = v := fun i v hv => by rw [Array.getD_eq_getD_getElem?, hv]; rfl
  have e := frame_all 372 t hs
  generalize hu : (fun i => t.getD i undef) = u at e
  refine ⟨u, ?_⟩
  have e0 : u 0 = .agg #[.bool l.exec, .bool l.noEsc, .bool l.ansi] := by rw [← hu]; exact g 0 _ h1
  have e1 : u 1 = .string q := by rw [← hu]; exact g 1 _ h2
  have e2 : u 2 = .int .i64 k := by rw [← hu]; exact g 2 _ h3
  have e3 : u 3 = .pointer (some ⟨w.heap.size, 0, none⟩) := by rw [← hu]; exact g 3 _ h4
  have e6 : u 6 = .pointer (some ⟨w.heap.size + 1, 0, none⟩) := by rw [← hu]; exact g 6 _ h5
  have r : ((List.range 372).map u).toArray = #[u 0, u 1, u 2, u 3, u 4, u 5, u 6, u 7, u 8, u 9, u 10, u 11, u 12, u 13, u 14, u 15, u 16, u 17, u 18, u 19, u 20, u 21, u 22, u 23, u 24, u 25, u 26, u 27, u 28, u 29, u 30, u 31, u 32, u 33, u 34, u 35, u 36, u 37, u 38, u 39, u 40, u 41, u 42, u 43, u 44, u 45, u 46, u 47, u 48, u 49, u 50, u 51, u 52, u 53, u 54, u 55, u 56, u 57, u 58, u 59, u 60, u 61, u 62, u 63, u 64, u 65, u 66, u 67, u 68, u 69, u 70, u 71, u 72, u 73, u 74, u 75, u 76, u 77, u 78, u 79, u 80, u 81, u 82, u 83, u 84, u 85, u 86, u 87, u 88, u 89, u 90, u 91, u 92, u 93, u 94, u 95, u 96, u 97, u 98, u 99, u 100, u 101, u 102, u 103, u 104, u 105, u 106, u 107, u 108, u 109, u 110, u 111, u 112, u 113, u 114, u 115, u 116, u 117, u 118, u 119, u 120, u 121, u 122, u 123, u 124, u 125, u 126, u 127, u 128, u 129, u 130, u 131, u 132, u 133, u 134, u 135, u 136, u 137, u 138, u 139, u 140, u 141, u 142, u 143, u 144, u 145, u 146, u 147, u 148, u 149, u 150, u 151, u 152, u 153, u 154, u 155, u 156, u 157, u 158, u 159, u 160, u 161, u 162, u 163, u 164, u 165, u 166, u 167, u 168, u 169, u 170, u 171, u 172, u 173, u 174, u 175, u 176, u 177, u 178, u 179, u 180, u 181, u 182, u 183, u 184, u 185, u 186, u 187, u 188, u 189, u 190, u 191, u 192, u 193, u 194, u 195, u 196, u 197, u 198, u 199, u 200, u 201, u 202, u 203, u 204, u 205, u 206, u 207, u 208, u 209, u 210, u 211, u 212, u 213, u 214, u 215, u 216, u 217, u 218, u 219, u 220, u 221, u 222, u 223, u 224, u 225, u 226, u 227, u 228, u 229, u 230, u 231, u 232, u 233, u 234, u 235, u 236, u 237, u 238, u 239, u 240, u 241, u 242, u 243, u 244, u 245, u 246, u 247, u 248, u 249, u 250, u 251, u 252, u 253, u 254, u 255, u 256, u 257, u 258, u 259, u 260, u 261, u 262, u 263, u 264, u 265, u 266, u 267, u 268, u 269, u 270, u 271, u 272, u 273, u 274, u 275, u 276, u 277, u 278, u 279, u 280, u 281, u 282, u 283, u 284, u 285, u 286, u 287, u 288, u 289, u 290, u 291, u 292, u 293, u 294, u 295, u 296, u 297, u 298, u 299, u 300, u 301, u 302, u 303, u 304, u 305, u 306, u 307, u 308, u 309, u 310, u 311, u 312, u 313, u 314, u 315, u 316, u 317, u 318, u 319, u 320, u 321, u 322, u 323, u 324, u 325, u 326, u 327, u 328, u 329, u 330, u 331, u 332, u 333, u 334, u 335, u 336, u 337, u 338, u 339, u 340, u 341, u 342, u 343, u 344, u 345, u 346, u 347, u 348, u 349, u 350, u 351, u 352, u 353, u 354, u 355, u 356, u 357, u 358, u 359, u 360, u 361, u 362, u 363, u 364, u 365, u 366, u 367, u 368, u 369, u 370, u 371] := by kernel_rfl
  rw [e, r, e0, e1, e2, e3, e6]

/-- The else of the test on a slot. -/
def elseOf (n : Nat) : Code → Option Code
  | .cond (.tmp i) a b => if i = n then some b else match elseOf n a with
    | some c => some c
    | none => elseOf n b
  | .seq a b => match elseOf n a with
    | some c => some c
    | none => elseOf n b
  | .block _ c => elseOf n c
  | .scope c => elseOf n c
  | .loop c => elseOf n c
  | _ => none

/-- The then of the test on a slot. -/
def thenOf (n : Nat) : Code → Option Code
  | .cond (.tmp i) a b => if i = n then some a else match thenOf n a with
    | some c => some c
    | none => thenOf n b
  | .seq a b => match thenOf n a with
    | some c => some c
    | none => thenOf n b
  | .block _ c => thenOf n c
  | .scope c => thenOf n c
  | .loop c => thenOf n c
  | _ => none

def FR8 (l : Lx.Lex) (q : ByteArray) (k : Nat) (c : UInt8) (w : World) (a : Act) : Prop := FR l q k w a ∧ a.tmps[8]? = some (.int .u8 c.toNat)

set_option maxRecDepth 1000000 in
theorem FR8.open {l : Lx.Lex} {q : ByteArray} {k : Nat} {c : UInt8} {w : World} {a : Act} (h : FR8 l q k c w a) : ∃ u : Nat → Value, a = ⟨#[.agg #[.bool l.exec, .bool l.noEsc, .bool l.ansi], .string q, .int .i64 k, .pointer (some ⟨w.heap.size, 0, none⟩), u 4, u 5, .pointer (some ⟨w.heap.size + 1, 0, none⟩), u 7, .int .u8 c.toNat, u 9, u 10, u 11, u 12, u 13, u 14, u 15, u 16, u 17, u 18, u 19, u 20, u 21, u 22, u 23, u 24, u 25, u 26, u 27, u 28, u 29, u 30, u 31, u 32, u 33, u 34, u 35, u 36, u 37, u 38, u 39, u 40, u 41, u 42, u 43, u 44, u 45, u 46, u 47, u 48, u 49, u 50, u 51, u 52, u 53, u 54, u 55, u 56, u 57, u 58, u 59, u 60, u 61, u 62, u 63, u 64, u 65, u 66, u 67, u 68, u 69, u 70, u 71, u 72, u 73, u 74, u 75, u 76, u 77, u 78, u 79, u 80, u 81, u 82, u 83, u 84, u 85, u 86, u 87, u 88, u 89, u 90, u 91, u 92, u 93, u 94, u 95, u 96, u 97, u 98, u 99, u 100, u 101, u 102, u 103, u 104, u 105, u 106, u 107, u 108, u 109, u 110, u 111, u 112, u 113, u 114, u 115, u 116, u 117, u 118, u 119, u 120, u 121, u 122, u 123, u 124, u 125, u 126, u 127, u 128, u 129, u 130, u 131, u 132, u 133, u 134, u 135, u 136, u 137, u 138, u 139, u 140, u 141, u 142, u 143, u 144, u 145, u 146, u 147, u 148, u 149, u 150, u 151, u 152, u 153, u 154, u 155, u 156, u 157, u 158, u 159, u 160, u 161, u 162, u 163, u 164, u 165, u 166, u 167, u 168, u 169, u 170, u 171, u 172, u 173, u 174, u 175, u 176, u 177, u 178, u 179, u 180, u 181, u 182, u 183, u 184, u 185, u 186, u 187, u 188, u 189, u 190, u 191, u 192, u 193, u 194, u 195, u 196, u 197, u 198, u 199, u 200, u 201, u 202, u 203, u 204, u 205, u 206, u 207, u 208, u 209, u 210, u 211, u 212, u 213, u 214, u 215, u 216, u 217, u 218, u 219, u 220, u 221, u 222, u 223, u 224, u 225, u 226, u 227, u 228, u 229, u 230, u 231, u 232, u 233, u 234, u 235, u 236, u 237, u 238, u 239, u 240, u 241, u 242, u 243, u 244, u 245, u 246, u 247, u 248, u 249, u 250, u 251, u 252, u 253, u 254, u 255, u 256, u 257, u 258, u 259, u 260, u 261, u 262, u 263, u 264, u 265, u 266, u 267, u 268, u 269, u 270, u 271, u 272, u 273, u 274, u 275, u 276, u 277, u 278, u 279, u 280, u 281, u 282, u 283, u 284, u 285, u 286, u 287, u 288, u 289, u 290, u 291, u 292, u 293, u 294, u 295, u 296, u 297, u 298, u 299, u 300, u 301, u 302, u 303, u 304, u 305, u 306, u 307, u 308, u 309, u 310, u 311, u 312, u 313, u 314, u 315, u 316, u 317, u 318, u 319, u 320, u 321, u 322, u 323, u 324, u 325, u 326, u 327, u 328, u 329, u 330, u 331, u 332, u 333, u 334, u 335, u 336, u 337, u 338, u 339, u 340, u 341, u 342, u 343, u 344, u 345, u 346, u 347, u 348, u 349, u 350, u 351, u 352, u 353, u 354, u 355, u 356, u 357, u 358, u 359, u 360, u 361, u 362, u 363, u 364, u 365, u 366, u 367, u 368, u 369, u 370, u 371], []⟩ := by
  obtain ⟨u, rfl⟩ := h.1.open
  have h8 : some (u 8) = some (Value.int .u8 c.toNat) := h.2
  injection h8 with h8
  rw [h8]
  exact ⟨u, rfl⟩

/-- The box of the lexer and the token's variable, new. -/
def W2 (l : Lx.Lex) (w : World) : World := (w.alloc (.cells #[.bool l.exec, .bool l.noEsc, .bool l.ansi] 26)).alloc (.cells #[.int .u8 0, .string ⟨#[]⟩, .bool false, .int .i64 0, .int .i64 0] 37)

/-- The body leaves by a return that says what is asked; by nothing else. -/
abbrev retOnly (R : Option Lx.Tok) (w : World) : Exit → Act → World → Prop := fun e a w' =>
  match e with
  | .ret => bodyPost Tryd.prog Tryd.f22 (fun e w' => NextIs R e ∧ Below w.heap.size w w') .ret a w'
  | _ => False

theorem quoted_none (l : Lx.Lex) (q : ByteArray) (k : Nat) (w : World) (hq : q.size ≤ 1073741824) (hk : k < q.size) (h : Hid (Lx.quoted l (q.data.toList.drop k) = none)) :
    Calls Tryd.prog 33 #[.agg #[.bool l.exec, .bool l.noEsc, .bool l.ansi], .string (q.extract k q.size)] w fun e w' => e = .returned (.tuple #[.string ⟨#[]⟩, .int .i64 0, .bool false]) ∧ Below w.heap.size w w' := quoted_at l q k none w hq hk h

theorem quoted_some (l : Lx.Lex) (q : ByteArray) (k : Nat) (t : List UInt8) (n : Nat) (w : World) (hq : q.size ≤ 1073741824) (hk : k < q.size) (h : Hid (Lx.quoted l (q.data.toList.drop k) = some (t, n))) :
    Calls Tryd.prog 33 #[.agg #[.bool l.exec, .bool l.noEsc, .bool l.ansi], .string (q.extract k q.size)] w fun e w' => e = .returned (.tuple #[.string ⟨t.toArray⟩, .int .i64 n, .bool true]) ∧ Below w.heap.size w w' := quoted_at l q k _ w hq hk h

/-- What a new variable of five cells gives a walk in a world that has grown. -/
theorem tok_cells {l : Lx.Lex} {w w1 : World} (h : Below (W2 l w).heap.size (W2 l w) w1) : w1.heap[w.heap.size + 1]? = some (.cells #[.int .u8 0, .string ⟨#[]⟩, .bool false, .int .i64 0, .int .i64 0] 37) := by
  rw [h.block (w.heap.size + 1) (by simp [W2])]
  exact top_block _ _ _ (by simp)

theorem lex_cells {l : Lx.Lex} {w w1 : World} (h : Below (W2 l w).heap.size (W2 l w) w1) : w1.heap[w.heap.size]? = some (.cells #[.bool l.exec, .bool l.noEsc, .bool l.ansi] 26) := by
  rw [h.block w.heap.size (by simp [W2]; omega)]
  unfold W2
  rw [heap_alloc_old _ _ (by simp)]
  exact heap_alloc_new _ _

theorem W2_below (l : Lx.Lex) (w : World) : Below w.heap.size w (W2 l w) := ((Below.refl _ w).alloc (by simp) _).alloc (by simp) _

theorem W2_below2 {l : Lx.Lex} {w w1 : World} (h : Below (W2 l w).heap.size (W2 l w) w1) : Below w.heap.size w w1 := (W2_below l w).trans (h.mono (W2_below l w).size)

/-- The token's variable in a world that has grown, as a walk asks for it. -/
theorem tok_facts {l : Lx.Lex} {w w1 : World} (h : Below (W2 l w).heap.size (W2 l w) w1) :
    (w.heap.size + 1 < w1.heap.size) ∧
    (w1.cell? ⟨w.heap.size + 1, 0, none⟩ = some (.int .u8 0) ∧ w1.cell? ⟨w.heap.size + 1, 1, none⟩ = some (.string ⟨#[]⟩) ∧ w1.cell? ⟨w.heap.size + 1, 2, none⟩ = some (.bool false) ∧ w1.cell? ⟨w.heap.size + 1, 3, none⟩ = some (.int .i64 0) ∧ w1.cell? ⟨w.heap.size + 1, 4, none⟩ = some (.int .i64 0)) ∧
    (w1.frozen? ⟨w.heap.size + 1, 0, none⟩ = false ∧ w1.frozen? ⟨w.heap.size + 1, 1, none⟩ = false ∧ w1.frozen? ⟨w.heap.size + 1, 2, none⟩ = false ∧ w1.frozen? ⟨w.heap.size + 1, 3, none⟩ = false ∧ w1.frozen? ⟨w.heap.size + 1, 4, none⟩ = false) := by
  have hb := tok_cells h
  have f : ∀ j, w1.frozen? ⟨w.heap.size + 1, j, none⟩ = false := fun j => frozen_of_row w1 _ j _ 37 hb
  have c : ∀ j, w1.cell? ⟨w.heap.size + 1, j, none⟩ = (#[.int .u8 0, .string ⟨#[]⟩, .bool false, .int .i64 0, .int .i64 0] : Array Value)[j]? := fun j => cell_of_row w1 _ j _ 37 (0, 0) hb
  exact ⟨lt_of_block hb, ⟨c 0, c 1, c 2, c 3, c 4⟩, f 0, f 1, f 2, f 3, f 4⟩

theorem lex_facts {l : Lx.Lex} {w w1 : World} (h : Below (W2 l w).heap.size (W2 l w) w1) :
    w1.cell? ⟨w.heap.size, 0, none⟩ = some (.bool l.exec) ∧ w1.cell? ⟨w.heap.size, 1, none⟩ = some (.bool l.noEsc) ∧ w1.cell? ⟨w.heap.size, 2, none⟩ = some (.bool l.ansi) := by
  have hb := lex_cells h
  have c : ∀ j, w1.cell? ⟨w.heap.size, j, none⟩ = (#[.bool l.exec, .bool l.noEsc, .bool l.ansi] : Array Value)[j]? := fun j => cell_of_row w1 _ j _ 26 (0, 0) hb
  exact ⟨c 0, c 1, c 2⟩

theorem put5 {w w1 : World} (h : Below w.heap.size w w1) (a b c d e : Value) : Below w.heap.size w (((((w1.setCell ⟨w.heap.size + 1, 0, none⟩ a).setCell ⟨w.heap.size + 1, 1, none⟩ b).setCell ⟨w.heap.size + 1, 2, none⟩ c).setCell ⟨w.heap.size + 1, 3, none⟩ d).setCell ⟨w.heap.size + 1, 4, none⟩ e) :=
  ((((h.setCell (p := ⟨w.heap.size + 1, 0, none⟩) (Nat.le_succ _) a).setCell (p := ⟨w.heap.size + 1, 1, none⟩) (Nat.le_succ _) b).setCell (p := ⟨w.heap.size + 1, 2, none⟩) (Nat.le_succ _) c).setCell (p := ⟨w.heap.size + 1, 3, none⟩) (Nat.le_succ _) d).setCell (p := ⟨w.heap.size + 1, 4, none⟩) (Nat.le_succ _) e

theorem below_two (w : World) (a b : Obj) : Below w.heap.size w ((w.alloc a).alloc b) := ((Below.refl _ w).alloc (by simp) _).alloc (by simp) _

theorem extract_take (q : ByteArray) (k n : Nat) : q.extract k (k + n) = ⟨((q.data.toList.drop k).take n).toArray⟩ := by
  have h := Lib.extract_data q k (k + n)
  rw [show k + n - k = n from by omega] at h
  rw [← h]

theorem next_tok {R : Option Lx.Tok} {k n : Nat} {kd : UInt8} {t : List UInt8} {b : Bool} {z : Int} {s : ByteArray} {v : Int} (HR : Hid (R = some (Lx.Tok.shift k ⟨kd, t, b, 0, n⟩))) (hs : s = ⟨t.toArray⟩) (hz : z = (k : Int) + n) (hv : v = (kd.toNat : Int)) :
    NextIs R (.returned (.tuple #[.agg #[.int .u8 v, .string s, .bool b, .int .i64 k, .int .i64 z], .nilIface])) := by
  rw [HR.out, hs, hz, hv]
  show _ = Ending.returned (.tuple #[tokVal _, .nilIface])
  simp only [tokVal, Lx.Tok.shift, Nat.zero_add, Int.natCast_add]
  rw [Int.add_comm]

theorem next_none {R : Option Lx.Tok} (HR : Hid (R = none)) {v z : Int} {s : ByteArray} {b : Bool} {ev : Value} (hev : ev = .nilIface ∨ ∃ v, ev = .iface 66 v) :
    NextIs R (.returned (.tuple #[.agg #[.int .u8 0, .string s, .bool b, .int .i64 v, .int .i64 z], ev])) := by
  rw [HR.out]
  exact ⟨s, b, v, z, ev, rfl, hev⟩

/-- Five stores into the token's variable. -/
theorem put5_block {w w1 : World} {x0 x1 x2 x3 x4 : Value} (hb : w1.heap[w.heap.size + 1]? = some (.cells #[x0, x1, x2, x3, x4] 37)) (a b c d e : Value) :
    (((((w1.setCell ⟨w.heap.size + 1, 0, none⟩ a).setCell ⟨w.heap.size + 1, 1, none⟩ b).setCell ⟨w.heap.size + 1, 2, none⟩ c).setCell ⟨w.heap.size + 1, 3, none⟩ d).setCell ⟨w.heap.size + 1, 4, none⟩ e).heap[w.heap.size + 1]? = some (.cells #[a, b, c, d, e] 37) := by
  simp [World.setCell, Array.getElem?_modify, hb]

theorem old_block {w1 : World} {n : Nat} {o p : Obj} (h : w1.heap[n]? = some o) : (w1.alloc p).heap[n]? = some o := by
  rw [heap_alloc_old w1 p (lt_of_block h)]; exact h

theorem ret22 {R : Option Lx.Tok} {w : World} (tmps : Array Value) (W' : World) (v0 v1 v2 v3 v4 ev : Value) (h6 : tmps.getD 6 undef = .pointer (some ⟨w.heap.size + 1, 0, none⟩)) (h7 : tmps.getD 7 undef = ev)
    (hb : W'.heap[w.heap.size + 1]? = some (.cells #[v0, v1, v2, v3, v4] 37)) (hN : NextIs R (.returned (.tuple #[.agg #[v0, v1, v2, v3, v4], ev]))) (hB : Below w.heap.size w W') :
    bodyPost Tryd.prog Tryd.f22 (fun e w' => NextIs R e ∧ Below w.heap.size w w') .ret ⟨tmps, []⟩ W' := by
  have c : ∀ j, W'.cell? ⟨w.heap.size + 1, j, none⟩ = (#[v0, v1, v2, v3, v4] : Array Value)[j]? := fun j => cell_of_row W' _ j _ 37 (0, 0) hb
  have c0 := c 0
  have c1 := c 1
  have c2 := c 2
  have c3 := c 3
  have c4 := c 4
  simp only [List.getElem?_toArray, List.getElem?_cons_zero, List.getElem?_cons_succ] at c0 c1 c2 c3 c4
  refine bodyPost_ret (v := .tuple #[.agg #[v0, v1, v2, v3, v4], ev]) ?_ rfl ⟨hN, hB⟩
  rw [results_cell_tmp rfl, h6, h7]
  simp [go_sem, c0, c1, c2, c3, c4]

end Go.Proofs.Qxb6613163aDoor
