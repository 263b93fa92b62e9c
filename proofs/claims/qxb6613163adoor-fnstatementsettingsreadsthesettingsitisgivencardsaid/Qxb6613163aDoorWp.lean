/-
  The calls of (Lexer).Next (22), by their places in the text; the plain steps.
-/
import Derived.Test.Qxb6613163aDoorWd
import Derived.Deep.RegionWith
namespace Go.Proofs.Qxb6613163aDoor
open Go.RowKit

def lexVal (l : Lx.Lex) : Value := .agg #[.bool l.exec, .bool l.noEsc, .bool l.ansi]
def tokVal (t : Lx.Tok) : Value := .agg #[.int .u8 t.kind.toNat, .string ⟨t.text.toArray⟩, .bool t.quoted, .int .i64 t.lo, .int .i64 t.hi]

/-- What Next answers, as a token or none. -/
def NextIs (o : Option Lx.Tok) (e : Ending) : Prop :=
  match o with
  | some t => e = .returned (.tuple #[tokVal t, .nilIface])
  | none => ∃ s b a z ev, e = .returned (.tuple #[.agg #[.int .u8 0, .string s, .bool b, .int .i64 a, .int .i64 z], ev]) ∧ (ev = .nilIface ∨ ∃ v, ev = .iface 66 v)

theorem pre_at (q : ByteArray) (k : Nat) (p : List UInt8) (b : Bool) (w : World) (h : Hid (Lib.hasPrefix (q.data.toList.drop k) p = b)) :
    Calls Tryd.prog 31 #[.string (q.extract k q.size), .string ⟨p.toArray⟩] w fun e w' => e = .returned (.bool b) ∧ w' = w := by
  have := Tryd.strings_HasPrefix (q.extract k q.size) ⟨p.toArray⟩ w
  rw [Lib.extract_to_end, h.out] at this
  exact this

theorem byte_in (q : ByteArray) (k : Nat) (c : UInt8) (x : Int) (w : World) (h : Hid (Lib.indexByte (q.data.toList.drop k) c = x)) :
    Calls Tryd.prog 30 #[.string (q.extract k q.size), .int .u8 c.toNat] w fun e w' => e = .returned (.int .i64 x) ∧ w' = w := by
  have := Tryd.strings_IndexByte (q.extract k q.size) c.toNat w
  rw [Lib.extract_to_end] at this
  have e : ((c.toNat : Int).toNat.toUInt8) = c := by simp
  rw [e, h.out] at this
  exact this

theorem index_in (q : ByteArray) (k : Nat) (p : List UInt8) (x : Int) (m : Int) (w : World) (hq : q.size ≤ 1073741824) (hm : w.cell? ⟨5, 0, none⟩ = some (.int .i64 m)) (h : Hid (Lib.index (q.data.toList.drop k) p = x)) :
    Calls Tryd.prog 32 #[.string (q.extract k q.size), .string ⟨p.toArray⟩] w fun e w' => e = .returned (.int .i64 x) ∧ w' = w := by
  have hsz : (q.extract k q.size).size < 4294967281 := by simp; omega
  have := Tryd.strings_Index (q.extract k q.size) ⟨p.toArray⟩ m w hsz hm
  rw [Lib.extract_to_end, h.out] at this
  exact this

theorem blank_at (c : UInt8) (x : Int) (w : World) (h : Hid (Lib.indexByte [32, 9, 10, 13, 12, 11, 59] c = x)) :
    Calls Tryd.prog 30 #[.string ⟨#[32, 9, 10, 13, 12, 11, 59]⟩, .int .u8 c.toNat] w fun e w' => e = .returned (.int .i64 x) ∧ w' = w := by
  have := Tryd.strings_IndexByte ⟨#[32, 9, 10, 13, 12, 11, 59]⟩ c.toNat w
  have e : ((c.toNat : Int).toNat.toUInt8) = c := by simp
  rw [e] at this
  have e2 : (ByteArray.mk #[32, 9, 10, 13, 12, 11, 59]).data.toList = [32, 9, 10, 13, 12, 11, 59] := rfl
  rw [e2, h.out] at this
  exact this

theorem name_at (q : ByteArray) (k : Nat) (d : Bool) (n : Nat) (w : World) (hq : q.size ≤ 1073741824) (h : Hid (Lx.nameLen d (q.data.toList.drop k) = n)) :
    Calls Tryd.prog 35 #[.string (q.extract k q.size), .bool d] w fun e w' => e = .returned (.int .i64 n) ∧ w' = w := by
  have := nameLen_any (q.extract k q.size) d w (by simp; omega)
  rw [Lib.extract_to_end, h.out] at this
  exact this

theorem num_at (q : ByteArray) (k : Nat) (n : Nat) (w : World) (hq : q.size ≤ 1073741824) (h : Hid (Lx.numLen (q.data.toList.drop k) = n)) :
    Calls Tryd.prog 37 #[.string (q.extract k q.size)] w fun e w' => e = .returned (.int .i64 n) ∧ w' = w := by
  have := numLen_any (q.extract k q.size) w (by simp; omega)
  rw [Lib.extract_to_end, h.out] at this
  exact this

theorem quoted_at (l : Lx.Lex) (q : ByteArray) (k : Nat) (x : Option (List UInt8 × Nat)) (w : World) (hq : q.size ≤ 1073741824) (hk : k < q.size) (h : Hid (Lx.quoted l (q.data.toList.drop k) = x)) :
    Calls Tryd.prog 33 #[.agg #[.bool l.exec, .bool l.noEsc, .bool l.ansi], .string (q.extract k q.size)] w fun e w' => e = .returned (quotedVal x) ∧ Below w.heap.size w w' := by
  have := quoted_any l (q.extract k q.size) w (by simp; omega) (by simp; omega)
  rw [Lib.extract_to_end, h.out] at this
  exact this

/-! ### the plain steps -/
theorem rel_skip {l : Lx.Lex} {L : List UInt8} {k j : Nat} {R : Option Lx.Tok} (h : (Lx.lexN l (L.drop k)).map (Lx.Tok.shift k) = R) (hs : Lx.step l (L.drop k) = some (.inl j)) :
    (Lx.lexN l (L.drop (k + j))).map (Lx.Tok.shift (k + j)) = R := by
  rw [Lx.lexN_skip l _ j hs, List.drop_drop] at h
  rw [← h]
  cases Lx.lexN l (L.drop (k + j)) with
  | none => rfl
  | some t => simp only [Option.map_some, Lx.shift_shift]; rw [Nat.add_comm]

theorem rel_none {l : Lx.Lex} {L : List UInt8} {k : Nat} {R : Option Lx.Tok} (h : (Lx.lexN l (L.drop k)).map (Lx.Tok.shift k) = R) (hs : Lx.step l (L.drop k) = none) : R = none := by
  rw [Lx.lexN_none l _ hs] at h
  exact h.symm

theorem rel_tok {l : Lx.Lex} {L : List UInt8} {k : Nat} {R : Option Lx.Tok} {t : Lx.Tok} (h : (Lx.lexN l (L.drop k)).map (Lx.Tok.shift k) = R) (hs : Lx.step l (L.drop k) = some (.inr t)) (hk : t.kind ≠ 0) : R = some (t.shift k) := by
  rw [Lx.lexN_tok l _ t hs, if_neg hk] at h
  exact h.symm

theorem rel_tok0 {l : Lx.Lex} {L : List UInt8} {k : Nat} {R : Option Lx.Tok} {t : Lx.Tok} (h : (Lx.lexN l (L.drop k)).map (Lx.Tok.shift k) = R) (hs : Lx.step l (L.drop k) = some (.inr t)) (hk : t.kind = 0) : R = none := by
  rw [Lx.lexN_tok l _ t hs, if_pos hk] at h
  exact h.symm

end Go.Proofs.Qxb6613163aDoor
