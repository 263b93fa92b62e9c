/-
  THE TEXTS THAT fmt.Sprintf IS ASKED FOR ON THE ROAD, TOLD: how long each is ('Short'). No text matters but by its length: a reason is joined behind a constant.
-/
import Derived.Test.Qxb6612244aFmtFm
import Derived.Stop.FmtRuneSmall
import Derived.Stop.Texts
import Derived.Stop.Told
namespace Go.Proofs.Qxb6612244aFmt
open Go.Extern.Stop Go.Stop Go.Extern Go.Kit

/-- 'a comma or %q' -/
def rd1 : List (List UInt8) := [[97, 32, 99, 111, 109, 109, 97, 32, 111, 114, 32, 37, 113], Tryf.shape5, digits 8 93]
/-- 'it ends where %s should be' -/
def rd2 (want : List UInt8) : List (List UInt8) := [[105, 116, 32, 101, 110, 100, 115, 32, 119, 104, 101, 114, 101, 32, 37, 115, 32, 115, 104, 111, 117, 108, 100, 32, 98, 101], Tryf.shape9, FmtStop.pack want]
/-- '%q at byte %d, where %s should be' -/
def rd3 (c pos : Int) (want : List UInt8) : List (List UInt8) :=
  [[37, 113, 32, 97, 116, 32, 98, 121, 116, 101, 32, 37, 100, 44, 32, 119, 104, 101, 114, 101, 32, 37, 115, 32, 115, 104, 111, 117, 108, 100, 32, 98, 101], Tryf.shape21, digits 8 (c % 18446744073709551616).toNat, Tryf.shape3, digits 8 (pos % 18446744073709551616).toNat, Tryf.shape9, FmtStop.pack want]

structure Short (F : Interp) : Prop where
  s1 : (FmtStop.textOf (F "fmt.Sprintf" rd1 0)).size ≤ 1000
  s2 : ∀ want : ByteArray, want.size ≤ 1000 → (FmtStop.textOf (F "fmt.Sprintf" (rd2 want.data.toList) 0)).size ≤ 3000
  s3 : ∀ (c pos : Int) (want : ByteArray), 0 ≤ c → c ≤ 1114111 → 0 ≤ pos → pos ≤ 1048576 → want.size ≤ 1000 → (FmtStop.textOf (F "fmt.Sprintf" (rd3 c pos want.data.toList) 0)).size ≤ 3000

theorem p1 : (FmtText.parse [97, 32, 99, 111, 109, 109, 97, 32, 111, 114, 32, 37, 113]).map FmtText.glue = some [.lit [97, 32, 99, 111, 109, 109, 97, 32, 111, 114, 32], .verb {} 113] := by rfl
theorem p2 : (FmtText.parse [105, 116, 32, 101, 110, 100, 115, 32, 119, 104, 101, 114, 101, 32, 37, 115, 32, 115, 104, 111, 117, 108, 100, 32, 98, 101]).map FmtText.glue = some [.lit [105, 116, 32, 101, 110, 100, 115, 32, 119, 104, 101, 114, 101, 32], .verb {} 115, .lit [32, 115, 104, 111, 117, 108, 100, 32, 98, 101]] := by rfl
theorem p3 : (FmtText.parse [37, 113, 32, 97, 116, 32, 98, 121, 116, 101, 32, 37, 100, 44, 32, 119, 104, 101, 114, 101, 32, 37, 115, 32, 115, 104, 111, 117, 108, 100, 32, 98, 101]).map FmtText.glue = some [.verb {} 113, .lit [32, 97, 116, 32, 98, 121, 116, 101, 32], .verb {} 100, .lit [44, 32, 119, 104, 101, 114, 101, 32], .verb {} 115, .lit [32, 115, 104, 111, 117, 108, 100, 32, 98, 101]] := by rfl

theorem wf_u8 : (Lit.int .u8 93).wf = true := by decide
theorem t1 : FmtText.text "fmt.Sprintf" rd1 = some ([97, 32, 99, 111, 109, 109, 97, 32, 111, 114, 32] ++ FmtText.quoteRune false 93) := by
  have hi := FmtText.operand_int_at (sh := Tryf.shape5) (k := .u8) rfl rfl 93 wf_u8
  have e : ((93 : Int) % 18446744073709551616).toNat = 93 := by decide
  rw [e] at hi
  rw [rd1, FmtText.text_sprintf_glued p1 (FmtText.operands_cons hi FmtText.operands_nil)]
  simp [FmtText.render, FmtText.printArg_q_int _ _ _ 93 (by omega)]

theorem t2 (want : List UInt8) (hl : want.length < 2 ^ 64) : FmtText.text "fmt.Sprintf" (rd2 want) = some ([105, 116, 32, 101, 110, 100, 115, 32, 119, 104, 101, 114, 101, 32] ++ (want ++ [32, 115, 104, 111, 117, 108, 100, 32, 98, 101])) := by
  have hs := FmtText.operand_str_at (sh := Tryf.shape9) rfl rfl want hl
  rw [rd2, FmtText.text_sprintf_glued p2 (FmtText.operands_cons hs FmtText.operands_nil)]
  simp [FmtText.render, FmtText.printArg_s_str]

theorem t3 (c pos : Int) (want : List UInt8) (h0 : 0 ≤ c) (h1 : c ≤ 1114111) (h2 : 0 ≤ pos) (h3 : pos ≤ 1048576) (hl : want.length < 2 ^ 64) :
    FmtText.text "fmt.Sprintf" (rd3 c pos want) = some (FmtText.quoteRune false c.toNat ++ ([32, 97, 116, 32, 98, 121, 116, 101, 32] ++ (Lib.itoa pos ++ ([44, 32, 119, 104, 101, 114, 101, 32] ++ (want ++ [32, 115, 104, 111, 117, 108, 100, 32, 98, 101]))))) := by
  have wc : (Lit.int .i32 c).wf = true := by simp [Lit.wf, IntKind.min, IntKind.max, IntKind.signed, IntKind.bits]; omega
  have wp : (Lit.int .i64 pos).wf = true := by simp [Lit.wf, IntKind.min, IntKind.max, IntKind.signed, IntKind.bits]; omega
  have hc := FmtText.operand_int_at (sh := Tryf.shape21) (k := .i32) rfl rfl c wc
  have hp := FmtText.operand_int_at (sh := Tryf.shape3) (k := .i64) rfl rfl pos wp
  have hs := FmtText.operand_str_at (sh := Tryf.shape9) rfl rfl want hl
  have e : (c % 18446744073709551616).toNat = c.toNat := by omega
  rw [rd3, FmtText.text_sprintf_glued p3 (FmtText.operands_cons hc (FmtText.operands_cons hp (FmtText.operands_cons hs FmtText.operands_nil))), e]
  simp [FmtText.render, FmtText.printArg_q_int _ _ _ c.toNat (by omega), FmtText.printArg_d _ _ wp, FmtText.printArg_s_str]

theorem size_told (F : Interp) {rd : List (List UInt8)} {s : List UInt8} (h : FmtText.text "fmt.Sprintf" rd = some s) (hl : s.length < 2 ^ 63) : (FmtStop.textOf (F.told "fmt.Sprintf" rd 0)).size = s.length := by
  have h1 := textOf_list F.told "fmt.Sprintf" rd
  rw [told_string F h hl] at h1
  rw [← h1]
  exact Array.length_toList.symm

theorem short_told (F : Interp) : Short F.told := by
  refine ⟨?_, fun want hw => ?_, fun c pos want h0 h1 h2 h3 hw => ?_⟩
  · have hq := quoteRune_len 93
    rw [size_told F t1 (by simp only [List.length_append, List.length_cons, List.length_nil]; omega)]
    simp only [List.length_append, List.length_cons, List.length_nil]; omega
  · have hl : want.data.toList.length = want.size := Array.length_toList
    rw [size_told F (t2 _ (by omega)) (by simp only [List.length_append, List.length_cons, List.length_nil]; omega)]
    simp only [List.length_append, List.length_cons, List.length_nil]; omega
  · have hl : want.data.toList.length = want.size := Array.length_toList
    have hq := quoteRune_len c.toNat
    have wp : (Lit.int .i64 pos).wf = true := by simp [Lit.wf, IntKind.min, IntKind.max, IntKind.signed, IntKind.bits]; omega
    have hi := FmtText.itoa_length_le wp
    rw [size_told F (t3 c pos _ h0 h1 h2 h3 (by omega)) (by simp only [List.length_append, List.length_cons, List.length_nil]; omega)]
    simp only [List.length_append, List.length_cons, List.length_nil]; omega

end Go.Proofs.Qxb6612244aFmt
