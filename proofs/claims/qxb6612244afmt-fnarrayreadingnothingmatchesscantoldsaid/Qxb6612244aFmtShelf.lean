/-
  DERIVED: THE SHELF's CONTRACTS AT THIS DUMP, IN PLAIN WORDS (tools/lay-plain.mjs out of 'Qxb6612244aFmtShelf.lean', which tools/lay-shelf.mjs wrote): THE SAME DECLARATIONS UNDER THE SAME NAMES: 'import', 'namespace', 'open', 'def', 'theorem' AND NOTHING ELSE: no command of the shelf's: FOR A HAND-IN. Each laying: the table of numbers ('.._ren') and one theorem, a field a fact of the dump's own or the kernel's comparison; each contract: ONE APPLICATION.
-/
import Derived.Shelf.Spec.DecodeRune
import Derived.Test.Qxb6612244aFmtProg
namespace Go.Proofs
open Go.Shelf
def Tryf.lays32_ren : Go.Shelf.Ren := ⟨fun | 32 => 27 | 49 => 30 | n => n, fun | 30 => 22 | 21 => 21 | 3 => 3 | 0 => 0 | 5 => 5 | 4 => 4 | 33 => 55 | 66 => 60 | 25 => 61 | 69 => 64 | 68 => 63 | n => n, fun | 2 => 0 | 3 => 1 | n => n⟩
theorem Tryf.lays32 : Go.Proofs.Lays7.n32 Tryf.prog Tryf.lays32_ren := {
  mixed := by kernel_rfl
  f32 := Tryf.func27.trans (congrArg some (by kernel_rfl))
  f49 := Tryf.func30.trans (congrArg some (by kernel_rfl))
  t0 := Tryf.underlying0
  a0 := Tryf.isAgg0
  z0 := Tryf.sizeOf0
  v0 := Tryf.zeroValue0
  i0 := by kernel_rfl
  t3 := Tryf.underlying3
  a3 := Tryf.isAgg3
  z3 := Tryf.sizeOf3
  v3 := Tryf.zeroValue3
  i3 := by kernel_rfl
  t4 := Tryf.underlying4
  a4 := Tryf.isAgg4
  z4 := Tryf.sizeOf4
  v4 := Tryf.zeroValue4
  i4 := by kernel_rfl
  t5 := Tryf.underlying5
  a5 := Tryf.isAgg5
  z5 := Tryf.sizeOf5
  v5 := Tryf.zeroValue5
  i5 := by kernel_rfl
  t21 := Tryf.underlying21
  a21 := Tryf.isAgg21
  z21 := Tryf.sizeOf21
  v21 := Tryf.zeroValue21
  i21 := by kernel_rfl
  t25 := Tryf.underlying61
  a25 := Tryf.isAgg61
  z25 := Tryf.sizeOf61
  v25 := Tryf.zeroValue61
  i25 := by kernel_rfl
  t30 := Tryf.underlying22
  a30 := Tryf.isAgg22
  z30 := Tryf.sizeOf22
  v30 := Tryf.zeroValue22
  i30 := by kernel_rfl
  t33 := Tryf.underlying55
  a33 := Tryf.isAgg55
  z33 := Tryf.sizeOf55
  v33 := Tryf.zeroValue55
  i33 := by kernel_rfl
  t66 := Tryf.underlying60
  a66 := Tryf.isAgg60
  z66 := Tryf.sizeOf60
  t68 := Tryf.underlying63
  a68 := Tryf.isAgg63
  z68 := Tryf.sizeOf63
  v68 := Tryf.zeroValue63
  i68 := by kernel_rfl
  t69 := Tryf.underlying64
  a69 := Tryf.isAgg64
  z69 := Tryf.sizeOf64
  v69 := Tryf.zeroValue64
  i69 := by kernel_rfl
  g2 := by kernel_rfl
  g3 := by kernel_rfl }
end Go.Proofs
