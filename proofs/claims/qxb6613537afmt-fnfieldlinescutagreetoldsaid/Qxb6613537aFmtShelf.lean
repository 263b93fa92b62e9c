/-
  DERIVED: THE SHELF's CONTRACTS AT THIS DUMP, IN PLAIN WORDS (tools/lay-plain.mjs out of 'Qxb6613537aFmtShelf.lean', which tools/lay-shelf.mjs wrote): THE SAME DECLARATIONS UNDER THE SAME NAMES: 'import', 'namespace', 'open', 'def', 'theorem' AND NOTHING ELSE: no command of the shelf's: FOR A HAND-IN. Each laying: the table of numbers ('.._ren') and one theorem, a field a fact of the dump's own or the kernel's comparison; each contract: ONE APPLICATION.
-/
import Derived.Shelf.Spec.DecodeRune
import Derived.Test.Qxb6613537aFmtProg
namespace Go.Proofs
open Go.Shelf
def Tryf.lays32_ren : Go.Shelf.Ren := ⟨fun | 32 => 47 | 49 => 54 | n => n, fun | 30 => 43 | 21 => 21 | 3 => 3 | 0 => 0 | 5 => 5 | 4 => 4 | 33 => 88 | 66 => 98 | 25 => 94 | 69 => 101 | 68 => 100 | n => n, fun | 2 => 8 | 3 => 9 | n => n⟩
theorem Tryf.lays32 : Go.Proofs.Lays7.n32 Tryf.prog Tryf.lays32_ren := {
  mixed := by kernel_rfl
  f32 := Tryf.func47.trans (congrArg some (by kernel_rfl))
  f49 := Tryf.func54.trans (congrArg some (by kernel_rfl))
  t0 := Tryf.underlying0
  a0 := Tryf.isAgg0
  z0 := Tryf.sizeOf0
  v0 := Tryf.zeroValue0
  i0 := by kernel_rfl
  t3 := Tryf.underlying3
  a3 := Tryf.isAgg3
  z3 := Tryf.sizeOf3
  v3 := Tryf.zeroValue3
  i3 := by kernel_rfl
  t4 := Tryf.underlying4
  a4 := Tryf.isAgg4
  z4 := Tryf.sizeOf4
  v4 := Tryf.zeroValue4
  i4 := by kernel_rfl
  t5 := Tryf.underlying5
  a5 := Tryf.isAgg5
  z5 := Tryf.sizeOf5
  v5 := Tryf.zeroValue5
  i5 := by kernel_rfl
  t21 := Tryf.underlying21
  a21 := Tryf.isAgg21
  z21 := Tryf.sizeOf21
  v21 := Tryf.zeroValue21
  i21 := by kernel_rfl
  t25 := Tryf.underlying94
  a25 := Tryf.isAgg94
  z25 := Tryf.sizeOf94
  v25 := Tryf.zeroValue94
  i25 := by kernel_rfl
  t30 := Tryf.underlying43
  a30 := Tryf.isAgg43
  z30 := Tryf.sizeOf43
  v30 := Tryf.zeroValue43
  i30 := by kernel_rfl
  t33 := Tryf.underlying88
  a33 := Tryf.isAgg88
  z33 := Tryf.sizeOf88
  v33 := Tryf.zeroValue88
  i33 := by kernel_rfl
  t66 := Tryf.underlying98
  a66 := Tryf.isAgg98
  z66 := Tryf.sizeOf98
  t68 := Tryf.underlying100
  a68 := Tryf.isAgg100
  z68 := Tryf.sizeOf100
  v68 := Tryf.zeroValue100
  i68 := by kernel_rfl
  t69 := Tryf.underlying101
  a69 := Tryf.isAgg101
  z69 := Tryf.sizeOf101
  v69 := Tryf.zeroValue101
  i69 := by kernel_rfl
  g2 := by kernel_rfl
  g3 := by kernel_rfl }
end Go.Proofs
