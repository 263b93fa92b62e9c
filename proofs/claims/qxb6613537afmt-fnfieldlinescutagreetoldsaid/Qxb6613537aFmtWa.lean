/-
  THE WALKS of the small functions: the strings.Reader, the scanner's small methods.
-/
import Derived.Test.Qxb6613537aFmtRows
import Derived.WalkKit
import Derived.WalkSpells
import Derived.WalkLawsBesides
import Derived.Deep.QuietTactic
import Derived.BigQuiet
import Derived.Deep.LoopGhost
import Derived.Deep.RegionWith
import Derived.Deep.RegionLaw
import Derived.Laws.CopyOwn
import Derived.Lib.BufferWrite
import Derived.Handy
namespace Go.Proofs.Qxb6613537aFmt
open Go.RowKit

/-- Two worlds that differ in the blocks X and in new blocks alone. -/
structure Kept (w w' : World) (X : Nat → Prop) : Prop where
  os : w'.os = w.os
  tape : w'.tape = w.tape
  output : w'.output = w.output
  size : w.heap.size ≤ w'.heap.size
  block : ∀ j, j < w.heap.size → ¬ X j → w'.heap[j]? = w.heap[j]?

theorem Kept.refl (w : World) (X : Nat → Prop) : Kept w w X := ⟨rfl, rfl, rfl, Nat.le_refl _, fun _ _ _ => rfl⟩
theorem Kept.trans {w w1 w2 : World} {X : Nat → Prop} (h : Kept w w1 X) (k : Kept w1 w2 X) : Kept w w2 X :=
  ⟨k.os.trans h.os, k.tape.trans h.tape, k.output.trans h.output, Nat.le_trans h.size k.size, fun j hj hx => (k.block j (Nat.lt_of_lt_of_le hj h.size) hx).trans (h.block j hj hx)⟩
theorem Kept.mono {w w' : World} {X Y : Nat → Prop} (h : Kept w w' X) (hXY : ∀ j, X j → Y j) : Kept w w' Y := ⟨h.os, h.tape, h.output, h.size, fun j hj hy => h.block j hj fun hx => hy (hXY j hx)⟩
theorem Kept.set {w w' : World} {X : Nat → Prop} (h : Kept w w' X) {g i : Nat} (hg : X g) (v : Value) : Kept w (w'.setCell ⟨g, i, none⟩ v) X :=
  ⟨h.os, h.tape, h.output, by simpa [World.setCell] using h.size, fun j hj hx => by rw [Below.heap_setCell _ _ _ _ (fun e => hx (by show X j; have e' : j = g := e; rw [e']; exact hg))]; exact h.block j hj hx⟩
theorem Kept.row {w w' : World} {X : Nat → Prop} (h : Kept w w' X) {g : Nat} (hg : X g) (cs : Array Value) : Kept w (w'.setRow g cs) X :=
  ⟨h.os, h.tape, h.output, by simpa [World.setRow] using h.size, fun j hj hx => by rw [setRow_other w' g j cs (fun e => hx (by rw [e]; exact hg))]; exact h.block j hj hx⟩
theorem Kept.drew {w w' : World} {X : Nat → Prop} (h : Kept w w' X) : Kept w w'.drew X := ⟨h.os, h.tape, h.output, h.size, h.block⟩
theorem Kept.drewN {w w' : World} {X : Nat → Prop} (h : Kept w w' X) (n : Nat) : Kept w (w'.drewN n) X := ⟨h.os, h.tape, h.output, h.size, h.block⟩
theorem Kept.bel {w w1 w2 : World} {X : Nat → Prop} (h : Kept w w1 X) (k : Below w1.heap.size w1 w2) : Kept w w2 X :=
  h.trans ⟨k.os, k.tape, k.output, k.size, fun j hj _ => k.block j hj⟩
theorem Kept.below {w w' : World} {X : Nat → Prop} {B : Nat} (h : Kept w w' X) (hB : B ≤ w.heap.size) (hX : ∀ j, X j → B ≤ j) : Below B w w' :=
  ⟨h.os, h.tape, h.output, h.size, fun k hk => h.block k (Nat.lt_of_lt_of_le hk hB) (fun hx => by have := hX k hx; omega)⟩

/-- 'copy(dst, s)' from a string, as many bytes as fit. -/
theorem run_copy_str {P : Program} (w : World) (dT sT ty elem : TypeId) (g o dLen dCap : Nat) (s : ByteArray) (cur : Array Value) (t : TypeId)
    (hu : P.underlying dT = some (.slice elem)) (hs : (P.info? elem).map (·.size) = some 1) (hg : w.heap[g]? = some (.cells cur t (0, 0))) (hfit : o + Nat.min s.size dLen ≤ cur.size) :
    (Builtin.copy_ #[dT, sT] ty #[.slice (some ⟨g, o, none⟩) dLen dCap, .string s]).run P w =
      .ok (goInt (Nat.min s.size dLen)) (w.setRow g (splice cur.toList o (Lib.byteCells (s.data.toList.take (Nat.min s.size dLen)))).toArray) := by
  have hlen : (Lib.byteCells (s.data.toList.take (Nat.min s.size dLen))).length = Nat.min s.size dLen := by
    rw [Lib.byteCells_length, List.length_take, ← Lib.size_eq]
    exact Nat.min_eq_left (Nat.min_le_left _ _)
  have hst := run_storeCells_at P g o t (Lib.byteCells (s.data.toList.take (Nat.min s.size dLen))) 0 cur w hg (by rw [hlen]; simpa using hfit) (Lib.byteCells_one _)
  have htk : List.take (Nat.min s.size dLen) (List.map (fun b : UInt8 => Value.int IntKind.u8 (b.toNat : Int)) s.data.toList) = Lib.byteCells (s.data.toList.take (Nat.min s.size dLen)) := by
    rw [← List.map_take]; rfl
  simp only [Nat.add_zero] at hst
  cases hq : P.info? elem with
  | none => simp [hq] at hs
  | some i =>
    simp [hq] at hs
    simp [Builtin.copy_, run_underlying hu, Builtin.lenOf, Builtin.firstCells, sizeOf, typeInfo, hq]
    rw [htk, hst]
    simp [Result.andThen, splice, hlen]

/-- .. as one step of a region that draws. -/
theorem step_copy_str {P : Program} {ops : Array Oper} {o : Oper} {a : Act} {w : World} {K : Act → World → Prop} {Q : Exit → Act → World → Prop} {E : Prop}
    (hgd : o.guard = none) (d x : Operand) (dT sT : TypeId) (hop : o.op = Op.call { callee := Callee.builtin Builtin.copy, args := #[d, x], argTypes := #[dT, sT] })
    (elem : TypeId) (hu : P.underlying dT = some (.slice elem)) (hz : (P.info? elem).map (·.size) = some 1)
    (g off dLen dCap : Nat) (hd : a.eval d = .slice (some ⟨g, off, none⟩) dLen dCap) (s : ByteArray) (hx : a.eval x = .string s) (cur : Array Value) (t : TypeId) (hg : w.heap[g]? = some (.cells cur t (0, 0))) (hfit : off + Nat.min s.size dLen ≤ cur.size)
    (hK : K (a.put o.dst (goInt (Nat.min s.size dLen))) (w.setRow g (splice cur.toList off (Lib.byteCells (s.data.toList.take (Nat.min s.size dLen)))).toArray)) :
    if Region.wanted o (yielded ops a.tmps) = true then Oper.wp P o a w K Q else E := by
  have hw : Region.wanted o (yielded ops a.tmps) = true := by simp [Region.wanted, hgd]
  rw [if_pos hw]
  have hrun := run_copy_str (P := P) w dT sT o.type elem g off dLen dCap s cur t hu hz hg hfit
  unfold Oper.wp
  simp [execOp, hop, resolve, invoke, builtin, hd, hx, hrun, Result.andThen]
  exact hK

theorem step_copy_str' {P : Program} {ops : Array Oper} {o : Oper} {a : Act} {w : World} {K : Act → World → Prop} {Q : Exit → Act → World → Prop} {E : Prop}
    (hgd : o.guard = none) (d x : Operand) (dT sT : TypeId) (hop : o.op = Op.call { callee := Callee.builtin Builtin.copy, args := #[d, x], argTypes := #[dT, sT] })
    (elem : TypeId) (hu : P.underlying dT = some (.slice elem)) (hz : (P.info? elem).map (·.size) = some 1)
    (g off dLen dCap : Nat) (hd : a.eval d = .slice (some ⟨g, off, none⟩) dLen dCap) (s : ByteArray) (hx : a.eval x = .string s) (cur : Array Value) (t : TypeId) (hg : w.heap[g]? = some (.cells cur t (0, 0))) (hfit : off + Nat.min s.size dLen ≤ cur.size)
    (hK : ∀ (k : Nat) (w' : World), Hid (k = Nat.min s.size dLen) → Hid (w'.heap[g]? = some (.cells (splice cur.toList off (Lib.byteCells (s.data.toList.take k))).toArray t (0, 0))) → Kept w w' (fun j => j = g) → K (a.put o.dst (goInt k)) w') :
    if Region.wanted o (yielded ops a.tmps) = true then Oper.wp P o a w K Q else E := by
  refine step_copy_str hgd d x dT sT hop elem hu hz g off dLen dCap hd s hx cur t hg hfit (hK _ _ (rfl : Nat.min s.size dLen = Nat.min s.size dLen) ?_ (Kept.row (X := fun j => j = g) (Kept.refl w _) (rfl : g = g) _))
  exact setRow_heap w g _ _ t _ hg

theorem set_block (w : World) (g i : Nat) (v : Value) (cur : Array Value) (T : Nat) (h : w.heap[g]? = some (.cells cur T (0, 0))) : (w.setCell ⟨g, i, none⟩ v).heap[g]? = some (.cells (cur.setIfInBounds i v) T (0, 0)) := by
  simp [World.setCell, Array.getElem?_modify, h]

theorem set_other (w : World) (g i k : Nat) (v : Value) (h : k ≠ g) : (w.setCell ⟨g, i, none⟩ v).heap[k]? = w.heap[k]? := by
  simp [World.setCell, Array.getElem?_modify, Ne.symm h]

theorem ext_drop (s : ByteArray) (i : Nat) : (s.extract i s.size).data.toList = s.data.toList.drop i := by
  rw [ByteArray.data_extract, Array.toList_extract, List.extract_eq_take_drop, List.take_of_length_le]
  rw [List.length_drop, Array.length_toList]
  exact Nat.le_refl _

theorem info5s : (Tryf.prog.info? 5).map (·.size) = some 1 := by kernel_rfl

def X2 (a b : Nat) (j : Nat) : Prop := j = a ∨ j = b

set_option maxHeartbeats 2000000 in
/-- Read, at the end. -/
theorem read_end (R : Nat) (src : ByteArray) (ev : Value) (w : World) (b : Value) (hr0 : w.cell? ⟨R, 0, none⟩ = some (.string src)) (hr1 : w.cell? ⟨R, 1, none⟩ = some (.int .i64 src.size)) (_hs : src.size ≤ 4194304) (he : w.cell? ⟨4, 0, none⟩ = some ev) :
    Calls Tryf.prog 73 #[.pointer (some ⟨R, 0, none⟩), b] w fun e w' => e = .returned (.tuple #[.int .i64 0, ev]) ∧ Kept w w' (fun _ => False) := by
  go_enter Tryf.func73, Tryf.ntmps73
  go_wp2_with fail
  go_quiet (fail)
  go_wp2_with fail
  go_quiet (fail)
  go_wp2
  go_ret2
  exact ⟨rfl, ((Kept.refl w _).drewN _).drewN _⟩

set_option maxHeartbeats 2000000 in
/-- Read, where bytes are left. -/
theorem read_some (R B off m : Nat) (i : Nat) (src : ByteArray) (pr : Value) (w : World) (cur : Array Value) (hR : w.heap[R]? = some (.cells #[.string src, .int .i64 i, pr] 58 (0, 0))) (hB : w.heap[B]? = some (.cells cur 5 (0, 0)))
    (hs : src.size ≤ 4194304) (hi : i < src.size) (hm : 0 < m) (hfit : off + m ≤ cur.size) (hcs : cur.size ≤ 8388608) :
    Calls Tryf.prog 73 #[.pointer (some ⟨R, 0, none⟩), .slice (some ⟨B, off, none⟩) m m] w fun e w' => ∃ k : Nat, 0 < k ∧ k ≤ m ∧ k ≤ src.size - i ∧ e = .returned (.tuple #[.int .i64 k, .nilIface]) ∧ Kept w w' (X2 R B) ∧
      w'.heap[R]? = some (.cells #[.string src, .int .i64 ((i + k : Nat) : Int), .int .i64 (-1)] 58 (0, 0)) ∧ w'.heap[B]? = some (.cells (splice cur.toList off (Lib.byteCells ((src.data.toList.drop i).take k))).toArray 5 (0, 0)) := by
  have r0 : w.cell? ⟨R, 0, none⟩ = some (.string src) := by rw [cell_of_row w _ _ _ 58 (0, 0) hR]; rfl
  have r1 : w.cell? ⟨R, 1, none⟩ = some (.int .i64 i) := by rw [cell_of_row w _ _ _ 58 (0, 0) hR]; rfl
  have r2 : w.cell? ⟨R, 2, none⟩ = some pr := by rw [cell_of_row w _ _ _ 58 (0, 0) hR]; rfl
  have z1 : w.frozen? ⟨R, 1, none⟩ = false := frozen_of_row w _ 1 _ 58 hR
  have z2 : w.frozen? ⟨R, 2, none⟩ = false := frozen_of_row w _ 2 _ 58 hR
  have e1 : decide ((src.size : Int) ≤ (i : Int)) = false := by simp; omega
  have e2 : decide (src.size ≤ i) = false := by simp; omega
  go_enter Tryf.func73, Tryf.ntmps73
  go_wp2_with fail
  go_quiet (fail)
  have hne : R ≠ B := by
    rintro rfl
    rw [hR] at hB
    simp only [Option.some.injEq, Obj.cells.injEq] at hB
    exact absurd hB.2.1 (by decide)
  have hsz : (src.extract i src.size).size = src.size - i := by simp
  have HF : off + Nat.min (src.extract i src.size).size m ≤ cur.size := by
    have h1 : Nat.min (src.extract i src.size).size m ≤ m := Nat.min_le_right _ _
    exact Nat.le_trans (Nat.add_le_add_left h1 off) hfit
  have HB2 : ∀ nq, ((w.drewN nq).setCell ⟨R, 2, none⟩ (.int .i64 (-1))).drew.heap[B]? = some (.cells cur 5 (0, 0)) := fun nq => by
    show ((w.drewN nq).setCell ⟨R, 2, none⟩ (.int .i64 (-1))).heap[B]? = _
    rw [Below.heap_setCell _ _ _ _ (fun e => hne e.symm)]; exact hB
  have hi' : (i : Int) ≤ (src.size : Int) := by omega
  have HR2 : ∀ nq, ((w.drewN nq).setCell ⟨R, 2, none⟩ (.int .i64 (-1))).drew.heap[R]? = some (.cells #[.string src, .int .i64 i, .int .i64 (-1)] 58 (0, 0)) := fun nq => by
    show ((w.drewN nq).setCell ⟨R, 2, none⟩ (.int .i64 (-1))).heap[R]? = _
    simp [World.setCell, Array.getElem?_modify, World.drewN, hR]
  have HK : ∀ nq, Kept w ((w.drewN nq).setCell ⟨R, 2, none⟩ (.int .i64 (-1))).drew (X2 R B) := fun nq => (((Kept.refl w _).drewN nq).set (Or.inl rfl) _).drew
  have hRl : R < w.heap.size := by
    rcases Nat.lt_or_ge R w.heap.size with h | h
    · exact h
    · rw [Array.getElem?_eq_none h] at hR; cases hR
  have hRl2 : ∀ nq, R < ((w.drewN nq).setCell ⟨R, 2, none⟩ (.int .i64 (-1))).drew.heap.size := fun nq => Nat.lt_of_lt_of_le hRl (HK nq).size
  replace HK : Hid (_) := HK
  replace HR2 : Hid (_) := HR2
  replace hRl2 : Hid (_) := hRl2
  go_wp2_with fail
  go_region_law (refine step_copy_str' rfl (.tmp 20) (.tmp 29) 43 9 rfl 5 Tryf.underlying43 info5s B off m m rfl (src.extract i src.size) rfl cur 5 (HB2 _) HF ?_; intro k w5 hk hB5 hK5; have hR5 := (hK5.block R (hRl2.out _) hne).trans (HR2.out _); have c1 : w5.cell? ⟨R, 1, none⟩ = some (.int .i64 i) := (cell_of_row w5 _ _ _ 58 (0, 0) hR5).trans rfl; have z5 : w5.frozen? ⟨R, 1, none⟩ = false := frozen_of_row w5 _ 1 _ 58 hR5; have hk1 : k ≤ m := Nat.le_trans (Nat.le_of_eq hk.out) (Nat.min_le_right _ _); have K5 : Hid (_) := (HK.out _).trans (hK5.mono (fun j hj => Or.inr hj)); clear hK5; replace hR5 : Hid (_) := hR5)
  all_goals
    go_wp2
    go_ret2
    have hk2 : 0 < k ∧ k ≤ src.size - i := by
      have := hk.out
      rw [hsz] at this
      rw [this]
      exact ⟨Nat.lt_min.2 ⟨by omega, hm⟩, Nat.min_le_left _ _⟩
    refine ⟨k, hk2.1, hk1, hk2.2, rfl, K5.out.set (Or.inl rfl) _, ?_, ?_⟩
    · rw [set_block _ _ _ _ _ _ hR5.out]
      simp
    · rw [set_other _ _ _ _ _ (Ne.symm hne), hB5.out, ext_drop]
end Go.Proofs.Qxb6613537aFmt
