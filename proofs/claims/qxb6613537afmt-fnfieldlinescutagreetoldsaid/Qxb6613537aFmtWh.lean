/-
  Scan (26): what is held goes to the buffer's start.
-/
import Derived.Test.Qxb6613537aFmtWf
import Derived.Test.Qxb6613537aFmtRg
namespace Go.Proofs.Qxb6613537aFmt
open Go.RowKit
open Pl

theorem wp_region_tail {P : Program} {id : Nat} {Q : Exit → Act → World → Prop} {a : Act} {w : World} {l : List Oper} (n : Nat) (hm : P.follows .mixedOrders = true) (hB : Region.lexTailB .any l.toArray n = true)
    (h : wpStill P l.toArray w.drew (fun a' => wpList P l.toArray Q (l.drop n) a' w.drew) (l.take n) a) : (Code.region id l.toArray true).wp P Q a w := wp_region_still_tail n hm hB h

theorem wpList_copy_kept {P : Program} {w : World} {ops : Array Oper} {rest : List Oper} {o : Oper} {a : Act} {Q : Exit → Act → World → Prop} (hgd : o.guard = none) (d s : Operand) (dT sT : TypeId)
    (ho : o.op = .call { callee := .builtin .copy, args := #[d, s], argTypes := #[dT, sT] }) (elem : TypeId) (hu : P.underlying dT = some (.slice elem)) (hsz : (P.info? elem).map (·.size) = some 1)
    (dp sp : Option Addr) (dLen dCap sLen sCap : Nat) (hd : a.eval d = .slice dp dLen dCap) (hs : a.eval s = .slice sp sLen sCap)
    (g off : Nat) (cur : List Value) (t : TypeId) (hg : w.heap[g]? = some (.cells cur.toArray t (0, 0))) (cs : List Value) (hn : cs.length = Nat.min sLen dLen)
    (hpos : 0 < cs.length → dp = some ⟨g, off, none⟩ ∧ ∃ ad, sp = some ad ∧ ∀ j v, cs[j]? = some v → w.cell? (ad.add j) = some v)
    (hfit : off + cs.length ≤ cur.length) (h1 : ∀ v ∈ cs, v.oneCell' = true)
    (h : ∀ w', Hid (w'.heap[g]? = some (.cells (splice cur off cs).toArray t (0, 0))) → Kept w w' (fun j => j = g) → wpList P ops Q rest (a.put o.dst (goInt cs.length)) w') :
    wpList P ops Q (o :: rest) a w := by
  by_cases h0 : cs.length = 0
  · obtain rfl : cs = [] := List.eq_nil_of_length_eq_zero h0
    refine wpList_copy_nothing hgd d s dT sT ho elem hu hsz dp sp dLen dCap sLen sCap hd hs (by simpa using hn.symm) ?_
    exact h w (show _ = _ by simpa [splice] using hg) (Kept.refl w _)
  · obtain ⟨rfl, ad, rfl, hsrc⟩ := hpos (by omega)
    refine wpList_copy_own hgd d s dT sT ho elem hu hsz g off dLen dCap ad sLen sCap hd hs cur.toArray t hg cs hn hsrc (by simpa using hfit) h1 ?_
    exact h _ (show _ = _ by simpa [splice] using setRow_heap w g _ _ t _ hg) (Kept.row (X := fun j => j = g) (Kept.refl w _) (rfl : g = g) _)

theorem splice_zero (L cs : List Value) : (splice L 0 cs).take cs.length = cs := by
  simp [splice]

/-- A block that is new since w0. -/
theorem kept_new {w0 w w' : World} {X : Nat → Prop} {g : Nat} (h : Kept w0 w X) (k : Kept w w' (fun j => j = g)) (hg : w0.heap.size ≤ g) : Kept w0 w' X :=
  ⟨k.os.trans h.os, k.tape.trans h.tape, k.output.trans h.output, Nat.le_trans h.size k.size, fun j hj hx => (k.block j (Nat.lt_of_lt_of_le hj h.size) (by omega)).trans (h.block j hj hx)⟩

abbrev cPost (w0 : World) (S R B0 : Nat) (src : ByteArray) (rem : List UInt8) (N i : Nat) (X : List UInt8) : Exit → Act → World → Prop := fun e a w' =>
  match e with
  | .normal => ∃ B tok emp cur, FR S a ∧ LS w0 w' S R B0 src rem B N 0 X.length i tok .nilIface emp cur X
  | _ => False

/-- The held bytes lie at the buffer's start. -/
theorem LS.moved {w0 w w' : World} {S R B0 : Nat} {src : ByteArray} {rem : List UInt8} {B N st en i : Nat} {tok err : Value} {emp : Int} {cur : Array Value} {X : List UInt8} (h : LS w0 w S R B0 src rem B N st en i tok err emp cur X) (B' N' : Nat) (cur' : List Value)
    (hB' : w'.heap[B']? = some (.cells cur'.toArray 5 (0, 0))) (hc : cur'.take X.length = Lib.byteCells X) (hl : cur'.length = N') (hN1 : 65536 ≤ N') (hN2 : N' ≤ 2097152) (hXN : X.length ≤ N') (hBB : B' = B0 ∨ w0.heap.size ≤ B') (hk : Kept w0 w' (X3 S R B0))
    (hS : w'.heap[S]? = some (.cells (scArr R tok B' N' 0 (X.length : Int) err emp true) 65 (0, 0))) (hR : ∃ pr, w'.heap[R]? = some (.cells #[.string src, .int .i64 i, pr] 58 (0, 0))) : LS w0 w' S R B0 src rem B' N' 0 X.length i tok err emp cur'.toArray X :=
  ⟨⟨hS, hR, hB', by simpa using hl⟩, Nat.zero_le _, hXN, hN1, hN2, h.hi, by rw [List.drop_zero, Nat.sub_zero]; exact hc, h.eq, hk, hBB⟩

set_option maxHeartbeats 16000000 in
set_option maxRecDepth 1000000 in
theorem scanC (w0 : World) (S R B0 : Nat) (src : ByteArray) (rem : List UInt8) (B N st en i : Nat) (tok : Value) (emp : Int) (cur : Array Value) (X : List UInt8) (w : World)
    (HL : Hid (LS w0 w S R B0 src rem B N st en i tok .nilIface emp cur X)) (a : Act) (ha : FR S a) :
    Code.wp Tryf.prog ((Tryf.f26.body.bind (thenOf 153)).getD .skip) (cPost w0 S R B0 src rem N i X) a w := by
  conv => arg 2; whnf
  obtain ⟨u, rfl⟩ := ha.open
  clear ha
  obtain ⟨⟨c0, c1, c2, c3, c4, c5, c6, c7, c8, c9, c10⟩, f3, f4, f5, f6, f7, f8, f9⟩ := sc_cells HL.out.sc.hS
  have hst := HL.out.hst
  have hen := HL.out.hen
  have hN1 := HL.out.hN1
  have hN2 := HL.out.hN2
  have hXl := HL.out.len
  have hcN := HL.out.sc.hN
  have hBl : B < w.heap.size := lt_of_block HL.out.sc.hB
  have hSB : S ≠ B := block_ne HL.out.sc.hS HL.out.sc.hB (by decide)
  have hBS : B ≠ S := Ne.symm hSB
  obtain ⟨pr, hR⟩ := HL.out.sc.hR
  have hRB : R ≠ B := block_ne hR HL.out.sc.hB (by decide)
  have hRS : R ≠ S := block_ne hR HL.out.sc.hS (by decide)
  have hRl := lt_of_block hR
  have hSl := lt_of_block HL.out.sc.hS
  have e3 : (st : Int) ≤ (en : Int) := by omega
  have e4 : (en : Int) ≤ (N : Int) := by omega
  obtain ⟨cs, hcs⟩ : ∃ cs, Lib.byteCells X = cs := ⟨_, rfl⟩
  have hcl : cs.length = en - st := by rw [← hcs, Lib.byteCells_length, hXl]
  have hcs1 : Hid (∀ v ∈ cs, v.oneCell' = true) := by
    show ∀ v ∈ cs, v.oneCell' = true
    rw [← hcs]; exact Lib.byteCells_one X
  have hcells : Hid (∀ j v, cs[j]? = some v → w.drew.cell? ⟨B, st + j, none⟩ = some v) := fun j v hj => by
    rw [← hcs] at hj
    simp only [Lib.byteCells, List.getElem?_map] at hj
    cases hx : X[j]? with
    | none => rw [hx] at hj; simp at hj
    | some x =>
      rw [hx] at hj
      simp at hj
      subst hj
      exact HL.out.bytes j x hx
  replace hcs : Hid (_) := hcs
  have hBk : Hid (w.drew.heap[B]? = some (.cells cur.toList.toArray 5 (0, 0))) := HL.out.sc.hB
  by_cases hsN : st = N
  · have h1 := hsN.symm
    subst h1
    have h2 : N = en := by omega
    subst h2
    obtain rfl : X = [] := List.eq_nil_of_length_eq_zero (by omega)
    have e1 : (N == N) = true := by simp
    go_wp2_with fail
    refine wp_region_tail 17 (by kernel_rfl) (by kernel_rfl) ?_
    simp only [List.take_succ_cons, List.take_zero, List.drop_succ_cons, List.drop_zero]
    repeat still_step
    try refine wpStill_nil ?_
    refine wpList_copy_kept rfl (.tmp 157) (.tmp 170) 43 43 rfl 5 Tryf.underlying43 info5s (some ⟨B, 0, none⟩) (some ⟨B, 0, none⟩) N N 0 0 rfl rfl B 0 cur.toList 5 hBk.out cs (by rw [hcl]; simp) (fun h => by omega) (by rw [hcl, Array.length_toList]; omega) hcs1.out ?_
    intro w1 hB1 hk1
    have hS1 := (hk1.block S hSl hSB).trans HL.out.sc.hS
    have hR1 := (hk1.block R hRl hRB).trans hR
    have HK1 : Hid (Kept w0 w1 (X3 S R B0) ∨ w0.heap.size ≤ B) := by
      rcases HL.out.hB with h | h
      · exact Or.inl (HL.out.kept.drew.trans (hk1.mono (fun j hj => Or.inr (Or.inr (by rw [hj, h])))))
      · exact Or.inr h
    have HK2 : Hid (Kept w0 w1 (X3 S R B0)) := by
      rcases HL.out.hB with h | h
      · exact HL.out.kept.drew.trans (hk1.mono (fun j hj => Or.inr (Or.inr (by rw [hj, h]))))
      · exact kept_new HL.out.kept.drew hk1 h
    clear hk1 HK1 c0 c1 c2 c3 c4 c5 c6 c7 c8 c9 c10 f3 f4 f5 f6 f7 f8 f9 hcells hBk
    obtain ⟨⟨c0, c1, c2, c3, c4, c5, c6, c7, c8, c9, c10⟩, f3, f4, f5, f6, f7, f8, f9⟩ := sc_cells hS1
    replace hS1 : Hid (_) := hS1
    replace hR1 : Hid (_) := hR1
    go_wp2_with fail
    refine wp_region_tail 11 (by kernel_rfl) (by kernel_rfl) ?_
    simp only [List.take_succ_cons, List.take_zero, List.drop_succ_cons, List.drop_zero]
    repeat still_step
    try refine wpStill_nil ?_
    have s1 : w1.drew.cell? ⟨S, 6, none⟩ = some (.int .i64 N) := c6
    have s2 : w1.drew.frozen? ⟨S, 6, none⟩ = false := f6
    go_wp2
    exact ⟨B, tok, emp, _, ⟨rfl, rfl, rfl⟩, HL.out.moved B N (splice cur.toList 0 cs) ((set_other _ S _ B _ hBS).trans ((set_other _ S _ B _ hBS).trans hB1.out)) (by rw [hXl, ← hcl, splice_zero]; exact hcs.out.symm) (by rw [length_splice _ _ _ (by rw [hcl, Array.length_toList]; omega), Array.length_toList]; exact hcN) hN1 hN2 (by omega) HL.out.hB
      ((Kept.set (X := X3 S R B0) (Kept.set (X := X3 S R B0) HK2.out.drew (Or.inl rfl) _) (Or.inl rfl) _)) (set_block _ _ _ _ _ _ (set_block _ _ _ _ _ _ hS1.out)) ⟨pr, (set_other _ S _ R _ hRS).trans ((set_other _ S _ R _ hRS).trans hR1.out)⟩⟩
  · have e1 : (N == st) = false := by rw [beq_eq_false_iff_ne]; omega
    have e2 : ¬ N = st := by omega
    go_wp2_with fail
    refine wp_region_tail 17 (by kernel_rfl) (by kernel_rfl) ?_
    simp only [List.take_succ_cons, List.take_zero, List.drop_succ_cons, List.drop_zero]
    repeat still_step
    try refine wpStill_nil ?_
    refine wpList_copy_kept rfl (.tmp 157) (.tmp 170) 43 43 rfl 5 Tryf.underlying43 info5s (some ⟨B, 0, none⟩) (some ⟨B, st, none⟩) N N (en - st) (N - st) rfl rfl B 0 cur.toList 5 hBk.out cs (by rw [hcl]; exact (Nat.min_eq_left (by omega)).symm) (fun _ => ⟨rfl, ⟨B, st, none⟩, rfl, fun j v hj => by rw [Addr.add_lit]; exact hcells.out j v hj⟩) (by rw [hcl, Array.length_toList]; omega) hcs1.out ?_
    intro w1 hB1 hk1
    have hS1 := (hk1.block S hSl hSB).trans HL.out.sc.hS
    have hR1 := (hk1.block R hRl hRB).trans hR
    have HK1 : Hid (Kept w0 w1 (X3 S R B0) ∨ w0.heap.size ≤ B) := by
      rcases HL.out.hB with h | h
      · exact Or.inl (HL.out.kept.drew.trans (hk1.mono (fun j hj => Or.inr (Or.inr (by rw [hj, h])))))
      · exact Or.inr h
    have HK2 : Hid (Kept w0 w1 (X3 S R B0)) := by
      rcases HL.out.hB with h | h
      · exact HL.out.kept.drew.trans (hk1.mono (fun j hj => Or.inr (Or.inr (by rw [hj, h]))))
      · exact kept_new HL.out.kept.drew hk1 h
    clear hk1 HK1 c0 c1 c2 c3 c4 c5 c6 c7 c8 c9 c10 f3 f4 f5 f6 f7 f8 f9 hcells hBk
    obtain ⟨⟨c0, c1, c2, c3, c4, c5, c6, c7, c8, c9, c10⟩, f3, f4, f5, f6, f7, f8, f9⟩ := sc_cells hS1
    replace hS1 : Hid (_) := hS1
    replace hR1 : Hid (_) := hR1
    go_wp2_with fail
    refine wp_region_tail 11 (by kernel_rfl) (by kernel_rfl) ?_
    simp only [List.take_succ_cons, List.take_zero, List.drop_succ_cons, List.drop_zero]
    repeat still_step
    try refine wpStill_nil ?_
    have s1 : w1.drew.cell? ⟨S, 6, none⟩ = some (.int .i64 en) := c6
    have s2 : w1.drew.frozen? ⟨S, 6, none⟩ = false := f6
    go_wp2
    have hxe : ((en : Int) - (st : Int)) = (X.length : Int) := by omega
    rw [hxe]
    exact ⟨B, tok, emp, _, ⟨rfl, rfl, rfl⟩, HL.out.moved B N (splice cur.toList 0 cs) ((set_other _ S _ B _ hBS).trans ((set_other _ S _ B _ hBS).trans hB1.out)) (by rw [hXl, ← hcl, splice_zero]; exact hcs.out.symm) (by rw [length_splice _ _ _ (by rw [hcl, Array.length_toList]; omega), Array.length_toList]; exact hcN) hN1 hN2 (by omega) HL.out.hB
      ((Kept.set (X := X3 S R B0) (Kept.set (X := X3 S R B0) HK2.out.drew (Or.inl rfl) _) (Or.inl rfl) _)) (set_block _ _ _ _ _ _ (set_block _ _ _ _ _ _ hS1.out)) ⟨pr, (set_other _ S _ R _ hRS).trans ((set_other _ S _ R _ hRS).trans hR1.out)⟩⟩

end Go.Proofs.Qxb6613537aFmt
