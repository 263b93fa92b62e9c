/-
  THE WALKS of strings.Builder's copyCheck (54), WriteByte (45), WriteString (47) at this dump; of quotesName (34) and unescaped (48).
-/
import Derived.Test.Qxb6613163aDoorWa
import Derived.Lib.Builder
import Derived.Lib.AppendStr
namespace Go.Proofs.Qxb6613163aDoor
open Go.RowKit

theorem sizeBuilder : (Tryd.prog.info? 86).map (·.size) = some 2 := by kernel_rfl
theorem liesBuilder : liesAt Tryd.prog Tryd.prog.depth 86 (2 / Tryd.prog.cellsOf 86) 0 86 1 = true := by kernel_rfl
/-- A builder's address as a bare pointer, and back: the address as it is. -/
theorem up_to (w : World) (b : Nat) (hsh : w.shape? b = some (86, 2)) :
    (convert 84 110 (.pointer (some ⟨b, 0, none⟩))).run Tryd.prog w = .ok (.pointer (some ⟨b, 0, none⟩)) w := by
  obtain ⟨j, hj, hjs⟩ := Option.map_eq_some_iff.1 sizeBuilder
  have h0 : j.size ≠ 0 := by rw [hjs]; decide
  simp [convert, run_underlying Tryd.underlying84, run_underlying Tryd.underlying110]
  change Sem.run Tryd.prog (bind _ _) w = _
  simp [run_underlying Tryd.underlying84, run_underlying Tryd.underlying110, Conv.seenAt, viewAt, cellsIn, hsh, sizeOf, typeInfo, hj, h0]

theorem up_from (w : World) (b : Nat) (hsh : w.shape? b = some (86, 2)) :
    (convert 110 84 (.pointer (some ⟨b, 0, none⟩))).run Tryd.prog w = .ok (.pointer (some ⟨b, 0, none⟩)) w := by
  obtain ⟨j, hj, _⟩ := Option.map_eq_some_iff.1 sizeBuilder
  simp [convert, run_underlying Tryd.underlying84, run_underlying Tryd.underlying110]
  change Sem.run Tryd.prog (bind _ _) w = _
  simp [run_underlying Tryd.underlying84, run_underlying Tryd.underlying110, Conv.seenAt, viewAt, hsh, variablesAt, liesBuilder, sizeOf, typeInfo, hj]

theorem Tryd.info5 : (Tryd.prog.info? 5).map (fun i => (i.zero, i.size, i.bytes)) = some (some (.int .u8 0), 1, 1) := by kernel_rfl

set_option maxHeartbeats 1000000 in
set_option maxRecDepth 100000 in
theorem copy_used (b : Nat) (w : World) (h0 : w.cell? ⟨b, 0, none⟩ = some (.pointer (some ⟨b, 0, none⟩))) :
    Calls Tryd.prog 54 #[.pointer (some ⟨b, 0, none⟩)] w fun e w' => e = .returned (.tuple #[]) ∧ w' = w := by
  obtain ⟨j, hj, _⟩ := Option.map_eq_some_iff.1 sizeBuilder
  go_enter Tryd.func54, Tryd.ntmps54
  go_wp2
  rw [Lib.run_neq_ptr_same w _ Tryd.underlying84 hj]
  go_wp2
  go_end0
  exact ⟨rfl, rfl⟩

set_option maxHeartbeats 1000000 in
set_option maxRecDepth 100000 in
theorem copy_fresh (b : Nat) (w : World) (h0 : w.cell? ⟨b, 0, none⟩ = some (.pointer none)) (hsh : w.shape? b = some (86, 2)) (hfz : w.frozen? ⟨b, 0, none⟩ = false) :
    Calls Tryd.prog 54 #[.pointer (some ⟨b, 0, none⟩)] w fun e w' => e = .returned (.tuple #[]) ∧ w' = w.setCell ⟨b, 0, none⟩ (.pointer (some ⟨b, 0, none⟩)) := by
  go_enter Tryd.func54, Tryd.ntmps54
  go_wp2
  rw [up_to w b hsh]
  simp only [Result.andThen]
  rw [Oper.upon_value]
  go_wp2
  rw [run_callFunc_extern Tryd.func60 (by kernel_rfl) (by kernel_rfl) (by kernel_rfl) (e := Extern.AbiNoEscape.same) (by kernel_rfl)]
  rw [Lib.run_noEscape]
  simp only [Result.andThen]
  rw [Oper.upon_value]
  go_wp2
  rw [up_from w b hsh]
  simp only [Result.andThen]
  rw [Oper.upon_value]
  go_wp2
  go_end0
  exact ⟨rfl, rfl⟩

theorem copyCheck_any (B b : Nat) (bs : List Value) (w : World) (h : Lib.IsBuilder 86 5 B b bs w) :
    Calls Tryd.prog 54 #[.pointer (some ⟨b, 0, none⟩)] w fun e w' => e = .returned (.tuple #[]) ∧ (Lib.BuilderAt 86 5 B b (.pointer (some ⟨b, 0, none⟩)) bs w' ∧ Below B w w') := by
  rcases h with h | h
  · refine (copy_fresh b w h.cell0 h.shape h.frozen0).mono ?_
    rintro e w' ⟨rfl, rfl⟩
    exact ⟨rfl, h.used _, (Below.refl B w).setCell (p := ⟨b, 0, none⟩) h.1 _⟩
  · refine (copy_used b w h.cell0).mono ?_
    rintro e w' ⟨rfl, rfl⟩
    exact ⟨rfl, h, Below.refl B _⟩

set_option maxHeartbeats 1000000 in
set_option maxRecDepth 100000 in
theorem writeByte_any (B b : Nat) (bs : List Value) (c : Int) (w : World) (h : Lib.IsBuilder 86 5 B b bs w) (hlen : bs.length + 1 ≤ 140737488355328) (hBw : B ≤ w.heap.size) :
    Calls Tryd.prog 45 #[.pointer (some ⟨b, 0, none⟩), .int .u8 c] w fun e w' => e = .returned .nilIface ∧ (Lib.BuilderAt 86 5 B b (.pointer (some ⟨b, 0, none⟩)) (bs ++ [.int .u8 c]) w' ∧ Below B w w') := by
  obtain ⟨i0, hi, hz0, hz1, hz2⟩ := info_parts Tryd.info5
  go_enter Tryd.func45, Tryd.ntmps45
  go_wp2_with fail
  refine (copyCheck_any B b bs w h).mono ?_
  rintro e w1 ⟨rfl, h1, hb1⟩
  obtain ⟨hB, v, hbk, hown, hne⟩ := h1
  have hlt : b < w1.heap.size := lt_of_block hbk
  have c0 : w1.cell? ⟨b, 0, none⟩ = some (.pointer (some ⟨b, 0, none⟩)) := by rw [cell_of_row w1 b 0 _ 86 (0, 0) hbk]; rfl
  have c1 : w1.cell? ⟨b, 1, none⟩ = some v := by rw [cell_of_row w1 b 1 _ 86 (0, 0) hbk]; rfl
  have hs1 := hb1.size
  go_wp2_with (at_builtin; refine wpList_append_own _ rfl _ _ 41 rfl B 5 i0 (.int .u8 0) 1 1 Tryd.underlying41 hi hz0 hz1 hz2 rfl (by decide) _ _ _ rfl (hown.alloc _) ⟨w1.heap.size, 0, none⟩ 1 1 [.int .u8 c] rfl rfl (cell_one_new _ _ _) ?c2 ?c3 ?c4 ?c5 ?_)
  case c2 => intro u hu; simp at hu; subst hu; rfl
  case c3 => unfold maxLen; omega
  case c4 => omega
  case c5 => simp; omega
  intro v' w2 hown' hgrow _
  obtain ⟨ao, nn, cp, rfl⟩ : ∃ ao nn cp, v' = .slice ao nn cp := by
    rcases hown'.2 with ⟨h, hn⟩ | ⟨g, cp, cur, h, _⟩
    · exact ⟨_, _, _, h⟩
    · exact ⟨_, _, _, h⟩
  have hb2 : w2.heap[b]? = some (.cells #[.pointer (some ⟨b, 0, none⟩), v] 86 (0, 0)) := by
    rw [hgrow.block b (by simp; omega) (fun e => hne e.symm), heap_alloc_old w1 _ hlt]
    exact hbk
  have d0 : w2.cell? ⟨b, 0, none⟩ = some (.pointer (some ⟨b, 0, none⟩)) := by rw [cell_of_row w2 b 0 _ 86 (0, 0) hb2]; rfl
  have d1 : w2.cell? ⟨b, 1, none⟩ = some v := by rw [cell_of_row w2 b 1 _ 86 (0, 0) hb2]; rfl
  have f1 : w2.frozen? ⟨b, 1, none⟩ = false := frozen_of_row w2 b 1 _ 86 hb2
  have hbel : Below B w w2 := (hb1.alloc (by omega) _).grown hgrow (by simp; omega) (fun k e => (hown.lt k e).1)
  clear c0 c1 hgrow hown hbk
  go_wp2
  go_ret
  exact ⟨rfl, Lib.BuilderAt.put hB hb2 (by simpa using hown') (by decide), hbel.setCell (p := ⟨b, 1, none⟩) hB _⟩

set_option maxHeartbeats 1000000 in
set_option maxRecDepth 100000 in
theorem writeString_any (B b : Nat) (bs : List Value) (s : ByteArray) (w : World) (h : Lib.IsBuilder 86 5 B b bs w) (hlen : bs.length + s.size ≤ 140737488355328) (hBw : B ≤ w.heap.size) :
    Calls Tryd.prog 47 #[.pointer (some ⟨b, 0, none⟩), .string s] w fun e w' => e = .returned (.tuple #[.int .i64 s.size, .nilIface]) ∧ (Lib.BuilderAt 86 5 B b (.pointer (some ⟨b, 0, none⟩)) (bs ++ Lib.strCells s) w' ∧ Below B w w') := by
  obtain ⟨i0, hi, hz0, hz1, hz2⟩ := info_parts Tryd.info5
  go_enter Tryd.func47, Tryd.ntmps47
  go_wp2_with fail
  refine (copyCheck_any B b bs w h).mono ?_
  rintro e w1 ⟨rfl, h1, hb1⟩
  obtain ⟨hB, v, hbk, hown, hne⟩ := h1
  have hlt : b < w1.heap.size := lt_of_block hbk
  have c0 : w1.cell? ⟨b, 0, none⟩ = some (.pointer (some ⟨b, 0, none⟩)) := by rw [cell_of_row w1 b 0 _ 86 (0, 0) hbk]; rfl
  have c1 : w1.cell? ⟨b, 1, none⟩ = some v := by rw [cell_of_row w1 b 1 _ 86 (0, 0) hbk]; rfl
  have hs1 := hb1.size
  go_wp2_with (at_builtin; refine Lib.wpList_append_own_string _ rfl _ _ 41 9 rfl B 5 i0 Tryd.underlying41 Tryd.underlying9 hi hz0 hz1 hz2 _ _ _ rfl hown s rfl ?c3 ?c4 ?c5 ?_)
  case c3 => unfold maxLen; omega
  case c4 => omega
  case c5 => omega
  intro v' w2 hown' hgrow _
  obtain ⟨ao, nn, cp, rfl⟩ : ∃ ao nn cp, v' = .slice ao nn cp := by
    rcases hown'.2 with ⟨h, hn⟩ | ⟨g, cp, cur, h, _⟩
    · exact ⟨_, _, _, h⟩
    · exact ⟨_, _, _, h⟩
  have hb2 : w2.heap[b]? = some (.cells #[.pointer (some ⟨b, 0, none⟩), v] 86 (0, 0)) := by
    rw [hgrow.block b hlt (fun e => hne e.symm)]
    exact hbk
  have d0 : w2.cell? ⟨b, 0, none⟩ = some (.pointer (some ⟨b, 0, none⟩)) := by rw [cell_of_row w2 b 0 _ 86 (0, 0) hb2]; rfl
  have d1 : w2.cell? ⟨b, 1, none⟩ = some v := by rw [cell_of_row w2 b 1 _ 86 (0, 0) hb2]; rfl
  have f1 : w2.frozen? ⟨b, 1, none⟩ = false := frozen_of_row w2 b 1 _ 86 hb2
  have hbel : Below B w w2 := hb1.grown hgrow (by omega) (fun k e => (hown.lt k e).1)
  clear c0 c1 hgrow hown hbk
  have hsl : (Lib.strCells s).length = s.size := by simp [Lib.strCells]
  go_wp2
  go_ret2
  exact ⟨rfl, Lib.BuilderAt.put hB hb2 (by simpa [hsl] using hown') (by decide), hbel.setCell (p := ⟨b, 1, none⟩) hB _⟩

theorem nat_eq {c d : UInt8} (h : (c.toNat : Int) = (d.toNat : Int)) : c = d := UInt8.toNat_inj.1 (by omega)

set_option maxHeartbeats 1000000 in
theorem quotesName_any (l : Lx.Lex) (q : UInt8) (w : World) :
    Calls Tryd.prog 34 #[.agg #[.bool l.exec, .bool l.noEsc, .bool l.ansi], .int .u8 q.toNat] w fun e w' => e = .returned (.bool (Lx.quotesName l q)) ∧ w' = w.alloc (.cells #[.bool l.exec, .bool l.noEsc, .bool l.ansi] 26) := by
  have H : Hid (Lx.quotesName l q = (decide ((q.toNat : Int) = 96) || (decide ((q.toNat : Int) = 34) && l.ansi))) := by
    show Lx.quotesName l q = _
    unfold Lx.quotesName
    rw [eq_int, eq_int]
    rfl
  obtain ⟨a, b, c⟩ := l
  simp only at H ⊢
  generalize (q.toNat : Int) = x at H
  by_cases h1 : x = 96
  · subst h1
    go_enter Tryd.func34, Tryd.ntmps34
    go_wp2
    go_ret
    exact ⟨by rw [H.out]; rfl, rfl⟩
  · by_cases h2 : x = 34
    · subst h2
      go_enter Tryd.func34, Tryd.ntmps34
      go_wp2
      go_ret
      exact ⟨by rw [H.out]; rfl, rfl⟩
    · have e1 : (x == 96) = false := by simpa using h1
      have e2 : (x == 34) = false := by simpa using h2
      have H2 : Hid ((decide (x = 96) || (decide (x = 34) && c)) = false) := by
        show _ = false
        simp [h1, h2]
      clear h1 h2
      go_enter Tryd.func34, Tryd.ntmps34
      go_wp2
      go_ret
      exact ⟨by rw [H.out, H2.out]; rfl, rfl⟩

set_option maxHeartbeats 1000000 in
theorem unescaped_any (c : UInt8) (w : World) :
    Calls Tryd.prog 48 #[.int .u8 c.toNat] w fun e w' => e = .returned (.int .u8 (Lx.unesc c).toNat) ∧ w' = w := by
  by_cases h1 : c = 48
  · subst h1; go_enter Tryd.func48, Tryd.ntmps48; go_wp2; go_ret; exact ⟨rfl, rfl⟩
  by_cases h2 : c = 98
  · subst h2; go_enter Tryd.func48, Tryd.ntmps48; go_wp2; go_ret; exact ⟨rfl, rfl⟩
  by_cases h3 : c = 110
  · subst h3; go_enter Tryd.func48, Tryd.ntmps48; go_wp2; go_ret; exact ⟨rfl, rfl⟩
  by_cases h4 : c = 114
  · subst h4; go_enter Tryd.func48, Tryd.ntmps48; go_wp2; go_ret; exact ⟨rfl, rfl⟩
  by_cases h5 : c = 116
  · subst h5; go_enter Tryd.func48, Tryd.ntmps48; go_wp2; go_ret; exact ⟨rfl, rfl⟩
  by_cases h6 : c = 90
  · subst h6; go_enter Tryd.func48, Tryd.ntmps48; go_wp2; go_ret; exact ⟨rfl, rfl⟩
  have H : Hid (Lx.unesc c = c) := by
    show Lx.unesc c = c
    simp [Lx.unesc, h1, h2, h3, h4, h5, h6]
  have g : ∀ d : UInt8, c ≠ d → ((c.toNat : Int) == (d.toNat : Int)) = false := fun d hd => by
    rw [beq_eq_false_iff_ne]; exact fun h => hd (nat_eq h)
  have e1 : ((c.toNat : Int) == 48) = false := g 48 h1
  have e2 : ((c.toNat : Int) == 98) = false := g 98 h2
  have e3 : ((c.toNat : Int) == 110) = false := g 110 h3
  have e4 : ((c.toNat : Int) == 114) = false := g 114 h4
  have e5 : ((c.toNat : Int) == 116) = false := g 116 h5
  have e6 : ((c.toNat : Int) == 90) = false := g 90 h6
  clear h1 h2 h3 h4 h5 h6 g
  go_enter Tryd.func48, Tryd.ntmps48
  go_wp2
  go_ret
  exact ⟨by rw [H.out]; rfl, rfl⟩

end Go.Proofs.Qxb6613163aDoor
