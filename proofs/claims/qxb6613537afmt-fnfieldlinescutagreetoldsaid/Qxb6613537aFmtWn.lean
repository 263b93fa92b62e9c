/-
  THE WALK of zzmRebuild (11).
-/
import Derived.Test.Qxb6613537aFmtWm
namespace Go.Proofs.Qxb6613537aFmt
open Go.RowKit
open Pl

theorem own_bytes {w : World} {Bs g cap n : Nat} {bs : List UInt8} (h : w.ownsRow Bs 5 1 (.slice (some ⟨g, 0, none⟩) n cap) n (Lib.byteCells bs)) (hn : n = bs.length) : Lib.Bytes w g 0 ⟨bs.toArray⟩ := by
  subst hn
  rcases h.2 with ⟨h0, _⟩ | ⟨g', cap', cur, hv, _, hg, hc, _, hs, ht⟩
  · cases h0
  · simp only [Value.slice.injEq, Option.some.injEq, Addr.mk.injEq] at hv
    obtain ⟨⟨rfl, _⟩, _, rfl⟩ := hv
    intro j hj
    have hj' : j < bs.length := hj
    rw [Nat.mul_one] at ht
    rw [cell_of_row w _ _ _ 5 (0, 0) hg, ← Array.getElem?_toList, Nat.zero_add, ← List.getElem?_take_of_lt (l := cur.toList) hj', ht]
    simp [Lib.byteCells, hj']
    rfl

theorem cells_new_at (w : World) (n : Nat) (xs : List Value) (t : TypeId) (h : n = w.heap.size) : ∀ j u, xs[j]? = some u → (w.alloc (.cells xs.toArray t)).cell? ((⟨n, 0, none⟩ : Addr).add j) = some u := by
  subst h
  intro j u hj
  rw [← hj, show ((⟨w.heap.size, 0, none⟩ : Addr).add j) = ⟨w.heap.size, j, none⟩ from by cases j <;> simp [Addr.add], cell_of_row _ _ j _ t (0, 0) (heap_alloc_new w _)]
  simp

set_option maxHeartbeats 8000000 in
set_option maxRecDepth 100000 in
theorem rebuild_any (w : World) (tv ev : Value) (l : List (List UInt8 × Bool)) (h1 : VRow encS w tv (l.map (·.1))) (h2 : VRow Value.bool w ev (l.map (·.2))) (hl : l.length ≤ 2097152) (hr : (rebuild l).length ≤ 2097152) :
    Calls Tryf.prog 11 #[tv, ev] w fun e w' => e = .returned (.string ⟨(rebuild l).toArray⟩) ∧ Below w.heap.size w w' := by
  by_cases h0 : l = []
  · subst h0
    have g1 : ∃ a c, tv = .slice a 0 c := by rcases h1 with ⟨_, h⟩ | ⟨g, o, c, h, _⟩ <;> exact ⟨_, _, h⟩
    have g2 : ∃ a c, ev = .slice a 0 c := by rcases h2 with ⟨_, h⟩ | ⟨g, o, c, h, _⟩ <;> exact ⟨_, _, h⟩
    obtain ⟨a1, c1, rfl⟩ := g1
    obtain ⟨a2, c2, rfl⟩ := g2
    clear h1 h2
    go_enter Tryf.func11, Tryf.ntmps11
    go_wp2
    go_loopg [6, 5] 1 (fun _ i bv wr => i = .int .i64 0 ∧ bv = .slice none 0 0 ∧ wr = w)
    case atStart => exact ⟨rfl, rfl, rfl⟩
    case round =>
      obtain ⟨rfl, rfl, rfl⟩ := hrel
      have hcv : (convert 43 9 (.slice none 0 0)).run Tryf.prog wr = .ok (.string ⟨#[]⟩) wr := by kernel_rfl
      go_wp2
      go_ret
      exact ⟨rfl, Below.refl _ _⟩
  · obtain ⟨i5, hi5, z5a, z5b, z5c⟩ := info_parts Tryf.info5
    obtain ⟨g1, o1, c1, rfl, p1, q1⟩ := h1.resolve_left (fun h => h0 (List.map_eq_nil_iff.1 h.1))
    obtain ⟨g2, o2, c2, rfl, p2, q2⟩ := h2.resolve_left (fun h => h0 (List.map_eq_nil_iff.1 h.1))
    clear h1 h2
    rw [List.length_map] at p1 p2
    rw [List.length_map, List.length_map]
    replace q1 : Hid (_) := q1
    replace q2 : Hid (_) := q2
    go_enter Tryf.func11, Tryf.ntmps11
    go_wp2
    go_loopg [6, 5] l.length (fun q iv bv wr => ∃ (k : Nat) (bs : List UInt8), k ≤ l.length ∧ l.length ≤ k + q ∧ iv = .int .i64 k ∧ Hid (bs = rebuild (l.take k)) ∧ bs.length ≤ 2097152 ∧ Hid (wr.ownsRow w.heap.size 5 1 bv bs.length (Lib.byteCells bs)) ∧ Hid (Below w.heap.size w wr))
    case atStart => exact ⟨0, [], by omega, by omega, rfl, rfl, by simp, World.ownsRow_nil _ _ _ _, Below.refl _ _⟩
    case round =>
      obtain ⟨k, bs, hk, hq, rfl, HR, hbl, HW, HB⟩ := hrel
      have hs := HB.out.size
      by_cases hlt : k < l.length
      · obtain ⟨x, hx⟩ : ∃ x, l[k]? = some x := ⟨l[k], List.getElem?_eq_getElem hlt⟩
        have k1 : wr.cell? ⟨g1, o1 + k, none⟩ = some (.string ⟨x.1.toArray⟩) := by
          have := q1.out k x.1 (by rw [List.getElem?_map, hx]; rfl)
          rw [HB.out.cell (World.block_lt_of_cell? w _ this)]; exact this
        have k2 : Hid (w.cell? ⟨g2, o2 + k, none⟩ = some (.bool x.2)) := q2.out k x.2 (by rw [List.getElem?_map, hx]; rfl)
        have hreb : rebuild (l.take (k + 1)) = rebuild (l.take k) ++ (x.1 ++ [if x.2 then 10 else 32]) := by
          rw [List.take_add_one, hx]; simp [rebuild]
        have hle : (rebuild (l.take (k + 1))).length ≤ 2097152 := by
          have e : l = l.take (k + 1) ++ l.drop (k + 1) := (List.take_append_drop _ _).symm
          have e2 : rebuild l = rebuild (l.take (k + 1)) ++ rebuild (l.drop (k + 1)) := by
            conv => lhs; rw [e]
            exact List.flatMap_append
          rw [e2, List.length_append] at hr
          omega
        rw [hreb, ← HR.out] at hle
        have hN : Hid (bs ++ (x.1 ++ [if x.2 then 10 else 32]) = rebuild (l.take (k + 1))) := by show _ = _; rw [hreb, HR.out]
        have hxl : x.1.length ≤ 2097152 := by rw [List.length_append, List.length_append] at hle; omega
        have hbx : bs.length + x.1.length + 1 ≤ 2097152 := by rw [List.length_append, List.length_append] at hle; simpa [Nat.add_assoc] using hle
        have hlt' : (k : Int) < (l.length : Int) := by omega
        obtain ⟨f, b⟩ := x
        simp only at k1 k2 hN hxl hbx
        clear hx hreb hle HR
        go_wp2_with (at_builtin; refine Lib.wpList_append_own_string _ rfl _ _ 43 9 rfl w.heap.size 5 i5 Tryf.underlying43 Tryf.underlying9 hi5 z5a z5b z5c _ _ _ rfl HW.out ⟨f.toArray⟩ rfl ?t1 ?t2 ?t3 ?_)
        case t1 => show _ + f.length ≤ _; unfold maxLen; omega
        case t2 => show _ + f.length ≤ _; omega
        case t3 => exact hs
        intro v2 w2 ho2 hg2 _
        have HB2 : Hid (Below w.heap.size w w2) := HB.out.grown hg2 hs (fun j e => (HW.out.lt j e).1)
        obtain ⟨bs2, hbs2, HW2⟩ : ∃ bs2, Hid (bs2 = bs ++ f) ∧ Hid (w2.ownsRow w.heap.size 5 1 v2 bs2.length (Lib.byteCells bs2)) := ⟨bs ++ f, (rfl : bs ++ f = bs ++ f), by
          show w2.ownsRow _ _ _ _ _ _
          rw [List.length_append, show Lib.byteCells (bs ++ f) = Lib.byteCells bs ++ Lib.byteCells f from by simp [Lib.byteCells]]
          exact ho2⟩
        have hb2l : bs2.length = bs.length + f.length := by rw [hbs2.out, List.length_append]
        have hs2 := HB2.out.size
        clear ho2 hg2 k1
        obtain ⟨ao2, nn2, cp2, rfl⟩ : ∃ ao nn cp, v2 = .slice ao nn cp := by
          rcases HW2.out.2 with ⟨h, hn⟩ | ⟨g, cp, cur, h, _⟩
          · exact ⟨_, _, _, h⟩
          · exact ⟨_, _, _, h⟩
        have k3 : w2.cell? ⟨g2, o2 + k, none⟩ = some (.bool b) := by
          rw [HB2.out.cell (World.block_lt_of_cell? w _ k2.out)]; exact k2.out
        have hb2m : bs2.length + 1 ≤ 2097152 := by omega
        replace hb2l : Hid (_) := hb2l
        cases b
        · go_wp2_with (at_builtin; refine wpList_append_own _ rfl _ _ 43 rfl w.heap.size 5 i5 _ 1 1 Tryf.underlying43 hi5 z5a z5b z5c rfl (by decide) _ _ _ rfl (HW2.out.alloc _) ⟨w2.heap.size, 0, none⟩ 1 1 [.int .u8 32] rfl rfl (cells_new_at w2 _ [.int .u8 32] 5 rfl) (by intro u hu; simp at hu; subst hu; rfl) (by unfold maxLen; omega) (by omega) (by simp; omega) ?_)
          intro v3 w3 ho3 hg3 _
          have HB3 : Hid (Below w.heap.size w w3) := (HB2.out.alloc hs2 _).grown hg3 (by simp; omega) (fun j e => (HW2.out.lt j e).1)
          have HW3 : Hid (w3.ownsRow w.heap.size 5 1 v3 (bs2 ++ [32]).length (Lib.byteCells (bs2 ++ [32]))) := by
            show w3.ownsRow _ _ _ _ _ _
            rw [List.length_append, show Lib.byteCells (bs2 ++ [32]) = Lib.byteCells bs2 ++ [.int .u8 32] from by simp [Lib.byteCells]]
            exact ho3
          have N3 : Hid (bs2 ++ [32] = rebuild (l.take (k + 1))) := by
            show _ = _
            rw [← hN.out, hbs2.out]; simp
          clear ho3 hg3
          obtain ⟨ao3, nn3, cp3, rfl⟩ : ∃ ao nn cp, v3 = .slice ao nn cp := by
            rcases HW3.out.2 with ⟨h, hn⟩ | ⟨g, cp, cur, h, _⟩
            · exact ⟨_, _, _, h⟩
            · exact ⟨_, _, _, h⟩
          go_wp2
          go_roundg (gk - 1)
          case measure => omega
          case rel => exact ⟨k + 1, bs2 ++ [32], by omega, by omega, by go_num, N3, by simp; omega, HW3, HB3⟩
        · go_wp2_with (at_builtin; refine wpList_append_own _ rfl _ _ 43 rfl w.heap.size 5 i5 _ 1 1 Tryf.underlying43 hi5 z5a z5b z5c rfl (by decide) _ _ _ rfl (HW2.out.alloc _) ⟨w2.heap.size, 0, none⟩ 1 1 [.int .u8 10] rfl rfl (cells_new_at w2 _ [.int .u8 10] 5 rfl) (by intro u hu; simp at hu; subst hu; rfl) (by unfold maxLen; omega) (by omega) (by simp; omega) ?_)
          intro v3 w3 ho3 hg3 _
          have HB3 : Hid (Below w.heap.size w w3) := (HB2.out.alloc hs2 _).grown hg3 (by simp; omega) (fun j e => (HW2.out.lt j e).1)
          have HW3 : Hid (w3.ownsRow w.heap.size 5 1 v3 (bs2 ++ [10]).length (Lib.byteCells (bs2 ++ [10]))) := by
            show w3.ownsRow _ _ _ _ _ _
            rw [List.length_append, show Lib.byteCells (bs2 ++ [10]) = Lib.byteCells bs2 ++ [.int .u8 10] from by simp [Lib.byteCells]]
            exact ho3
          have N3 : Hid (bs2 ++ [10] = rebuild (l.take (k + 1))) := by
            show _ = _
            rw [← hN.out, hbs2.out]; simp
          clear ho3 hg3
          obtain ⟨ao3, nn3, cp3, rfl⟩ : ∃ ao nn cp, v3 = .slice ao nn cp := by
            rcases HW3.out.2 with ⟨h, hn⟩ | ⟨g, cp, cur, h, _⟩
            · exact ⟨_, _, _, h⟩
            · exact ⟨_, _, _, h⟩
          go_wp2
          go_roundg (gk - 1)
          case measure => omega
          case rel => exact ⟨k + 1, bs2 ++ [10], by omega, by omega, by go_num, N3, by simp; omega, HW3, HB3⟩
      · obtain rfl : k = l.length := by omega
        have hge : decide (l.length < l.length) = false := by simp
        rw [List.take_length] at HR
        have hbs0 : 0 < bs.length := by
          rw [HR.out]
          cases l with
          | nil => exact absurd rfl h0
          | cons x l => simp [rebuild]; omega
        obtain ⟨g, cap, rfl⟩ : ∃ g cap, u5 = .slice (some ⟨g, 0, none⟩) bs.length cap := by
          rcases HW.out.2 with ⟨_, h⟩ | ⟨g, cap, cur, hv, _⟩
          · omega
          · exact ⟨g, cap, hv⟩
        have hconv : (convert 43 9 (.slice (some ⟨g, 0, none⟩) bs.length cap)).run Tryf.prog wr = .ok (.string ⟨bs.toArray⟩) wr :=
          Lib.run_convert_whole (P := Tryf.prog) wr 43 5 9 Tryf.underlying43 Tryf.underlying5 Tryf.underlying9 g 0 ⟨bs.toArray⟩ (own_bytes HW.out rfl) cap
        go_wp2
        go_ret
        exact ⟨by rw [← HR.out]; rfl, HB.out⟩

end Go.Proofs.Qxb6613537aFmt
