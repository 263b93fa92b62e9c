/-
  THE WALKS of StatementTokens (11), LexerOf (9), LeadsWithX (12), Rest (14), SameTokens (13).
-/
import Derived.Test.Qxb6613163aDoorWr
namespace Go.Proofs.Qxb6613163aDoor
open Go.RowKit

set_option maxHeartbeats 2000000 in
theorem tokens_x (l : Lx.Lex) (q : ByteArray) (m : Int) (w : World) (hq : q.size ≤ 4194304) (hm : w.cell? ⟨5, 0, none⟩ = some (.int .i64 m)) (T : List Lx.Tok) (hT : Hid (Lx.toks l q.data.toList = T))
    (t0 : Lx.Tok) (ht : (T[0]?).getD zeroTok = t0) (ha : Ascii t0.text) (hl : t0.text.length < 4294967281) (hkw : isKw t0 kwSet = false) :
    Calls Tryd.prog 11 #[.string q, .agg #[.bool l.exec, .bool l.noEsc, .bool l.ansi]] w fun e w' => (∃ v, e = .returned v ∧ Reads w' v T) ∧ Below w.heap.size w w' := by
  have h5 : 5 < w.heap.size := lt_of_cell hm
  have C : Hid (_) := settings_x l q m (w.alloc (.cells #[.bool l.exec, .bool l.noEsc, .bool l.ansi] 26)) hq (by rw [World.cell?_alloc_lt w _ _ h5]; exact hm) T hT t0 ht ha hl hkw
  clear hm ht ha hkw
  go_enter Tryd.func11, Tryd.ntmps11
  go_wp2_with fail
  refine Calls.mono C.out ?_
  rintro e w1 ⟨⟨v, rfl, hv⟩, hb⟩
  replace hv : Hid (_) := hv
  replace hb : Hid (_) := hb
  go_wp2
  go_ret
  exact ⟨⟨_, rfl, hv.out⟩, ((Below.refl _ w).alloc (Nat.le_refl _) _).trans (hb.out.mono (by simp))⟩

theorem lexerOf_any (a b c : Bool) (w : World) :
    Calls Tryd.prog 9 #[.bool a, .bool b, .bool c] w fun e w' => e = .returned (.agg #[.bool a, .bool b, .bool c]) ∧ Below w.heap.size w w' := by
  go_enter Tryd.func9, Tryd.ntmps9
  go_wp2
  go_returns
  exact ⟨rfl, (Below.refl _ w).alloc (Nat.le_refl _) _⟩

def xTok : Lx.Tok := ⟨119, [120], false, 0, 1⟩

set_option maxHeartbeats 2000000 in
theorem leads_x (w : World) (v : Value) (T : List Lx.Tok) (hv : Reads w v (xTok :: T)) :
    Calls Tryd.prog 12 #[v] w fun e w' => e = .returned (.bool true) ∧ Below w.heap.size w w' := by
  rcases hv with ⟨h, _⟩ | ⟨g, off, cap, cur, rfl, hcap, hg, hsz, hc⟩
  · cases h
  have k0 := row_cells hg hc 0 xTok rfl 0 (by omega)
  have k1 := row_cells hg hc 0 xTok rfl 1 (by omega)
  have k2 := row_cells hg hc 0 xTok rfl 2 (by omega)
  have k3 := row_cells hg hc 0 xTok rfl 3 (by omega)
  have k4 := row_cells hg hc 0 xTok rfl 4 (by omega)
  have hgl : g < w.heap.size := lt_of_block hg
  simp only [tokCells, List.getElem?_cons_zero, List.getElem?_cons_succ, Nat.add_zero, Nat.zero_mul, xTok] at k0 k1 k2 k3 k4
  clear hc hg hsz
  generalize hn : (xTok :: T).length = n at hcap
  have hn1 : 1 ≤ n := by rw [← hn]; simp
  have hn0 : ((n : Int) == 0) = false := by simp; omega
  have hn2 : (0 : Int) < (n : Int) := by omega
  clear hn
  go_enter Tryd.func12, Tryd.ntmps12
  go_wp2
  go_ret
  exact ⟨rfl, (Below.refl _ w).alloc (Nat.le_refl _) _⟩

set_option maxHeartbeats 4000000 in
set_option maxRecDepth 100000 in
theorem rest_any (w : World) (v : Value) (T : List Lx.Tok) (d : Nat) (hv : Reads w v (xTok :: T)) (hT : T.length ≤ 67108864) (hd : d ≤ 1073741824) (hb : Hid (∀ t ∈ T, t.lo ≤ 1073741824 ∧ t.hi ≤ 1073741824)) :
    Calls Tryd.prog 14 #[v, .int .i64 d] w fun e w' => (∃ r, e = .returned r ∧ Reads w' r (T.map (Lx.Tok.shift d))) ∧ Below w.heap.size w w' := by
  obtain ⟨i0, hi, hz0, hz1, hz2⟩ := info_parts Tryd.info37
  rcases hv with ⟨h, _⟩ | ⟨g, off, cap, cur, rfl, hcap, hg, hsz, hc⟩
  · cases h
  have hgl : g < w.heap.size := lt_of_block hg
  have Hg : Hid (w.heap[g]? = some (.cells cur 37 (0, 0))) := hg
  have HC : Hid (_) := hc
  have hlen : (xTok :: T).length = T.length + 1 := rfl
  clear hg hc
  rw [hlen] at hcap ⊢
  go_enter Tryd.func14, Tryd.ntmps14
  go_wp2
  go_loopg [6, 5] T.length (fun q iv r wr => ∃ k : Nat, k ≤ T.length ∧ T.length ≤ k + q ∧ iv = .int .i64 ((k + 1 : Nat) : Int) ∧ Hid (wr.ownsRow w.heap.size 37 5 r k (((T.take k).map (Lx.Tok.shift d)).flatMap tokCells)) ∧ Hid (Below w.heap.size w wr))
  case atStart => exact ⟨0, by omega, by omega, rfl, World.ownsRow_nil w w.heap.size 37 5, Below.refl _ _⟩
  case round =>
    obtain ⟨k, hk, hq, rfl, HW, HB⟩ := hrel
    have hs := HB.out.size
    by_cases hlt : k < T.length
    · obtain ⟨t, ht⟩ : ∃ t, T[k]? = some t := ⟨T[k], List.getElem?_eq_getElem hlt⟩
      have hblk := Hg.out
      rw [← HB.out.block g hgl] at hblk
      have ht1 : (xTok :: T)[k + 1]? = some t := by simpa using ht
      have k0 := row_cells hblk HC.out (k + 1) t ht1 0 (by omega)
      have k1 := row_cells hblk HC.out (k + 1) t ht1 1 (by omega)
      have k2 := row_cells hblk HC.out (k + 1) t ht1 2 (by omega)
      have k3 := row_cells hblk HC.out (k + 1) t ht1 3 (by omega)
      have k4 := row_cells hblk HC.out (k + 1) t ht1 4 (by omega)
      have hgw : g < wr.heap.size := by omega
      have htb := hb.out t (List.mem_of_getElem? ht)
      have hfl : Hid (((T.take (k + 1)).map (Lx.Tok.shift d)).flatMap tokCells = ((T.take k).map (Lx.Tok.shift d)).flatMap tokCells ++ tokCells (t.shift d)) := by
        show _ = _
        rw [List.take_add_one, ht]; simp
      have htc : Hid (tokCells (t.shift d) = [.int .u8 t.kind.toNat, .string ⟨t.text.toArray⟩, .bool t.quoted, .int .i64 ((t.lo : Int) + d), .int .i64 ((t.hi : Int) + d)]) := by
        show _ = _
        simp [tokCells, Lx.Tok.shift]
      have hlt' : (k : Int) + 1 < ((T.length + 1 : Nat) : Int) := by omega
      have hlt2 : k + 1 < T.length + 1 := by omega
      obtain ⟨kd, tx, qd, lo, hi'⟩ := t
      simp only [tokCells, List.getElem?_cons_zero, List.getElem?_cons_succ, Nat.add_zero] at k0 k1 k2 k3 k4 htb
      obtain ⟨hb1, hb2⟩ := htb
      clear hblk ht ht1
      go_wp2_with (at_builtin; refine wpList_append_own _ rfl _ _ 30 rfl w.heap.size 37 i0 _ 5 48 Tryd.underlying30 hi hz0 hz1 hz2 rfl (by decide) _ _ _ rfl ((HW.out.alloc _).alloc _) ⟨wr.heap.size + 1, 0, none⟩ 1 1 [.int .u8 kd.toNat, .string ⟨tx.toArray⟩, .bool qd, .int .i64 ((lo : Int) + d), .int .i64 ((hi' : Int) + d)] rfl rfl ?c1 ?c2 ?c3 ?c4 ?c5 ?_)
      case c2 => exact ⟨rfl, rfl, rfl, rfl, rfl⟩
      case c3 => unfold maxLen; omega
      case c4 => omega
      case c5 => omega
      intro v' w2 hown' hgrow _
      replace hown' : Hid (w2.ownsRow w.heap.size 37 5 v' (k + 1) (((T.take (k + 1)).map (Lx.Tok.shift d)).flatMap tokCells)) := by
        show w2.ownsRow _ _ _ _ _ _
        rw [hfl.out, htc.out, List.map_take]
        exact hown'
      replace hgrow : Hid (Below w.heap.size w w2) := ((HB.out.alloc hs _).alloc (by simp; omega) _).grown hgrow (by simp; omega) (fun j e => (HW.out.lt j e).1)
      obtain ⟨ao, nn, cp, rfl⟩ : ∃ ao nn cp, v' = .slice ao nn cp := by
        rcases hown'.out.2 with ⟨h, hn⟩ | ⟨g, cp, cur, h, _⟩
        · exact ⟨_, _, _, h⟩
        · exact ⟨_, _, _, h⟩
      go_wp2
      go_roundg (gk - 1)
      case measure => omega
      case rel => exact ⟨k + 1, by omega, by omega, by go_num, hown', hgrow⟩
    · have hge : decide (k + 1 < T.length + 1) = false := by simp; omega
      have hge2 : decide (k < T.length) = false := by simp; omega
      have hge' : decide ((k : Int) + 1 < (T.length : Int) + 1) = false := by simp; omega
      obtain rfl : k = T.length := by omega
      rw [List.take_length] at HW
      go_wp2
      go_ret
      exact ⟨⟨_, rfl, own_reads (by rw [List.length_map]; exact HW.out)⟩, HB.out⟩

set_option maxHeartbeats 4000000 in
set_option maxRecDepth 100000 in
theorem same_yes (w : World) (a b : Value) (T : List Lx.Tok) (ha : Reads w a T) (hb : Reads w b T) (hT : T.length ≤ 67108864) :
    Calls Tryd.prog 13 #[a, b] w fun e w' => e = .returned (.bool true) ∧ Below w.heap.size w w' := by
  rcases ha with ⟨h0, ha⟩ | ⟨g, off, cap, cur, rfl, hcap, hg, hsz, hc⟩
  · have hb0 : ∃ ab cb, b = .slice ab 0 cb := by
      rcases hb with ⟨_, h⟩ | ⟨g, off, cap, cur, h, _⟩
      · exact ⟨_, _, h⟩
      · rw [h0] at h; exact ⟨_, _, h⟩
    obtain ⟨ab, cb, rfl⟩ := hb0
    subst ha
    clear hb
    go_enter Tryd.func13, Tryd.ntmps13
    go_wp2
    go_loopg [5] 1 (fun _ i wr => i = .int .i64 0 ∧ wr = w)
    case atStart => exact ⟨rfl, rfl⟩
    case round =>
      obtain ⟨rfl, rfl⟩ := hrel
      go_wp2
      go_ret
      exact ⟨rfl, Below.refl _ _⟩
  · rcases hb with ⟨h0, rfl⟩ | ⟨g', off', cap', cur', rfl, hcap', hg', hsz', hc'⟩
    · subst h0
      go_enter Tryd.func13, Tryd.ntmps13
      go_wp2
      go_loopg [5] 1 (fun _ i wr => i = .int .i64 0 ∧ wr = w)
      case atStart => exact ⟨rfl, rfl⟩
      case round =>
        obtain ⟨rfl, rfl⟩ := hrel
        go_wp2
        go_ret
        exact ⟨rfl, Below.refl _ _⟩
    · have Hg : Hid (_) := hg
      have Hg' : Hid (_) := hg'
      have HC : Hid (_) := hc
      have HC' : Hid (_) := hc'
      clear hg hg' hc hc'
      go_enter Tryd.func13, Tryd.ntmps13
      go_wp2
      go_loopg [5] T.length (fun q i wr => ∃ k : Nat, k ≤ T.length ∧ T.length ≤ k + q ∧ i = .int .i64 k ∧ Hid (Below w.heap.size w wr))
      case atStart => exact ⟨0, by omega, by omega, rfl, Below.refl _ _⟩
      case round =>
        obtain ⟨k, hk, hq, rfl, HB⟩ := hrel
        by_cases hlt : k < T.length
        · obtain ⟨t, ht⟩ : ∃ t, T[k]? = some t := ⟨T[k], List.getElem?_eq_getElem hlt⟩
          have hblk := Hg.out
          rw [← HB.out.block g (lt_of_block Hg.out)] at hblk
          have hblk' := Hg'.out
          rw [← HB.out.block g' (lt_of_block Hg'.out)] at hblk'
          have k0 := row_cells hblk HC.out k t ht 0 (by omega)
          have k1 := row_cells hblk HC.out k t ht 1 (by omega)
          have k2 := row_cells hblk HC.out k t ht 2 (by omega)
          have k3 := row_cells hblk HC.out k t ht 3 (by omega)
          have k4 := row_cells hblk HC.out k t ht 4 (by omega)
          have j0 := row_cells hblk' HC'.out k t ht 0 (by omega)
          have j1 := row_cells hblk' HC'.out k t ht 1 (by omega)
          have j2 := row_cells hblk' HC'.out k t ht 2 (by omega)
          have j3 := row_cells hblk' HC'.out k t ht 3 (by omega)
          have j4 := row_cells hblk' HC'.out k t ht 4 (by omega)
          simp only [tokCells, List.getElem?_cons_zero, List.getElem?_cons_succ, Nat.add_zero] at k0 k1 k2 k3 k4 j0 j1 j2 j3 j4
          have hlt' : (k : Int) < (T.length : Int) := by omega
          clear hblk hblk' ht
          go_wp2_with fail
          go_region
          go_wp2
          go_roundg (gk - 1)
          case measure => omega
          case rel => exact ⟨k + 1, by omega, by omega, by go_num, HB.out.drew⟩
        · have hge : decide (k < T.length) = false := by simp; omega
          have hge' : decide ((k : Int) < (T.length : Int)) = false := by simp; omega
          go_wp2
          go_ret
          exact ⟨rfl, HB.out⟩

end Go.Proofs.Qxb6613163aDoor
