/-
  THE WALK of StatementSettings (18): a text with its SET STATEMENT head.
-/
import Derived.Test.Qxb6613163aDoorWq
namespace Go.Proofs.Qxb6613163aDoor
open Go.RowKit

/-- From, whatever world the row is read in. -/
theorem from_at (w w0 : World) (v : Value) (T : List Lx.Tok) (i : Nat) (hv : Reads w0 v T) (h : i ≤ T.length) (hT : T.length ≤ 1073741824) :
    Calls Tryd.prog 27 #[v, .int .i64 i] w fun e w' => (∃ v', e = .returned v' ∧ Reads w0 v' (T.drop i)) ∧ w' = w := by
  rcases hv with ⟨rfl, rfl⟩ | ⟨g, off, cap, cur, rfl, hcap, hg, hsz, hc⟩
  · have hi : i = 0 := by simpa using h
    subst hi
    go_enter Tryd.func27, Tryd.ntmps27
    go_wp2
    go_ret
    exact ⟨⟨_, rfl, Or.inl ⟨rfl, rfl⟩⟩, rfl⟩
  · have R : Hid (Reads w0 (subV g off cap i (T.length - i)) (T.drop i)) := by
      have := reads_sub hcap hg hsz hc i T.length h (Nat.le_refl _)
      rwa [List.take_of_length_le (by rw [List.length_drop]; omega)] at this
    have e2 : decide (T.length < i) = false := by simp; omega
    have e3 : (i : Int) ≤ (T.length : Int) := by omega
    clear hg hc
    by_cases he : cap = i
    · have R2 : Hid (Reads w0 (.slice (some ⟨g, off, none⟩) 0 0) (T.drop i)) := by
        have := R.out
        unfold subV at this
        rwa [if_pos he, show T.length - i = 0 from by omega] at this
      subst he
      go_enter Tryd.func27, Tryd.ntmps27
      go_wp2
      go_ret
      exact ⟨⟨_, rfl, R2.out⟩, rfl⟩
    · have R2 : Hid (Reads w0 (.slice (some ⟨g, off + i * 5, none⟩) (T.length - i) (cap - i)) (T.drop i)) := by
        have := R.out
        unfold subV at this
        rwa [if_neg he] at this
      have he' : (cap == i) = false := by simpa using he
      go_enter Tryd.func27, Tryd.ntmps27
      go_wp2
      go_ret
      exact ⟨⟨_, rfl, R2.out⟩, rfl⟩

theorem flat_sub (T : List Lx.Tok) (a b : Nat) : ((T.flatMap tokCells).drop (5 * a)).take (5 * b) = ((T.drop a).take b).flatMap tokCells := by
  have dr : ∀ (a : Nat) (T : List Lx.Tok), (T.flatMap tokCells).drop (5 * a) = (T.drop a).flatMap tokCells := by
    intro a
    induction a with
    | zero => simp
    | succ a ih =>
      intro T
      cases T with
      | nil => simp
      | cons t T =>
        rw [List.flatMap_cons, List.drop_succ_cons, ← ih T, show 5 * (a + 1) = (tokCells t).length + 5 * a from by simp [tokCells]; omega, List.drop_length_add_append]
  have tk : ∀ (b : Nat) (T : List Lx.Tok), (T.flatMap tokCells).take (5 * b) = (T.take b).flatMap tokCells := by
    intro b
    induction b with
    | zero => simp
    | succ b ih =>
      intro T
      cases T with
      | nil => simp
      | cons t T =>
        rw [List.flatMap_cons, List.take_succ_cons, List.flatMap_cons, ← ih T, show 5 * (b + 1) = (tokCells t).length + 5 * b from by simp [tokCells]; omega, List.take_length_add_append]
  rw [dr, tk]

theorem sub_cells {off : Nat} {cur : Array Value} {T : List Lx.Tok} (hc : (cur.toList.drop off).take (5 * T.length) = T.flatMap tokCells) (lo hi : Nat) (h1 : lo ≤ hi) (h2 : hi ≤ T.length) :
    (cur.toList.drop (off + lo * 5)).take (5 * (hi - lo)) = ((T.drop lo).take (hi - lo)).flatMap tokCells := by
  rw [← flat_sub, ← hc, List.drop_take, List.drop_drop, List.take_take]
  congr 1
  · omega
  · rw [Nat.mul_comm lo 5]

/-- What the settings' cells say. -/
def SetsOK (w : World) (S : List Lx.Tok) : List Value → List (Nat × Nat) → Prop
  | [], [] => True
  | s :: v :: cs, p :: P => s = .string ⟨((S[p.1]?).getD zeroTok).text.toArray⟩ ∧ Reads w v ((S.drop (p.1 + 2)).take (p.2 - (p.1 + 2))) ∧ SetsOK w S cs P
  | _, _ => False

theorem SetsOK.snoc {w : World} {S : List Lx.Tok} : ∀ {cs : List Value} {P : List (Nat × Nat)} {s v : Value} {p : Nat × Nat}, SetsOK w S cs P → s = .string ⟨((S[p.1]?).getD zeroTok).text.toArray⟩ → Reads w v ((S.drop (p.1 + 2)).take (p.2 - (p.1 + 2))) → SetsOK w S (cs ++ [s, v]) (P ++ [p])
  | [], [], _, _, _, _, h1, h2 => ⟨h1, h2, trivial⟩
  | _ :: _ :: _, _ :: _, _, _, _, h, h1, h2 => ⟨h.1, h.2.1, h.2.2.snoc h1 h2⟩
  | [], _ :: _, _, _, _, h, _, _ => h.elim
  | [_], [], _, _, _, h, _, _ => h.elim
  | [_], _ :: _, _, _, _, h, _, _ => h.elim
  | _ :: _ :: _, [], _, _, _, h, _, _ => h.elim

theorem SetsOK.below {w w1 : World} {S : List Lx.Tok} {n : Nat} (hb : Below n w w1) (hn : w.heap.size ≤ n) : ∀ {cs : List Value} {P : List (Nat × Nat)}, SetsOK w S cs P → SetsOK w1 S cs P
  | [], [], _ => trivial
  | _ :: _ :: _, _ :: _, h => ⟨h.1, h.2.1.below hb hn, SetsOK.below hb hn h.2.2⟩
  | [], _ :: _, h => h.elim
  | [_], [], h => h.elim
  | [_], _ :: _, h => h.elim
  | _ :: _ :: _, [], h => h.elim

theorem field37_1 (a b c d e : Value) (w : World) : (Instr.field 37 (.agg #[a, b, c, d, e]) 1).run Tryd.prog w = .ok b w := by kernel_rfl

attribute [local go_sem] field37_1

theorem items_pos (S : List Lx.Tok) : ∀ (fr : Nat) (O : List Nat), 0 < (itemsF S fr O).length
  | _, [] => by simp [itemsF]
  | fr, i :: O => by
    simp only [itemsF]
    split
    · simp
    · exact items_pos S fr O

theorem Tryd.info47 : (Tryd.prog.info? 47).map (fun i => (i.zero, i.size, i.bytes)) = some (some (.agg #[.string ⟨#[]⟩, .slice none 0 0]), 2, 40) := by kernel_rfl

set_option maxHeartbeats 16000000 in
set_option maxRecDepth 100000 in
theorem settings_h (l : Lx.Lex) (q : ByteArray) (m : Int) (w : World) (hq : q.size ≤ 4194304) (hm : w.cell? ⟨5, 0, none⟩ = some (.int .i64 m)) (T : List Lx.Tok) (hT : Hid (Lx.toks l q.data.toList = T))
    (t0 t1 : Lx.Tok) (ht : (T[0]?).getD zeroTok = t0) (ha : Ascii t0.text) (hl : t0.text.length < 4294967281) (hkw : isKw t0 kwSet = true) (ht' : (T[1]?).getD zeroTok = t1) (ha' : Ascii t1.text) (hl' : t1.text.length < 4294967281) (hkw' : isKw t1 kwStatement = true)
    (f : Nat) (hf2 : 2 ≤ f) (hfT : f < T.length) (hfor : Hid (∀ j, j ≤ f → ∃ t, T[j]? = some t ∧ isKw t kwFor = decide (j = f) ∧ Ascii t.text ∧ t.text.length < 4294967281)) (hO : Hid (∀ j, j ≤ f → (outsF 0 0 T)[j]? = some j))
    (S : List Lx.Tok) (hS : (T.drop 2).take (f - 2) = S) (P : List (Nat × Nat)) (hP : Hid (itemsF S 0 (outsF 0 0 S) = P)) (hSO : outsF 0 0 S ≠ []) (hpc : Hid (∀ p ∈ P, p.1 + 2 ≤ p.2 ∧ p.2 ≤ S.length)) (hPl : P.length ≤ S.length) :
    Calls Tryd.prog 18 #[.string q, .agg #[.bool l.exec, .bool l.noEsc, .bool l.ansi]] w fun e w' => (∃ rs vt B cs, e = .returned (.tuple #[rs, vt]) ∧ w'.ownsRow B 47 2 rs P.length cs ∧ SetsOK w' S cs P ∧ Reads w' vt (T.drop (f + 1))) ∧ Below w.heap.size w w' := by
  have hSl : S.length = f - 2 := by rw [← hS, List.length_take, List.length_drop]; omega
  replace hS : Hid (_) := hS
  replace hSO : Hid (_) := hSO
  obtain ⟨i47, hi47, hy0, hy1, hy2⟩ := info_parts Tryd.info47
  obtain ⟨i0, hi, hz0, hz1, hz2⟩ := info_parts Tryd.info37
  have h5 : 5 < w.heap.size := lt_of_cell hm
  replace hm : Hid (_) := hm
  obtain ⟨l1, l2, l3⟩ := l
  go_enter Tryd.func18, Tryd.ntmps18
  go_wp2
  go_loopg [7, 6] q.size (fun g av v wr => ∃ (k : Nat) (acc : List Lx.Tok), k ≤ q.size ∧ q.size ≤ k + g ∧ av = .int .i64 k ∧ acc.length ≤ k ∧ Hid (acc ++ (Lx.toks ⟨l1, l2, l3⟩ (q.data.toList.drop k)).map (Lx.Tok.shift k) = T) ∧ Hid (wr.ownsRow (w.heap.size + 1) 37 5 v acc.length (acc.flatMap tokCells)) ∧ Hid (Below (w.heap.size + 1) (w.alloc (.cells #[.bool l1, .bool l2, .bool l3] 26)) wr))
  case atStart =>
    refine ⟨0, [], by omega, by omega, rfl, by simp, ?_, World.ownsRow_nil _ _ _ _, Below.refl _ _⟩
    show _ = T
    rw [← hT.out, List.drop_zero]
    have : ∀ T : List Lx.Tok, T.map (Lx.Tok.shift 0) = T := fun T => by
      induction T with
      | nil => rfl
      | cons t T ih => rw [List.map_cons, ih]; rfl
    rw [List.nil_append, this]
  case round =>
    obtain ⟨k, acc, hk, hg, rfl, hal, HA, HW, HB⟩ := hrel
    have hs : w.heap.size + 1 ≤ wr.heap.size := by have := HB.out.size; simpa using this
    have hbx : wr.heap[w.heap.size]? = some (.cells #[.bool l1, .bool l2, .bool l3] 26) := by
      rw [HB.out.block w.heap.size (by omega)]; exact heap_alloc_new w _
    have b0 : wr.cell? ⟨w.heap.size, 0, none⟩ = some (.bool l1) := by rw [cell_of_row wr _ 0 _ 26 (0, 0) hbx]; rfl
    have b1 : wr.cell? ⟨w.heap.size, 1, none⟩ = some (.bool l2) := by rw [cell_of_row wr _ 1 _ 26 (0, 0) hbx]; rfl
    have b2 : wr.cell? ⟨w.heap.size, 2, none⟩ = some (.bool l3) := by rw [cell_of_row wr _ 2 _ 26 (0, 0) hbx]; rfl
    have hm' : wr.cell? ⟨5, 0, none⟩ = some (.int .i64 m) := by
      rw [HB.out.cell (p := ⟨5, 0, none⟩) (by show 5 < w.heap.size + 1; omega), World.cell?_alloc_lt w _ _ h5]
      exact hm.out
    replace hm' : Hid (_) := hm'
    clear hbx
    go_wp2_with fail
    refine (next_any ⟨l1, l2, l3⟩ q k m wr (by omega) hk hm'.out).mono ?_
    rintro e w1 ⟨hN, hb⟩
    replace hb : Hid (_) := hb
    have hsb : wr.heap.size ≤ w1.heap.size := hb.out.size
    cases hx : Lx.lexN ⟨l1, l2, l3⟩ (q.data.toList.drop k) with
    | some t =>
      rw [hx] at hN
      have hle := Lx.lexN_le _ _ _ t (Nat.le_refl _) hx
      rw [List.length_drop, Array.length_toList] at hle
      replace hle : t.kind ≠ 0 ∧ t.lo < t.hi ∧ t.hi ≤ q.size - k := hle
      obtain rfl : e = _ := hN
      have N : Hid ((acc ++ [t.shift k]) ++ (Lx.toks ⟨l1, l2, l3⟩ (q.data.toList.drop (k + t.hi))).map (Lx.Tok.shift (k + t.hi)) = T) := by
        show _ = T
        rw [← HA.out, Lx.toks_some _ _ t hx, List.drop_drop, List.map_cons, List.map_map, List.append_assoc]
        have e : ∀ L : List Lx.Tok, L.map (Lx.Tok.shift (k + t.hi)) = L.map (Lx.Tok.shift k ∘ Lx.Tok.shift t.hi) := fun L => by
          apply List.map_congr_left
          intro u _
          show _ = (u.shift t.hi).shift k
          rw [Lx.shift_shift, Nat.add_comm]
        rw [e]
        rfl
      have hfl : Hid ((acc ++ [t.shift k]).flatMap tokCells = acc.flatMap tokCells ++ tokCells (t.shift k)) := by show _ = _; simp
      have hkd : ((t.kind.toNat : Int) == 0) = false := by rw [beq_eq_false_iff_ne]; exact fun h => hle.1 (nat_eq (d := 0) h)
      have htc : Hid (tokCells (t.shift k) = [.int .u8 t.kind.toNat, .string ⟨t.text.toArray⟩, .bool t.quoted, .int .i64 ((t.lo + k : Nat) : Int), .int .i64 ((t.hi + k : Nat) : Int)]) := rfl
      obtain ⟨kd, tx, qd, lo, hi'⟩ := t
      simp only [tokVal, Lx.Tok.shift] at hkd hle ⊢
      obtain ⟨hle1, hle2, hle3⟩ := hle
      generalize hlo : lo + k = lo2
      generalize hhi : hi' + k = hi2
      clear HA
      go_wp2_with (at_builtin; refine wpList_append_own _ rfl _ _ 30 rfl (w.heap.size + 1) 37 i0 _ 5 48 Tryd.underlying30 hi hz0 hz1 hz2 rfl (by decide) _ _ _ rfl (((own_below HW.out hb.out).alloc _).alloc _) ⟨w1.heap.size + 1, 0, none⟩ 1 1 [.int .u8 kd.toNat, .string ⟨tx.toArray⟩, .bool qd, .int .i64 lo2, .int .i64 hi2] rfl rfl ?c1 ?c2 ?c3 ?c4 ?c5 ?_)
      case c2 => exact ⟨rfl, rfl, rfl, rfl, rfl⟩
      case c3 => unfold maxLen; omega
      case c4 => omega
      case c5 => omega
      intro v' w2 hown' hgrow _
      subst hlo hhi
      replace hown' : Hid (w2.ownsRow (w.heap.size + 1) 37 5 v' (acc ++ [Lx.Tok.shift k ⟨kd, tx, qd, lo, hi'⟩]).length ((acc ++ [Lx.Tok.shift k ⟨kd, tx, qd, lo, hi'⟩]).flatMap tokCells)) := by
        show w2.ownsRow _ _ _ _ _ _
        rw [hfl.out, htc.out, List.length_append]
        exact hown'
      have tv : w2.heap[w1.heap.size]? = some (.cells #[.int .u8 kd.toNat, .string ⟨tx.toArray⟩, .bool qd, .int .i64 ((lo + k : Nat) : Int), .int .i64 ((hi' + k : Nat) : Int)] 37) := by
        rw [hgrow.block w1.heap.size (by simp; omega) (fun e => by have := (HW.out.lt _ e.symm).2; omega), heap_alloc_old _ _ (by simp)]
        exact heap_alloc_new _ _
      have tv4 : w2.cell? ⟨w1.heap.size, 4, none⟩ = some (.int .i64 ((hi' + k : Nat) : Int)) := by rw [cell_of_row w2 _ 4 _ 37 (0, 0) tv]; rfl
      clear tv
      replace hgrow : Hid (Below (w.heap.size + 1) (w.alloc (.cells #[.bool l1, .bool l2, .bool l3] 26)) w2) := (((HB.out.trans (hb.out.mono hs)).alloc (by omega) _).alloc (by simp; omega) _).grown hgrow (by simp; omega) (fun j e => (HW.out.lt j e).1)
      obtain ⟨ao, nn, cp, rfl⟩ : ∃ ao nn cp, v' = .slice ao nn cp := by
        rcases hown'.out.2 with ⟨h, hn⟩ | ⟨g, cp, cur, h, _⟩
        · exact ⟨_, _, _, h⟩
        · exact ⟨_, _, _, h⟩
      go_wp2
      go_roundg (q.size - (k + hi'))
      case measure => omega
      case rel => exact ⟨k + hi', acc ++ [Lx.Tok.shift k ⟨kd, tx, qd, lo, hi'⟩], by omega, by omega, by go_num, by simp; omega, N, hown', hgrow⟩
    | none =>
      rw [hx] at hN
      obtain ⟨s', b', a', z', ev, rfl, hev⟩ := hN
      have N : Hid (acc = T) := by
        show acc = T
        rw [← HA.out, Lx.toks_none _ _ hx]; simp
      clear HA
      have HV : Hid (∀ o1 o2, Reads ((w1.alloc o1).alloc o2) u6 T) := fun o1 o2 => by
        have h := ((own_below HW.out hb.out).alloc o1).alloc o2
        rw [N.out] at h
        exact own_reads h
      have hTl : T.length ≤ q.size := by rw [← N.out]; omega
      have HBw : Hid (Below w.heap.size w w1) := (((Below.refl _ w).alloc (Nat.le_refl _) _).trans (HB.out.mono (by omega))).trans (hb.out.mono (by omega))
      have hw1 : w.heap.size < w1.heap.size := by omega
      rcases hev with rfl | ⟨iv, rfl⟩
      · have hown := own_below HW.out hb.out
        rw [N.out] at hown
        rcases hown.2 with ⟨_, h0⟩ | ⟨g, cap, cur, rfl, hg1, hg2, hg3, hg4, hg5, hg6⟩
        · omega
        have hgl : g < w1.heap.size := lt_of_block hg2
        have HC : Hid ((cur.toList.drop 0).take (5 * T.length) = T.flatMap tokCells) := by
          show (cur.toList.drop 0).take (5 * T.length) = _
          rw [List.drop_zero, Nat.mul_comm]; exact hg6
        have Hg : Hid (w1.heap[g]? = some (.cells cur 37 (0, 0))) := hg2
        have hcs : 5 * cap ≤ cur.size := by omega
        have HC2 : Hid ((cur.toList.drop 10).take (5 * S.length) = S.flatMap tokCells) := by
          have := sub_cells HC.out 2 f hf2 (by omega)
          rw [hS.out] at this
          rw [hSl]
          exact this
        clear hown hg2 hg6
        go_wp2_with fail
        refine (starts_yes _ _ T (w1.heap.size + 1) (HV.out _ _) (by omega) (top_block _ _ _ (by simp)) t0 t1 ht ha hl hkw ht' ha' hl' hkw').mono ?_
        rintro e w2 ⟨rfl, hb2⟩
        have HB2 : Hid (Below w.heap.size w w2) := ((HBw.out.alloc (by omega) _).alloc (by simp; omega) _).trans (hb2.mono (by simp; omega))
        have hblk2 : w2.heap[g]? = some (.cells cur 37 (0, 0)) := by
          rw [hb2.block g (by simp; omega), heap_alloc_old _ _ (by simp; omega), heap_alloc_old _ _ hgl]; exact Hg.out
        have RD2 : Hid (Reads w2 (.slice (some ⟨g, 0, none⟩) T.length cap) T) := Or.inr ⟨g, 0, cap, cur, rfl, hg3, hblk2, by omega, HC.out⟩
        have hw2 : w1.heap.size + 2 ≤ w2.heap.size := by have := hb2.size; simp at this; omega
        replace hblk2 : Hid (_) := hblk2
        clear hb2
        go_wp2_with fail
        refine (outside_any w2 _ T RD2.out (by omega)).mono ?_
        rintro e w3 ⟨⟨r, rfl, hr⟩, hb3⟩
        have h23 : w2.heap.size ≤ w3.heap.size := hb3.size
        rcases ints_cell hr with ⟨h, _⟩ | ⟨g8, cap8, rfl, _, hg8, hc8⟩
        · have := hO.out 0 (by omega); rw [h] at this; cases this
        have hblk3 : Hid (w3.heap[g]? = some (.cells cur 37 (0, 0))) := by
          show w3.heap[g]? = _
          rw [hb3.block g (lt_of_block hblk2.out)]; exact hblk2.out
        have hg3l : g < w3.heap.size := lt_of_block hblk3.out
        have HB3w : Hid (Below w.heap.size w w3) := HB2.out.trans (hb3.mono (by omega))
        have hOl : f < (outsF 0 0 T).length := by
          rcases Nat.lt_or_ge f (outsF 0 0 T).length with h | h
          · exact h
          · have := hO.out f (Nat.le_refl _); rw [List.getElem?_eq_none h] at this; cases this
        have hOl2 := outs_len T 0 0
        replace hc8 : Hid (∀ k, k ≤ f → w3.cell? ⟨g8, k, none⟩ = some (.int .i64 k)) := fun k hk => hc8 k k (hO.out k hk)
        generalize (outsF 0 0 T).length = oL at hOl hOl2 hr
        clear hr hb3
        go_wp2_with fail
        go_loopg [43] (f + 1) (fun gq iv wr => ∃ k : Nat, k ≤ f ∧ f + 1 ≤ k + gq ∧ iv = .int .i64 k ∧ Hid (Below w3.heap.size w3 wr))
        case atStart => exact ⟨0, by omega, by omega, rfl, Below.refl _ _⟩
        case round =>
          obtain ⟨k, hkf, hgk, rfl, HB3⟩ := hrel
          have h3r := HB3.out.size
          obtain ⟨t, htk, hkk, hta, htl⟩ := hfor.out k hkf
          have c8 : wr.cell? ⟨g8, k, none⟩ = some (.int .i64 k) := by rw [HB3.out.cell (p := ⟨g8, k, none⟩) hg8]; exact hc8.out k hkf
          have hblk : wr.heap[g]? = some (.cells cur 37 (0, 0)) := by rw [HB3.out.block g hg3l]; exact hblk3.out
          have k0 := row_cells hblk HC.out k t htk 0 (by omega)
          have k1 := row_cells hblk HC.out k t htk 1 (by omega)
          have k2 := row_cells hblk HC.out k t htk 2 (by omega)
          have k3 := row_cells hblk HC.out k t htk 3 (by omega)
          have k4 := row_cells hblk HC.out k t htk 4 (by omega)
          simp only [tokCells, List.getElem?_cons_zero, List.getElem?_cons_succ, Nat.add_zero, Nat.zero_add] at k0 k1 k2 k3 k4
          have hkT : (k : Int) < (T.length : Int) := by omega
          have hko : (k : Int) < (oL : Int) := by omega
          have IS : Hid (∀ w, Calls Tryd.prog 16 #[tokVal t, .string ⟨#[102, 111, 114]⟩] w fun e w' => e = .returned (.bool (decide (k = f))) ∧ w' = w.alloc (.cells #[.int .u8 t.kind.toNat, .string ⟨t.text.toArray⟩, .bool t.quoted, .int .i64 t.lo, .int .i64 t.hi] 37)) := fun w => by
            have := is_any t kwFor w htl hta asciiFor
            rw [hkk] at this
            exact this
          replace hblk : Hid (_) := hblk
          clear hkk hta htl htk
          by_cases hkf2 : k = f
          · subst hkf2
            have IS2 : Hid (∀ w, Calls Tryd.prog 16 #[tokVal t, .string ⟨#[102, 111, 114]⟩] w fun e w' => e = .returned (.bool true) ∧ w' = w.alloc (.cells #[.int .u8 t.kind.toNat, .string ⟨t.text.toArray⟩, .bool t.quoted, .int .i64 t.lo, .int .i64 t.hi] 37)) := fun w => by
              have := IS.out w
              rw [decide_eq_true rfl] at this
              exact this
            clear IS
            go_wp2_with fail
            refine Calls.mono (IS2.out _) ?_
            rintro e w4 ⟨rfl, rfl⟩
            have IT : Hid (∀ w4 : World, w4.heap[g]? = some (.cells cur 37 (0, 0)) → Calls Tryd.prog 25 #[.slice (some ⟨g, 10, none⟩) (k - 2) (cap - 2)] w4 fun e w' => (∃ r, e = .returned r ∧ w'.ownsRow w4.heap.size 30 1 r P.length (pieceCells g 10 (cap - 2) P)) ∧ Below w4.heap.size w4 w') := fun w4 h => by
              have := items_any w4 g 10 (cap - 2) cur S (by omega) h (by omega) HC2.out (by omega) (by rw [hP.out]; intro p hp; have := (hpc.out p hp).1; omega) hSO.out
              rw [hP.out, hSl] at this
              exact this
            have hk2 : (2 : Int) ≤ (k : Int) := by omega
            have hkc : (k : Int) ≤ (cap : Int) := by omega
            have hc2 : (cap == 2) = false := by simp; omega
            go_wp2_with fail
            refine Calls.mono (IT.out _ (old_block hblk.out)) ?_
            rintro e w5 ⟨⟨r5, rfl, hr5⟩, hb5⟩
            have h45 : wr.heap.size + 1 ≤ w5.heap.size := by have := hb5.size; simpa using this
            have hblk5 : Hid (w5.heap[g]? = some (.cells cur 37 (0, 0))) := by
              show w5.heap[g]? = _
              rw [hb5.block g (by simp; omega)]; exact old_block hblk.out
            have HB5w : Hid (Below w.heap.size w w5) := (((HB3w.out.trans (HB3.out.mono (by have := HB3w.out.size; omega))).alloc (by have := HB3w.out.size; omega) _)).trans (hb5.mono (by have := HB3w.out.size; simp; omega))
            have hPp : 0 < P.length := by rw [← hP.out]; exact items_pos _ _ _
            have hpcl : (pieceCells g 10 (cap - 2) P).length = P.length := by simp [pieceCells]
            rcases hr5.2 with ⟨_, h0⟩ | ⟨g5, cap5, cur5, rfl, hg51, hg52, hg53, hg54, hg55, hg56⟩
            · omega
            have hg5l : g5 < w5.heap.size := lt_of_block hg52
            have HC5 : Hid (∀ (j : Nat) (p : Nat × Nat), P[j]? = some p → w5.cell? ⟨g5, j, none⟩ = some (.slice (some ⟨g, 10 + p.1 * 5, none⟩) (p.2 - p.1) (cap - 2 - p.1))) := fun j p hj => by
              have hjl : j < P.length := by
                rcases Nat.lt_or_ge j P.length with h | h
                · exact h
                · rw [List.getElem?_eq_none h] at hj; cases hj
              have hp := hpc.out p (List.mem_of_getElem? hj)
              rw [cell_of_row w5 g5 j _ 30 (0, 0) hg52, ← Array.getElem?_toList]
              have e : (cur5.toList.take (P.length * 1))[j]? = cur5.toList[j]? := List.getElem?_take_of_lt (by omega)
              rw [← e, hg56]
              simp [pieceCells, hj, subV, show ¬ cap - 2 = p.1 from by omega]
            clear hr5 hb5 hg52 hg55 hg56
            go_wp2_with fail
            go_loopg [58, 12] P.length (fun gq jv rv wr => ∃ (j : Nat) (cs : List Value), j ≤ P.length ∧ P.length ≤ j + gq ∧ jv = .int .i64 j ∧ Hid (wr.ownsRow w5.heap.size 47 2 rv j cs) ∧ Hid (SetsOK w5 S cs (P.take j)) ∧ Hid (Below w5.heap.size w5 wr))
            case atStart => exact ⟨0, [], by omega, by omega, rfl, World.ownsRow_nil w5 w5.heap.size 47 2, trivial, Below.refl _ _⟩
            case round =>
              obtain ⟨j, cs, hjP, hjg, rfl, HWs, HSs, HB5⟩ := hrel
              have h5r := HB5.out.size
              have hblk6 : wr.heap[g]? = some (.cells cur 37 (0, 0)) := by rw [HB5.out.block g (lt_of_block hblk5.out)]; exact hblk5.out
              by_cases hjl : j < P.length
              · obtain ⟨p, hp⟩ : ∃ p, P[j]? = some p := ⟨P[j], List.getElem?_eq_getElem hjl⟩
                obtain ⟨hp1, hp2⟩ := hpc.out p (List.mem_of_getElem? hp)
                have c5 : wr.cell? ⟨g5, j, none⟩ = some (.slice (some ⟨g, 10 + p.1 * 5, none⟩) (p.2 - p.1) (cap - 2 - p.1)) := by
                  rw [HB5.out.cell (p := ⟨g5, j, none⟩) hg5l]; exact HC5.out j p hp
                have RDp : ∀ w0 : World, w0.heap[g]? = some (.cells cur 37 (0, 0)) → Reads w0 (.slice (some ⟨g, 10 + p.1 * 5, none⟩) (p.2 - p.1) (cap - 2 - p.1)) ((S.drop p.1).take (p.2 - p.1)) := fun w0 h => by
                  have := reads_sub (w := w0) (g := g) (off := 10) (cap := cap - 2) (cur := cur) (T := S) (by omega) h (by omega) HC2.out p.1 p.2 (by omega) hp2
                  unfold subV at this
                  rwa [if_neg (by omega)] at this
                have RD6 : Hid (_) := RDp wr hblk6
                have RD5 : Hid (_) := RDp w5 hblk5.out
                obtain ⟨ts, hts⟩ : ∃ ts, S[p.1]? = some ts := ⟨S[p.1], List.getElem?_eq_getElem (by omega)⟩
                have hp0 : ((S.drop p.1).take (p.2 - p.1))[0]? = some ts := by
                  rw [List.getElem?_take_of_lt (by omega), List.getElem?_drop, Nat.add_zero]; exact hts
                have hpl : ((S.drop p.1).take (p.2 - p.1)).length = p.2 - p.1 := by rw [List.length_take, List.length_drop]; omega
                have hdr : ((S.drop p.1).take (p.2 - p.1)).drop 2 = (S.drop (p.1 + 2)).take (p.2 - (p.1 + 2)) := by
                  rw [List.drop_take, List.drop_drop]; congr 1
                have AT : Hid (_) := at_in wr _ _ 0 ts RD6.out hp0 (by omega)
                have FR2 : Hid (∀ w6, _) := fun w6 => from_at w6 w5 _ _ 2 RD5.out (by omega) (by omega)
                rw [hdr] at FR2
                have hPt : P.take (j + 1) = P.take j ++ [p] := by rw [List.take_add_one, hp]; rfl
                have hj' : (j : Int) < (P.length : Int) := by omega
                replace hts : Hid (_) := hts
                replace hPt : Hid (_) := hPt
                clear RDp hp0 hpl hdr hblk6 RD6 RD5 hp
                go_wp2_with fail
                refine Calls.mono AT.out ?_
                rintro e w6 ⟨rfl, hb6⟩
                have h6 : wr.heap.size ≤ w6.heap.size := hb6.size
                replace hb6 : Hid (_) := hb6
                unfold tokVal
                go_wp2_with fail
                refine Calls.mono (FR2.out _) ?_
                rintro e w7 ⟨⟨v', rfl, hv'⟩, rfl⟩
                replace hv' : Hid (_) := hv'
                obtain ⟨ao, nn, cp, rfl⟩ : ∃ ao nn cp, v' = .slice ao nn cp := by
                  rcases hv'.out with ⟨_, h⟩ | ⟨_, _, _, _, h, _⟩
                  · exact ⟨_, _, _, h⟩
                  · exact ⟨_, _, _, h⟩
                go_wp2_with (at_builtin; refine wpList_append_own _ rfl _ _ 43 rfl w5.heap.size 47 i47 _ 2 40 Tryd.underlying43 hi47 hy0 hy1 hy2 rfl (by decide) _ _ _ rfl ((own_below HWs.out hb6.out).alloc _) ⟨w7.heap.size, 0, none⟩ 1 1 [.string ⟨ts.text.toArray⟩, .slice ao nn cp] rfl rfl ?d1 ?d2 ?d3 ?d4 ?d5 ?_)
                case d1 => exact cells_new_at _ _ _ _ rfl
                case d2 => intro u hu; simp at hu; rcases hu with rfl | rfl <;> rfl
                case d3 => unfold maxLen; omega
                case d4 => omega
                case d5 => simp; omega
                intro v2 w8 hown' hgrow _
                have N2 : Hid (SetsOK w5 S (cs ++ [.string ⟨ts.text.toArray⟩, .slice ao nn cp]) (P.take (j + 1))) := by
                  show SetsOK _ _ _ _
                  rw [hPt.out]
                  exact HSs.out.snoc (by rw [hts.out]; rfl) hv'.out
                replace hgrow : Hid (Below w5.heap.size w5 w8) := ((HB5.out.trans (hb6.out.mono h5r)).alloc (by omega) _).grown hgrow (by simp; omega) (fun i e => (HWs.out.lt i e).1)
                replace hown' : Hid (_) := hown'
                obtain ⟨ao2, nn2, cp2, rfl⟩ : ∃ ao nn cp, v2 = .slice ao nn cp := by
                  rcases hown'.out.2 with ⟨h, hn⟩ | ⟨g, cp, cur, h, _⟩
                  · exact ⟨_, _, _, h⟩
                  · exact ⟨_, _, _, h⟩
                go_wp2
                go_roundg (gk - 1)
                case measure => omega
                case rel => exact ⟨j + 1, _, by omega, by omega, by go_num, hown', N2, hgrow⟩
              · have hge : decide (j < P.length) = false := by simp; omega
                have hge' : decide ((j : Int) < (P.length : Int)) = false := by simp; omega
                obtain rfl : j = P.length := by omega
                rw [List.take_length] at HSs
                have FR3 : Hid (∀ w6, _) := fun w6 => from_at w6 w5 (.slice (some ⟨g, 0, none⟩) T.length cap) T (k + 1) (Or.inr ⟨g, 0, cap, cur, rfl, hg3, hblk5.out, by omega, HC.out⟩) (by omega) (by omega)
                clear hblk6
                go_wp2_with fail
                refine Calls.mono (FR3.out _) ?_
                rintro e w7 ⟨⟨v', rfl, hv'⟩, rfl⟩
                replace hv' : Hid (_) := hv'
                go_wp2
                go_ret2
                exact ⟨⟨_, _, _, _, rfl, HWs.out, SetsOK.below HB5.out (Nat.le_refl _) HSs.out, Reads.below hv'.out HB5.out (Nat.le_refl _)⟩, HB5w.out.trans (HB5.out.mono HB5w.out.size)⟩
          · have hkf3 : k < f := by omega
            have IS2 : Hid (∀ w, Calls Tryd.prog 16 #[tokVal t, .string ⟨#[102, 111, 114]⟩] w fun e w' => e = .returned (.bool false) ∧ w' = w.alloc (.cells #[.int .u8 t.kind.toNat, .string ⟨t.text.toArray⟩, .bool t.quoted, .int .i64 t.lo, .int .i64 t.hi] 37)) := fun w => by
              have := IS.out w
              rw [decide_eq_false hkf2] at this
              exact this
            clear IS
            go_wp2_with fail
            refine Calls.mono (IS2.out _) ?_
            rintro e w4 ⟨rfl, rfl⟩
            go_wp2
            go_roundg (gk - 1)
            case measure => omega
            case rel => exact ⟨k + 1, by omega, by omega, by go_num, HB3.out.alloc h3r _⟩
      · have hown := own_below HW.out hb.out
        rw [N.out] at hown
        rcases hown.2 with ⟨_, h0⟩ | ⟨g, cap, cur, rfl, hg1, hg2, hg3, hg4, hg5, hg6⟩
        · omega
        have hgl : g < w1.heap.size := lt_of_block hg2
        have HC : Hid ((cur.toList.drop 0).take (5 * T.length) = T.flatMap tokCells) := by
          show (cur.toList.drop 0).take (5 * T.length) = _
          rw [List.drop_zero, Nat.mul_comm]; exact hg6
        have Hg : Hid (w1.heap[g]? = some (.cells cur 37 (0, 0))) := hg2
        have hcs : 5 * cap ≤ cur.size := by omega
        have HC2 : Hid ((cur.toList.drop 10).take (5 * S.length) = S.flatMap tokCells) := by
          have := sub_cells HC.out 2 f hf2 (by omega)
          rw [hS.out] at this
          rw [hSl]
          exact this
        clear hown hg2 hg6
        go_wp2_with fail
        refine (starts_yes _ _ T (w1.heap.size + 1) (HV.out _ _) (by omega) (top_block _ _ _ (by simp)) t0 t1 ht ha hl hkw ht' ha' hl' hkw').mono ?_
        rintro e w2 ⟨rfl, hb2⟩
        have HB2 : Hid (Below w.heap.size w w2) := ((HBw.out.alloc (by omega) _).alloc (by simp; omega) _).trans (hb2.mono (by simp; omega))
        have hblk2 : w2.heap[g]? = some (.cells cur 37 (0, 0)) := by
          rw [hb2.block g (by simp; omega), heap_alloc_old _ _ (by simp; omega), heap_alloc_old _ _ hgl]; exact Hg.out
        have RD2 : Hid (Reads w2 (.slice (some ⟨g, 0, none⟩) T.length cap) T) := Or.inr ⟨g, 0, cap, cur, rfl, hg3, hblk2, by omega, HC.out⟩
        have hw2 : w1.heap.size + 2 ≤ w2.heap.size := by have := hb2.size; simp at this; omega
        replace hblk2 : Hid (_) := hblk2
        clear hb2
        go_wp2_with fail
        refine (outside_any w2 _ T RD2.out (by omega)).mono ?_
        rintro e w3 ⟨⟨r, rfl, hr⟩, hb3⟩
        have h23 : w2.heap.size ≤ w3.heap.size := hb3.size
        rcases ints_cell hr with ⟨h, _⟩ | ⟨g8, cap8, rfl, _, hg8, hc8⟩
        · have := hO.out 0 (by omega); rw [h] at this; cases this
        have hblk3 : Hid (w3.heap[g]? = some (.cells cur 37 (0, 0))) := by
          show w3.heap[g]? = _
          rw [hb3.block g (lt_of_block hblk2.out)]; exact hblk2.out
        have hg3l : g < w3.heap.size := lt_of_block hblk3.out
        have HB3w : Hid (Below w.heap.size w w3) := HB2.out.trans (hb3.mono (by omega))
        have hOl : f < (outsF 0 0 T).length := by
          rcases Nat.lt_or_ge f (outsF 0 0 T).length with h | h
          · exact h
          · have := hO.out f (Nat.le_refl _); rw [List.getElem?_eq_none h] at this; cases this
        have hOl2 := outs_len T 0 0
        replace hc8 : Hid (∀ k, k ≤ f → w3.cell? ⟨g8, k, none⟩ = some (.int .i64 k)) := fun k hk => hc8 k k (hO.out k hk)
        generalize (outsF 0 0 T).length = oL at hOl hOl2 hr
        clear hr hb3
        go_wp2_with fail
        go_loopg [43] (f + 1) (fun gq iv wr => ∃ k : Nat, k ≤ f ∧ f + 1 ≤ k + gq ∧ iv = .int .i64 k ∧ Hid (Below w3.heap.size w3 wr))
        case atStart => exact ⟨0, by omega, by omega, rfl, Below.refl _ _⟩
        case round =>
          obtain ⟨k, hkf, hgk, rfl, HB3⟩ := hrel
          have h3r := HB3.out.size
          obtain ⟨t, htk, hkk, hta, htl⟩ := hfor.out k hkf
          have c8 : wr.cell? ⟨g8, k, none⟩ = some (.int .i64 k) := by rw [HB3.out.cell (p := ⟨g8, k, none⟩) hg8]; exact hc8.out k hkf
          have hblk : wr.heap[g]? = some (.cells cur 37 (0, 0)) := by rw [HB3.out.block g hg3l]; exact hblk3.out
          have k0 := row_cells hblk HC.out k t htk 0 (by omega)
          have k1 := row_cells hblk HC.out k t htk 1 (by omega)
          have k2 := row_cells hblk HC.out k t htk 2 (by omega)
          have k3 := row_cells hblk HC.out k t htk 3 (by omega)
          have k4 := row_cells hblk HC.out k t htk 4 (by omega)
          simp only [tokCells, List.getElem?_cons_zero, List.getElem?_cons_succ, Nat.add_zero, Nat.zero_add] at k0 k1 k2 k3 k4
          have hkT : (k : Int) < (T.length : Int) := by omega
          have hko : (k : Int) < (oL : Int) := by omega
          have IS : Hid (∀ w, Calls Tryd.prog 16 #[tokVal t, .string ⟨#[102, 111, 114]⟩] w fun e w' => e = .returned (.bool (decide (k = f))) ∧ w' = w.alloc (.cells #[.int .u8 t.kind.toNat, .string ⟨t.text.toArray⟩, .bool t.quoted, .int .i64 t.lo, .int .i64 t.hi] 37)) := fun w => by
            have := is_any t kwFor w htl hta asciiFor
            rw [hkk] at this
            exact this
          replace hblk : Hid (_) := hblk
          clear hkk hta htl htk
          by_cases hkf2 : k = f
          · subst hkf2
            have IS2 : Hid (∀ w, Calls Tryd.prog 16 #[tokVal t, .string ⟨#[102, 111, 114]⟩] w fun e w' => e = .returned (.bool true) ∧ w' = w.alloc (.cells #[.int .u8 t.kind.toNat, .string ⟨t.text.toArray⟩, .bool t.quoted, .int .i64 t.lo, .int .i64 t.hi] 37)) := fun w => by
              have := IS.out w
              rw [decide_eq_true rfl] at this
              exact this
            clear IS
            go_wp2_with fail
            refine Calls.mono (IS2.out _) ?_
            rintro e w4 ⟨rfl, rfl⟩
            have IT : Hid (∀ w4 : World, w4.heap[g]? = some (.cells cur 37 (0, 0)) → Calls Tryd.prog 25 #[.slice (some ⟨g, 10, none⟩) (k - 2) (cap - 2)] w4 fun e w' => (∃ r, e = .returned r ∧ w'.ownsRow w4.heap.size 30 1 r P.length (pieceCells g 10 (cap - 2) P)) ∧ Below w4.heap.size w4 w') := fun w4 h => by
              have := items_any w4 g 10 (cap - 2) cur S (by omega) h (by omega) HC2.out (by omega) (by rw [hP.out]; intro p hp; have := (hpc.out p hp).1; omega) hSO.out
              rw [hP.out, hSl] at this
              exact this
            have hk2 : (2 : Int) ≤ (k : Int) := by omega
            have hkc : (k : Int) ≤ (cap : Int) := by omega
            have hc2 : (cap == 2) = false := by simp; omega
            go_wp2_with fail
            refine Calls.mono (IT.out _ (old_block hblk.out)) ?_
            rintro e w5 ⟨⟨r5, rfl, hr5⟩, hb5⟩
            have h45 : wr.heap.size + 1 ≤ w5.heap.size := by have := hb5.size; simpa using this
            have hblk5 : Hid (w5.heap[g]? = some (.cells cur 37 (0, 0))) := by
              show w5.heap[g]? = _
              rw [hb5.block g (by simp; omega)]; exact old_block hblk.out
            have HB5w : Hid (Below w.heap.size w w5) := (((HB3w.out.trans (HB3.out.mono (by have := HB3w.out.size; omega))).alloc (by have := HB3w.out.size; omega) _)).trans (hb5.mono (by have := HB3w.out.size; simp; omega))
            have hPp : 0 < P.length := by rw [← hP.out]; exact items_pos _ _ _
            have hpcl : (pieceCells g 10 (cap - 2) P).length = P.length := by simp [pieceCells]
            rcases hr5.2 with ⟨_, h0⟩ | ⟨g5, cap5, cur5, rfl, hg51, hg52, hg53, hg54, hg55, hg56⟩
            · omega
            have hg5l : g5 < w5.heap.size := lt_of_block hg52
            have HC5 : Hid (∀ (j : Nat) (p : Nat × Nat), P[j]? = some p → w5.cell? ⟨g5, j, none⟩ = some (.slice (some ⟨g, 10 + p.1 * 5, none⟩) (p.2 - p.1) (cap - 2 - p.1))) := fun j p hj => by
              have hjl : j < P.length := by
                rcases Nat.lt_or_ge j P.length with h | h
                · exact h
                · rw [List.getElem?_eq_none h] at hj; cases hj
              have hp := hpc.out p (List.mem_of_getElem? hj)
              rw [cell_of_row w5 g5 j _ 30 (0, 0) hg52, ← Array.getElem?_toList]
              have e : (cur5.toList.take (P.length * 1))[j]? = cur5.toList[j]? := List.getElem?_take_of_lt (by omega)
              rw [← e, hg56]
              simp [pieceCells, hj, subV, show ¬ cap - 2 = p.1 from by omega]
            clear hr5 hb5 hg52 hg55 hg56
            go_wp2_with fail
            go_loopg [58, 12] P.length (fun gq jv rv wr => ∃ (j : Nat) (cs : List Value), j ≤ P.length ∧ P.length ≤ j + gq ∧ jv = .int .i64 j ∧ Hid (wr.ownsRow w5.heap.size 47 2 rv j cs) ∧ Hid (SetsOK w5 S cs (P.take j)) ∧ Hid (Below w5.heap.size w5 wr))
            case atStart => exact ⟨0, [], by omega, by omega, rfl, World.ownsRow_nil w5 w5.heap.size 47 2, trivial, Below.refl _ _⟩
            case round =>
              obtain ⟨j, cs, hjP, hjg, rfl, HWs, HSs, HB5⟩ := hrel
              have h5r := HB5.out.size
              have hblk6 : wr.heap[g]? = some (.cells cur 37 (0, 0)) := by rw [HB5.out.block g (lt_of_block hblk5.out)]; exact hblk5.out
              by_cases hjl : j < P.length
              · obtain ⟨p, hp⟩ : ∃ p, P[j]? = some p := ⟨P[j], List.getElem?_eq_getElem hjl⟩
                obtain ⟨hp1, hp2⟩ := hpc.out p (List.mem_of_getElem? hp)
                have c5 : wr.cell? ⟨g5, j, none⟩ = some (.slice (some ⟨g, 10 + p.1 * 5, none⟩) (p.2 - p.1) (cap - 2 - p.1)) := by
                  rw [HB5.out.cell (p := ⟨g5, j, none⟩) hg5l]; exact HC5.out j p hp
                have RDp : ∀ w0 : World, w0.heap[g]? = some (.cells cur 37 (0, 0)) → Reads w0 (.slice (some ⟨g, 10 + p.1 * 5, none⟩) (p.2 - p.1) (cap - 2 - p.1)) ((S.drop p.1).take (p.2 - p.1)) := fun w0 h => by
                  have := reads_sub (w := w0) (g := g) (off := 10) (cap := cap - 2) (cur := cur) (T := S) (by omega) h (by omega) HC2.out p.1 p.2 (by omega) hp2
                  unfold subV at this
                  rwa [if_neg (by omega)] at this
                have RD6 : Hid (_) := RDp wr hblk6
                have RD5 : Hid (_) := RDp w5 hblk5.out
                obtain ⟨ts, hts⟩ : ∃ ts, S[p.1]? = some ts := ⟨S[p.1], List.getElem?_eq_getElem (by omega)⟩
                have hp0 : ((S.drop p.1).take (p.2 - p.1))[0]? = some ts := by
                  rw [List.getElem?_take_of_lt (by omega), List.getElem?_drop, Nat.add_zero]; exact hts
                have hpl : ((S.drop p.1).take (p.2 - p.1)).length = p.2 - p.1 := by rw [List.length_take, List.length_drop]; omega
                have hdr : ((S.drop p.1).take (p.2 - p.1)).drop 2 = (S.drop (p.1 + 2)).take (p.2 - (p.1 + 2)) := by
                  rw [List.drop_take, List.drop_drop]; congr 1
                have AT : Hid (_) := at_in wr _ _ 0 ts RD6.out hp0 (by omega)
                have FR2 : Hid (∀ w6, _) := fun w6 => from_at w6 w5 _ _ 2 RD5.out (by omega) (by omega)
                rw [hdr] at FR2
                have hPt : P.take (j + 1) = P.take j ++ [p] := by rw [List.take_add_one, hp]; rfl
                have hj' : (j : Int) < (P.length : Int) := by omega
                replace hts : Hid (_) := hts
                replace hPt : Hid (_) := hPt
                clear RDp hp0 hpl hdr hblk6 RD6 RD5 hp
                go_wp2_with fail
                refine Calls.mono AT.out ?_
                rintro e w6 ⟨rfl, hb6⟩
                have h6 : wr.heap.size ≤ w6.heap.size := hb6.size
                replace hb6 : Hid (_) := hb6
                unfold tokVal
                go_wp2_with fail
                refine Calls.mono (FR2.out _) ?_
                rintro e w7 ⟨⟨v', rfl, hv'⟩, rfl⟩
                replace hv' : Hid (_) := hv'
                obtain ⟨ao, nn, cp, rfl⟩ : ∃ ao nn cp, v' = .slice ao nn cp := by
                  rcases hv'.out with ⟨_, h⟩ | ⟨_, _, _, _, h, _⟩
                  · exact ⟨_, _, _, h⟩
                  · exact ⟨_, _, _, h⟩
                go_wp2_with (at_builtin; refine wpList_append_own _ rfl _ _ 43 rfl w5.heap.size 47 i47 _ 2 40 Tryd.underlying43 hi47 hy0 hy1 hy2 rfl (by decide) _ _ _ rfl ((own_below HWs.out hb6.out).alloc _) ⟨w7.heap.size, 0, none⟩ 1 1 [.string ⟨ts.text.toArray⟩, .slice ao nn cp] rfl rfl ?e1 ?e2 ?e3 ?e4 ?e5 ?_)
                case e1 => exact cells_new_at _ _ _ _ rfl
                case e2 => intro u hu; simp at hu; rcases hu with rfl | rfl <;> rfl
                case e3 => unfold maxLen; omega
                case e4 => omega
                case e5 => simp; omega
                intro v2 w8 hown' hgrow _
                have N2 : Hid (SetsOK w5 S (cs ++ [.string ⟨ts.text.toArray⟩, .slice ao nn cp]) (P.take (j + 1))) := by
                  show SetsOK _ _ _ _
                  rw [hPt.out]
                  exact HSs.out.snoc (by rw [hts.out]; rfl) hv'.out
                replace hgrow : Hid (Below w5.heap.size w5 w8) := ((HB5.out.trans (hb6.out.mono h5r)).alloc (by omega) _).grown hgrow (by simp; omega) (fun i e => (HWs.out.lt i e).1)
                replace hown' : Hid (_) := hown'
                obtain ⟨ao2, nn2, cp2, rfl⟩ : ∃ ao nn cp, v2 = .slice ao nn cp := by
                  rcases hown'.out.2 with ⟨h, hn⟩ | ⟨g, cp, cur, h, _⟩
                  · exact ⟨_, _, _, h⟩
                  · exact ⟨_, _, _, h⟩
                go_wp2
                go_roundg (gk - 1)
                case measure => omega
                case rel => exact ⟨j + 1, _, by omega, by omega, by go_num, hown', N2, hgrow⟩
              · have hge : decide (j < P.length) = false := by simp; omega
                have hge' : decide ((j : Int) < (P.length : Int)) = false := by simp; omega
                obtain rfl : j = P.length := by omega
                rw [List.take_length] at HSs
                have FR3 : Hid (∀ w6, _) := fun w6 => from_at w6 w5 (.slice (some ⟨g, 0, none⟩) T.length cap) T (k + 1) (Or.inr ⟨g, 0, cap, cur, rfl, hg3, hblk5.out, by omega, HC.out⟩) (by omega) (by omega)
                clear hblk6
                go_wp2_with fail
                refine Calls.mono (FR3.out _) ?_
                rintro e w7 ⟨⟨v', rfl, hv'⟩, rfl⟩
                replace hv' : Hid (_) := hv'
                go_wp2
                go_ret2
                exact ⟨⟨_, _, _, _, rfl, HWs.out, SetsOK.below HB5.out (Nat.le_refl _) HSs.out, Reads.below hv'.out HB5.out (Nat.le_refl _)⟩, HB5w.out.trans (HB5.out.mono HB5w.out.size)⟩
          · have hkf3 : k < f := by omega
            have IS2 : Hid (∀ w, Calls Tryd.prog 16 #[tokVal t, .string ⟨#[102, 111, 114]⟩] w fun e w' => e = .returned (.bool false) ∧ w' = w.alloc (.cells #[.int .u8 t.kind.toNat, .string ⟨t.text.toArray⟩, .bool t.quoted, .int .i64 t.lo, .int .i64 t.hi] 37)) := fun w => by
              have := IS.out w
              rw [decide_eq_false hkf2] at this
              exact this
            clear IS
            go_wp2_with fail
            refine Calls.mono (IS2.out _) ?_
            rintro e w4 ⟨rfl, rfl⟩
            go_wp2
            go_roundg (gk - 1)
            case measure => omega
            case rel => exact ⟨k + 1, by omega, by omega, by go_num, HB3.out.alloc h3r _⟩

end Go.Proofs.Qxb6613163aDoor
