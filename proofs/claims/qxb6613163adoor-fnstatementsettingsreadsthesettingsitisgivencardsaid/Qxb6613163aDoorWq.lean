/-
  THE WALK of StatementSettings (18): a text that does not start with SET.
-/
import Derived.Test.Qxb6613163aDoorWl
import Derived.Test.Qxb6613163aDoorWo
namespace Go.Proofs.Qxb6613163aDoor
open Go.RowKit

theorem Tryd.info37 : (Tryd.prog.info? 37).map (fun i => (i.zero, i.size, i.bytes)) = some (some (.agg #[.int .u8 0, .string ⟨#[]⟩, .bool false, .int .i64 0, .int .i64 0]), 5, 48) := by kernel_rfl

theorem own_reads {w : World} {B : Nat} {v : Value} {T : List Lx.Tok} (h : w.ownsRow B 37 5 v T.length (T.flatMap tokCells)) : Reads w v T := by
  rcases h.2 with ⟨h1, h2⟩ | ⟨g, cap, cur, h1, h2, h3, h4, h5, h6, h7⟩
  · exact Or.inl ⟨List.eq_nil_of_length_eq_zero h2, h1⟩
  · exact Or.inr ⟨g, 0, cap, cur, h1, h4, h3, by omega, by rw [List.drop_zero, Nat.mul_comm, h7]⟩

theorem cells_new_at (w : World) (n : Nat) (xs : List Value) (t : TypeId) (h : n = w.heap.size) : ∀ j u, xs[j]? = some u → (w.alloc (.cells xs.toArray t)).cell? ((⟨n, 0, none⟩ : Addr).add j) = some u := by
  subst h
  intro j u hj
  rw [← hj, show ((⟨w.heap.size, 0, none⟩ : Addr).add j) = ⟨w.heap.size, j, none⟩ from by cases j <;> simp [Addr.add], cell_of_row _ _ j _ t (0, 0) (heap_alloc_new w _)]
  simp

theorem own_below {w w1 : World} {B : Nat} {e : TypeId} {s n : Nat} {v : Value} {xs : List Value} (h : w.ownsRow B e s v n xs) (hb : Below w.heap.size w w1) : w1.ownsRow B e s v n xs :=
  h.kept (row := none) ⟨hb.os, hb.tape, hb.output, hb.size, fun j hj _ => hb.block j hj⟩ (Classical.em _)

theorem tok_one (t : Lx.Tok) : ∀ u ∈ tokCells t, u.oneCell' = true := by
  intro u hu
  simp [tokCells] at hu
  rcases hu with rfl | rfl | rfl | rfl | rfl <;> rfl

set_option maxHeartbeats 8000000 in
set_option maxRecDepth 100000 in
theorem settings_x (l : Lx.Lex) (q : ByteArray) (m : Int) (w : World) (hq : q.size ≤ 4194304) (hm : w.cell? ⟨5, 0, none⟩ = some (.int .i64 m)) (T : List Lx.Tok) (hT : Hid (Lx.toks l q.data.toList = T))
    (t0 : Lx.Tok) (ht : (T[0]?).getD zeroTok = t0) (ha : Ascii t0.text) (hl : t0.text.length < 4294967281) (hkw : isKw t0 kwSet = false) :
    Calls Tryd.prog 18 #[.string q, .agg #[.bool l.exec, .bool l.noEsc, .bool l.ansi]] w fun e w' => (∃ v, e = .returned (.tuple #[.slice none 0 0, v]) ∧ Reads w' v T) ∧ Below w.heap.size w w' := by
  obtain ⟨i0, hi, hz0, hz1, hz2⟩ := info_parts Tryd.info37
  have h5 : 5 < w.heap.size := lt_of_cell hm
  replace hm : Hid (_) := hm
  obtain ⟨l1, l2, l3⟩ := l
  go_enter Tryd.func18, Tryd.ntmps18
  go_wp2
  go_loopg [7, 6] q.size (fun g av v wr => ∃ (k : Nat) (acc : List Lx.Tok), k ≤ q.size ∧ q.size ≤ k + g ∧ av = .int .i64 k ∧ acc.length ≤ k ∧ Hid (acc ++ (Lx.toks ⟨l1, l2, l3⟩ (q.data.toList.drop k)).map (Lx.Tok.shift k) = T) ∧ Hid (wr.ownsRow (w.heap.size + 1) 37 5 v acc.length (acc.flatMap tokCells)) ∧ Hid (Below (w.heap.size + 1) (w.alloc (.cells #[.bool l1, .bool l2, .bool l3] 26)) wr))
  case atStart =>
    refine ⟨0, [], by omega, by omega, rfl, by simp, ?_, World.ownsRow_nil _ _ _ _, Below.refl _ _⟩
    show _ = T
    rw [← hT.out, List.drop_zero]
    have : ∀ T : List Lx.Tok, T.map (Lx.Tok.shift 0) = T := fun T => by
      induction T with
      | nil => rfl
      | cons t T ih => rw [List.map_cons, ih]; rfl
    rw [List.nil_append, this]
  case round =>
    obtain ⟨k, acc, hk, hg, rfl, hal, HA, HW, HB⟩ := hrel
    have hs : w.heap.size + 1 ≤ wr.heap.size := by have := HB.out.size; simpa using this
    have hbx : wr.heap[w.heap.size]? = some (.cells #[.bool l1, .bool l2, .bool l3] 26) := by
      rw [HB.out.block w.heap.size (by omega)]; exact heap_alloc_new w _
    have b0 : wr.cell? ⟨w.heap.size, 0, none⟩ = some (.bool l1) := by rw [cell_of_row wr _ 0 _ 26 (0, 0) hbx]; rfl
    have b1 : wr.cell? ⟨w.heap.size, 1, none⟩ = some (.bool l2) := by rw [cell_of_row wr _ 1 _ 26 (0, 0) hbx]; rfl
    have b2 : wr.cell? ⟨w.heap.size, 2, none⟩ = some (.bool l3) := by rw [cell_of_row wr _ 2 _ 26 (0, 0) hbx]; rfl
    have hm' : wr.cell? ⟨5, 0, none⟩ = some (.int .i64 m) := by
      rw [HB.out.cell (p := ⟨5, 0, none⟩) (by show 5 < w.heap.size + 1; omega), World.cell?_alloc_lt w _ _ h5]
      exact hm.out
    replace hm' : Hid (_) := hm'
    clear hbx
    go_wp2_with fail
    refine (next_any ⟨l1, l2, l3⟩ q k m wr (by omega) hk hm'.out).mono ?_
    rintro e w1 ⟨hN, hb⟩
    replace hb : Hid (_) := hb
    have hsb : wr.heap.size ≤ w1.heap.size := hb.out.size
    cases hx : Lx.lexN ⟨l1, l2, l3⟩ (q.data.toList.drop k) with
    | some t =>
      rw [hx] at hN
      have hle := Lx.lexN_le _ _ _ t (Nat.le_refl _) hx
      rw [List.length_drop, Array.length_toList] at hle
      replace hle : t.kind ≠ 0 ∧ t.lo < t.hi ∧ t.hi ≤ q.size - k := hle
      obtain rfl : e = _ := hN
      have N : Hid ((acc ++ [t.shift k]) ++ (Lx.toks ⟨l1, l2, l3⟩ (q.data.toList.drop (k + t.hi))).map (Lx.Tok.shift (k + t.hi)) = T) := by
        show _ = T
        rw [← HA.out, Lx.toks_some _ _ t hx, List.drop_drop, List.map_cons, List.map_map, List.append_assoc]
        have e : ∀ L : List Lx.Tok, L.map (Lx.Tok.shift (k + t.hi)) = L.map (Lx.Tok.shift k ∘ Lx.Tok.shift t.hi) := fun L => by
          apply List.map_congr_left
          intro u _
          show _ = (u.shift t.hi).shift k
          rw [Lx.shift_shift, Nat.add_comm]
        rw [e]
        rfl
      have hfl : Hid ((acc ++ [t.shift k]).flatMap tokCells = acc.flatMap tokCells ++ tokCells (t.shift k)) := by show _ = _; simp
      have hkd : ((t.kind.toNat : Int) == 0) = false := by rw [beq_eq_false_iff_ne]; exact fun h => hle.1 (nat_eq (d := 0) h)
      have htc : Hid (tokCells (t.shift k) = [.int .u8 t.kind.toNat, .string ⟨t.text.toArray⟩, .bool t.quoted, .int .i64 ((t.lo + k : Nat) : Int), .int .i64 ((t.hi + k : Nat) : Int)]) := rfl
      obtain ⟨kd, tx, qd, lo, hi'⟩ := t
      simp only [tokVal, Lx.Tok.shift] at hkd hle ⊢
      obtain ⟨hle1, hle2, hle3⟩ := hle
      generalize hlo : lo + k = lo2
      generalize hhi : hi' + k = hi2
      clear HA
      go_wp2_with (at_builtin; refine wpList_append_own _ rfl _ _ 30 rfl (w.heap.size + 1) 37 i0 _ 5 48 Tryd.underlying30 hi hz0 hz1 hz2 rfl (by decide) _ _ _ rfl (((own_below HW.out hb.out).alloc _).alloc _) ⟨w1.heap.size + 1, 0, none⟩ 1 1 [.int .u8 kd.toNat, .string ⟨tx.toArray⟩, .bool qd, .int .i64 lo2, .int .i64 hi2] rfl rfl ?c1 ?c2 ?c3 ?c4 ?c5 ?_)
      case c2 => exact ⟨rfl, rfl, rfl, rfl, rfl⟩
      case c3 => unfold maxLen; omega
      case c4 => omega
      case c5 => omega
      intro v' w2 hown' hgrow _
      subst hlo hhi
      replace hown' : Hid (w2.ownsRow (w.heap.size + 1) 37 5 v' (acc ++ [Lx.Tok.shift k ⟨kd, tx, qd, lo, hi'⟩]).length ((acc ++ [Lx.Tok.shift k ⟨kd, tx, qd, lo, hi'⟩]).flatMap tokCells)) := by
        show w2.ownsRow _ _ _ _ _ _
        rw [hfl.out, htc.out, List.length_append]
        exact hown'
      have tv : w2.heap[w1.heap.size]? = some (.cells #[.int .u8 kd.toNat, .string ⟨tx.toArray⟩, .bool qd, .int .i64 ((lo + k : Nat) : Int), .int .i64 ((hi' + k : Nat) : Int)] 37) := by
        rw [hgrow.block w1.heap.size (by simp; omega) (fun e => by have := (HW.out.lt _ e.symm).2; omega), heap_alloc_old _ _ (by simp)]
        exact heap_alloc_new _ _
      have tv4 : w2.cell? ⟨w1.heap.size, 4, none⟩ = some (.int .i64 ((hi' + k : Nat) : Int)) := by rw [cell_of_row w2 _ 4 _ 37 (0, 0) tv]; rfl
      clear tv
      replace hgrow : Hid (Below (w.heap.size + 1) (w.alloc (.cells #[.bool l1, .bool l2, .bool l3] 26)) w2) := (((HB.out.trans (hb.out.mono hs)).alloc (by omega) _).alloc (by simp; omega) _).grown hgrow (by simp; omega) (fun j e => (HW.out.lt j e).1)
      obtain ⟨ao, nn, cp, rfl⟩ : ∃ ao nn cp, v' = .slice ao nn cp := by
        rcases hown'.out.2 with ⟨h, hn⟩ | ⟨g, cp, cur, h, _⟩
        · exact ⟨_, _, _, h⟩
        · exact ⟨_, _, _, h⟩
      go_wp2
      go_roundg (q.size - (k + hi'))
      case measure => omega
      case rel => exact ⟨k + hi', acc ++ [Lx.Tok.shift k ⟨kd, tx, qd, lo, hi'⟩], by omega, by omega, by go_num, by simp; omega, N, hown', hgrow⟩
    | none =>
      rw [hx] at hN
      obtain ⟨s', b', a', z', ev, rfl, hev⟩ := hN
      have N : Hid (acc = T) := by
        show acc = T
        rw [← HA.out, Lx.toks_none _ _ hx]; simp
      clear HA
      have HV : Hid (∀ o1 o2, Reads ((w1.alloc o1).alloc o2) u6 T) := fun o1 o2 => by
        have h := ((own_below HW.out hb.out).alloc o1).alloc o2
        rw [N.out] at h
        exact own_reads h
      have hTl : T.length ≤ q.size := by rw [← N.out]; omega
      have HBw : Hid (Below w.heap.size w w1) := (((Below.refl _ w).alloc (Nat.le_refl _) _).trans (HB.out.mono (by omega))).trans (hb.out.mono (by omega))
      have hw1 : w.heap.size < w1.heap.size := by omega
      rcases hev with rfl | ⟨iv, rfl⟩
      all_goals
        go_wp2_with fail
        refine (starts_no _ u6 T (w1.heap.size + 1) (HV.out _ _) (by omega) (top_block _ _ _ (by simp)) t0 ht ha hl hkw).mono ?_
        rintro e w2 ⟨rfl, hb2⟩
        replace hb2 : Hid (_) := hb2
        go_wp2
        go_ret2
        exact ⟨⟨_, rfl, (HV.out _ _).below hb2.out (Nat.le_refl _)⟩, ((HBw.out.alloc (by omega) _).alloc (by simp; omega) _).trans (hb2.out.mono (by simp; omega))⟩


end Go.Proofs.Qxb6613163aDoor
