/-
  THE LAW's STATE behind region 25: the row b of bytes, the lexer's box, the rows numAt and digits.
-/
import Derived.Test.Qxb6613163aDoorWu
import Derived.Test.Qxb6613163aDoorWt
import Derived.Test.Qxb6613163aDoorWs
import Derived.Test.Qxb6613163aDoorWv
import Derived.Test.Qxb6613163aDoorLu
import Derived.Test.Qxb6613163aDoorLt
import Derived.Deep.CutRange
namespace Go.Proofs.Qxb6613163aDoor
open Go.RowKit

def sumN (N : Nat → ByteArray) : Nat → Nat
  | 0 => 0
  | k + 1 => sumN N k + 16 + (N k).size

theorem sum_ge (N : Nat → ByteArray) : ∀ (k i : Nat), i < k → (N i).size + 16 ≤ sumN N k
  | 0, i, h => by omega
  | k + 1, i, h => by
    simp only [sumN]
    rcases Nat.lt_or_ge i k with h' | h'
    · have := sum_ge N k i h'
      omega
    · obtain rfl : i = k := by omega
      omega

theorem sum_mono (N : Nat → ByteArray) : ∀ (k i : Nat), i ≤ k → sumN N i + 16 * (k - i) ≤ sumN N k
  | 0, i, h => by
    obtain rfl : i = 0 := by omega
    simp
  | k + 1, i, h => by
    rcases Nat.lt_or_ge i (k + 1) with h' | h'
    · have := sum_mono N k i (by omega)
      simp only [sumN]; omega
    · obtain rfl : i = k + 1 := by omega
      omega

/-- The items, out of the names and the values. -/
def itemsOf (N : Nat → ByteArray) (V : Nat → Nat) (k : Nat) : List (List UInt8 × List UInt8) := (List.range k).map fun i => ((N i).data.toList, digs (V i))

theorem itemsOf_len (N : Nat → ByteArray) (V : Nat → Nat) (k : Nat) : (itemsOf N V k).length = k := by simp [itemsOf]
theorem itemsOf_succ (N : Nat → ByteArray) (V : Nat → Nat) (k : Nat) : itemsOf N V (k + 1) = itemsOf N V k ++ [((N k).data.toList, digs (V k))] := by simp [itemsOf, List.range_succ]
theorem itemsOf_take (N : Nat → ByteArray) (V : Nat → Nat) (n k : Nat) (h : k ≤ n) : (itemsOf N V n).take k = itemsOf N V k := by
  unfold itemsOf
  rw [← List.map_take, List.take_range, Nat.min_eq_left h]
theorem itemsOf_at (N : Nat → ByteArray) (V : Nat → Nat) (n k : Nat) (h : k < n) : (itemsOf N V n)[k]? = some ((N k).data.toList, digs (V k)) := by
  unfold itemsOf
  rw [List.getElem?_map, List.getElem?_range h]; rfl
theorem itemsOf_nil (N : Nat → ByteArray) (V : Nat → Nat) (k : Nat) : itemsOf N V k = [] ↔ k = 0 := by
  rw [← List.length_eq_zero_iff, itemsOf_len]

/-- What stands ahead of item k. -/
def sepOf (k : Nat) : List UInt8 := if k = 0 then [] else [44, 32]

theorem join_step (N : Nat → ByteArray) (V : Nat → Nat) (k : Nat) : Lx.joinT (itemsOf N V (k + 1)) = ((Lx.joinT (itemsOf N V k) ++ sepOf k) ++ (N k).data.toList ++ [61]) ++ digs (V k) := by
  rw [itemsOf_succ, Lx.join_snoc]
  simp only [itemsOf_nil, sepOf]
  simp

theorem itemsLen_le (N : Nat → ByteArray) (V : Nat → Nat) : ∀ k, Lx.itemsLen (itemsOf N V k) ≤ sumN N k + 7 * k
  | 0 => by simp [itemsOf, Lx.itemsLen]
  | k + 1 => by
    have ih := itemsLen_le N V k
    have hd := (digs_good (V k)).2.2
    rw [itemsOf_succ, ← Lx.join_len, Lx.join_snoc, List.length_append, Lx.join_len]
    have : (N k).data.toList.length = (N k).size := Array.length_toList
    simp only [sumN]
    split <;> simp <;> omega

/-- Where the number of item k stands. -/
def numP (N : Nat → ByteArray) (V : Nat → Nat) (k : Nat) : Nat := 14 + Lx.itemsLen (itemsOf N V k) + (if k = 0 then 0 else 2) + (N k).size + 1

theorem Tryd.info9 : (Tryd.prog.info? 9).map (fun i => (i.zero, i.size, i.bytes)) = some (some (.string ⟨#[]⟩), 1, 16) := by kernel_rfl

def wHead : List UInt8 := [83, 69, 84, 32, 83, 84, 65, 84, 69, 77, 69, 78, 84, 32]

/-- The state of the law behind region 29. -/
structure St (w0 w : World) (L gN gD : Nat) (lx : Array Value) (bv : Value) (bs : List UInt8) (cn cd : Array Value) : Prop where
  own : w.ownsRow w0.heap.size 5 1 bv bs.length (Lib.byteCells bs)
  box : w.heap[L]? = some (.cells lx 26 (0, 0))
  num : w.heap[gN]? = some (.cells cn 3 (0, 0))
  dig : w.heap[gD]? = some (.cells cd 9 (0, 0))
  hL : w0.heap.size ≤ L
  hN : w0.heap.size ≤ gN
  hD : w0.heap.size ≤ gD
  below : Below w0.heap.size w0 w

theorem block_far {w w' : World} {g : Nat} {cur : Array Value} {T B n : Nat} {v : Value} {xs : List Value} (h : w.heap[g]? = some (.cells cur T (0, 0))) (ho : w.ownsRow B 5 1 v n xs) (hT : T ≠ 5) (hg : w.grownBy w' v.ownBlock) : w'.heap[g]? = some (.cells cur T (0, 0)) := by
  rw [hg.block g (lt_of_block h) ?_]
  · exact h
  · intro e
    rcases ho.2 with ⟨rfl, _⟩ | ⟨g', cap, cur', rfl, _, hg', _⟩
    · simp [Value.ownBlock] at e
    · simp only [Value.ownBlock, Option.some.injEq] at e
      subst e
      rw [h] at hg'
      simp only [Option.some.injEq, Obj.cells.injEq] at hg'
      exact hT hg'.2.1

section
variable {w0 w w' : World} {L gN gD : Nat} {lx : Array Value} {bv bv' : Value} {bs : List UInt8} {cn cd : Array Value}

theorem St.base (h : St w0 w L gN gD lx bv bs cn cd) : w0.heap.size ≤ w.heap.size := h.below.size

theorem St.app (h : St w0 w L gN gD lx bv bs cn cd) (new : List UInt8) (hg : w.grownBy w' bv.ownBlock) (n : Nat) (xs : List Value) (ho : w'.ownsRow w0.heap.size 5 1 bv' n xs) (hn : n = bs.length + new.length) (hx : xs = Lib.byteCells bs ++ Lib.byteCells new) : St w0 w' L gN gD lx bv' (bs ++ new) cn cd where
  own := by
    subst hn hx
    have e : Lib.byteCells (bs ++ new) = Lib.byteCells bs ++ Lib.byteCells new := by simp [Lib.byteCells]
    rw [e, List.length_append]
    exact ho
  box := block_far h.box h.own (by decide) hg
  num := block_far h.num h.own (by decide) hg
  dig := block_far h.dig h.own (by decide) hg
  hL := h.hL
  hN := h.hN
  hD := h.hD
  below := h.below.grown hg h.base (fun j e => (h.own.lt j e).1)

theorem St.bel (h : St w0 w L gN gD lx bv bs cn cd) (hb : Below w.heap.size w w') : St w0 w' L gN gD lx bv bs cn cd where
  own := own_below h.own hb
  box := by rw [hb.block L (lt_of_block h.box)]; exact h.box
  num := by rw [hb.block gN (lt_of_block h.num)]; exact h.num
  dig := by rw [hb.block gD (lt_of_block h.dig)]; exact h.dig
  hL := h.hL
  hN := h.hN
  hD := h.hD
  below := h.below.trans (hb.mono h.base)

theorem St.all (h : St w0 w L gN gD lx bv bs cn cd) (o : Obj) : St w0 (w.alloc o) L gN gD lx bv bs cn cd :=
  h.bel ((Below.refl _ w).alloc (Nat.le_refl _) o)

theorem set_block (w : World) (g i : Nat) (v : Value) (cur : Array Value) (T : Nat) (h : w.heap[g]? = some (.cells cur T (0, 0))) : (w.setCell ⟨g, i, none⟩ v).heap[g]? = some (.cells (cur.setIfInBounds i v) T (0, 0)) := by
  simp [World.setCell, Array.getElem?_modify, h]

theorem set_other (w : World) (g i k : Nat) (v : Value) (h : k ≠ g) : (w.setCell ⟨g, i, none⟩ v).heap[k]? = w.heap[k]? := by
  simp [World.setCell, Array.getElem?_modify, Ne.symm h]

theorem block_ne {w : World} {g k : Nat} {c1 c2 : Array Value} {T1 T2 : Nat} (h1 : w.heap[g]? = some (.cells c1 T1 (0, 0))) (h2 : w.heap[k]? = some (.cells c2 T2 (0, 0))) (hT : T1 ≠ T2) : g ≠ k := by
  rintro rfl
  rw [h1] at h2
  simp only [Option.some.injEq, Obj.cells.injEq] at h2
  exact hT h2.2.1

theorem own_set {w : World} {B n : Nat} {v u : Value} {xs : List Value} {g i T : Nat} {cur : Array Value} (ho : w.ownsRow B 5 1 v n xs) (h : w.heap[g]? = some (.cells cur T (0, 0))) (hT : T ≠ 5) : (w.setCell ⟨g, i, none⟩ u).ownsRow B 5 1 v n xs := by
  refine ⟨ho.1, ?_⟩
  rcases ho.2 with h0 | ⟨g', cap, cur', hv, hb, hg', rest⟩
  · exact Or.inl h0
  · exact Or.inr ⟨g', cap, cur', hv, hb, by rw [set_other _ _ _ _ _ (block_ne hg' h (Ne.symm hT))]; exact hg', rest⟩

theorem St.setN (h : St w0 w L gN gD lx bv bs cn cd) (i : Nat) (u : Value) : St w0 (w.setCell ⟨gN, i, none⟩ u) L gN gD lx bv bs (cn.setIfInBounds i u) cd where
  own := own_set h.own h.num (by decide)
  box := by rw [set_other _ _ _ _ _ (block_ne h.box h.num (by decide))]; exact h.box
  num := set_block _ _ _ _ _ _ h.num
  dig := by rw [set_other _ _ _ _ _ (block_ne h.dig h.num (by decide))]; exact h.dig
  hL := h.hL
  hN := h.hN
  hD := h.hD
  below := h.below.setCell (p := ⟨gN, i, none⟩) h.hN u

theorem St.setD (h : St w0 w L gN gD lx bv bs cn cd) (i : Nat) (u : Value) : St w0 (w.setCell ⟨gD, i, none⟩ u) L gN gD lx bv bs cn (cd.setIfInBounds i u) where
  own := own_set h.own h.dig (by decide)
  box := by rw [set_other _ _ _ _ _ (block_ne h.box h.dig (by decide))]; exact h.box
  num := by rw [set_other _ _ _ _ _ (block_ne h.num h.dig (by decide))]; exact h.num
  dig := set_block _ _ _ _ _ _ h.dig
  hL := h.hL
  hN := h.hN
  hD := h.hD
  below := h.below.setCell (p := ⟨gD, i, none⟩) h.hD u

/-- The row's value, once it holds a byte. -/
theorem St.shape (h : St w0 w L gN gD lx bv bs cn cd) (hb : 0 < bs.length) : ∃ g cap, bv = .slice (some ⟨g, 0, none⟩) bs.length cap := by
  rcases h.own.2 with ⟨_, h0⟩ | ⟨g, cap, cur, hv, _⟩
  · omega
  · exact ⟨g, cap, hv⟩

/-- The row's bytes. -/
theorem St.bytes {g cap : Nat} (h : St w0 w L gN gD lx (.slice (some ⟨g, 0, none⟩) bs.length cap) bs cn cd) : Lib.Bytes w g 0 ⟨bs.toArray⟩ := by
  rcases h.own.2 with ⟨h0, _⟩ | ⟨g', cap', cur, hv, _, hg, hc, _, hs, ht⟩
  · cases h0
  · simp only [Value.slice.injEq, Option.some.injEq, Addr.mk.injEq] at hv
    obtain ⟨⟨rfl, _⟩, _, rfl⟩ := hv
    intro j hj
    have hj' : j < bs.length := hj
    rw [Nat.mul_one] at ht
    rw [cell_of_row w _ _ _ 5 (0, 0) hg, ← Array.getElem?_toList, Nat.zero_add, ← List.getElem?_take_of_lt (l := cur.toList) hj', ht]
    simp [Lib.byteCells, hj']
    rfl

end

section
variable {w0 w w' : World} {L gN gD : Nat} {lx : Array Value} {bv bv' : Value} {bs : List UInt8} {cn cd : Array Value}

theorem St.appStr (h : St w0 w L gN gD lx bv bs cn cd) (s : ByteArray) (hg : w.grownBy w' bv.ownBlock) (ho : w'.ownsRow w0.heap.size 5 1 bv' (bs.length + s.size) (Lib.byteCells bs ++ Lib.strCells s)) : St w0 w' L gN gD lx bv' (bs ++ s.data.toList) cn cd :=
  h.app s.data.toList hg _ _ ho (by rw [Array.length_toList]; rfl) rfl

theorem app_len (a : List UInt8) (s : ByteArray) : (a ++ s.data.toList).length = a.length + s.size := by
  rw [List.length_append, Array.length_toList]; rfl

theorem x_text (text : ByteArray) : ((⟨#[120, 32]⟩ : ByteArray) ++ text).data.toList = 120 :: 32 :: text.data.toList := by
  rw [ByteArray.data_append]
  simp

theorem x_size (text : ByteArray) : ((⟨#[120, 32]⟩ : ByteArray) ++ text).size = text.size + 2 := by
  have h := congrArg List.length (x_text text)
  rw [Array.length_toList] at h
  have h2 : text.data.toList.length = text.size := Array.length_toList
  simp only [List.length_cons, h2] at h
  exact h

theorem x_kw : isKw xTok kwSet = false := by decide

theorem x_ascii : Ascii xTok.text := ascii_of _ (by decide)

theorem shift_two (T : List Lx.Tok) (d : Nat) : (T.map (Lx.Tok.shift 2)).map (Lx.Tok.shift d) = T.map (Lx.Tok.shift (d + 2)) := by
  rw [List.map_map]
  apply List.map_congr_left
  intro u _
  show (u.shift 2).shift d = _
  rw [Lx.shift_shift, Nat.add_comm]

theorem below_drewN {B : Nat} {a w : World} (h : Below B a w) (n : Nat) : Below B a (w.drewN n) := ⟨h.os, h.tape, h.output, h.size, h.block⟩

theorem two_draws {a w : World} (h : Below a.heap.size a w) (o1 o2 : Obj) (n1 n2 : Nat) : Below a.heap.size a ((((w.alloc o1).drewN n1).alloc o2).drewN n2) := by
  have h1 := below_drewN (h.alloc h.size o1) n1
  exact below_drewN (h1.alloc h1.size o2) n2

theorem make_block {w : World} {B e g j : Nat} {xs : List Value} (h : w.ownsRow B e 1 (.slice (some ⟨g, 0, none⟩) j j) j xs) : ∃ cur, w.heap[g]? = some (.cells cur e (0, 0)) ∧ cur.size = j ∧ B ≤ g := by
  rcases h.2 with ⟨h0, _⟩ | ⟨g', cap, cur, hv, hB, hg, _, _, hs, _⟩
  · cases h0
  · simp only [Value.slice.injEq, Option.some.injEq, Addr.mk.injEq] at hv
    obtain ⟨⟨rfl, _⟩, _, rfl⟩ := hv
    exact ⟨cur, hg, by omega, hB⟩

theorem St.start {w0 w2 w3 w4 w5 : World} {lx : Array Value} {bv : Value} {n j : Nat} {xs xs2 xs3 : List Value} (hb2 : Below w0.heap.size w0 w2) (hg1 : (w2.alloc (.cells lx 26)).grownBy w3 none) (ho : w3.ownsRow w0.heap.size 5 1 bv n xs) (hn : n = 14) (hx : xs = Lib.byteCells wHead)
    (hg2 : w3.grownBy w4 none) (o2 : w4.ownsRow w0.heap.size 3 1 (.slice (some ⟨w3.heap.size, 0, none⟩) j j) j xs2) (hg3 : w4.grownBy w5 none) (o3 : w5.ownsRow w0.heap.size 9 1 (.slice (some ⟨w4.heap.size, 0, none⟩) j j) j xs3) :
    ∃ cn cd, St w0 w5 w2.heap.size w3.heap.size w4.heap.size lx bv wHead cn cd ∧ cn.size = j ∧ cd.size = j := by
  subst hn hx
  obtain ⟨cn, hc1, hc2, hc3⟩ := make_block o2
  obtain ⟨cd, hd1, hd2, hd3⟩ := make_block o3
  have hs2 := hb2.size
  have s1 : w2.heap.size + 1 ≤ w3.heap.size := by have := hg1.size; simpa using this
  have s2 := hg2.size
  have s3 := hg3.size
  refine ⟨cn, cd, ⟨?_, ?_, ?_, hd1, hs2, hc3, hd3, ?_⟩, hc2, hd2⟩
  · exact (ho.kept hg2 (Classical.em _)).kept hg3 (Classical.em _)
  · rw [hg3.block _ (by omega) (by simp), hg2.block _ (by omega) (by simp), hg1.block _ (by simp) (by simp)]
    exact heap_alloc_new w2 _
  · rw [hg3.block _ (lt_of_block hc1) (by simp)]; exact hc1
  · exact (((hb2.alloc hs2 _).grown hg1 (by simp; omega) (by simp)).grown hg2 (by omega) (by simp)).grown hg3 (by omega) (by simp)

end

theorem toks_bound (l : Lx.Lex) : ∀ (n : Nat) (s : List UInt8), s.length ≤ n → (Lx.toks l s).length ≤ s.length ∧ ∀ t ∈ Lx.toks l s, t.lo ≤ s.length ∧ t.hi ≤ s.length := by
  intro n
  induction n with
  | zero =>
    intro s hs
    cases hx : Lx.lexN l s with
    | none => rw [Lx.toks_none _ _ hx]; simp
    | some t =>
      have := Lx.lexN_le l s.length s t (Nat.le_refl _) hx
      omega
  | succ n ih =>
    intro s hs
    cases hx : Lx.lexN l s with
    | none => rw [Lx.toks_none _ _ hx]; simp
    | some t =>
      have hle := Lx.lexN_le l s.length s t (Nat.le_refl _) hx
      obtain ⟨i1, i2⟩ := ih (s.drop t.hi) (by rw [List.length_drop]; omega)
      rw [List.length_drop] at i1 i2
      rw [Lx.toks_some _ _ t hx]
      constructor
      · simp; omega
      · intro u hu
        rw [List.mem_cons, List.mem_map] at hu
        rcases hu with rfl | ⟨v, hv, rfl⟩
        · omega
        · have := i2 v hv
          simp only [Lx.Tok.shift]
          omega

theorem head_eq (xs : List (List UInt8 × List UInt8)) (t : List UInt8) : wHead ++ Lx.joinT xs ++ [32, 70, 79, 82, 32] ++ t = Lx.headText xs t := by
  unfold Lx.headText
  rw [Lx.itemsText_tail xs (32 :: (Lx.wFOR ++ 32 :: t))]
  simp [wHead, Lx.joinT, Lx.wSET, Lx.wSTATEMENT, Lx.wFOR]

theorem good_items (N : Nat → ByteArray) (V : Nat → Nat) (k : Nat) (h : ∀ i, i < k → NameP (N i)) : ∀ x ∈ itemsOf N V k, Lx.GoodItem x ∧ Ascii x.1 ∧ Lib.equalFold x.1 kwFor = false := by
  intro x hx
  simp only [itemsOf, List.mem_map, List.mem_range] at hx
  obtain ⟨i, hi, rfl⟩ := hx
  have hp := h i hi
  have hd := digs_good (V i)
  exact ⟨⟨name_plain _ hp, hd.1, hd.2.1⟩, name_ascii _ hp, name_not_for _ hp⟩

theorem sets_at {w : World} {S : List Lx.Tok} : ∀ {cs : List Value} {P : List (Nat × Nat)} {j : Nat} {p : Nat × Nat}, SetsOK w S cs P → P[j]? = some p → cs[2 * j]? = some (.string ⟨((S[p.1]?).getD zeroTok).text.toArray⟩) ∧ ∃ v, cs[2 * j + 1]? = some v ∧ Reads w v ((S.drop (p.1 + 2)).take (p.2 - (p.1 + 2)))
  | [], [], j, p, _, h => by simp at h
  | s :: v :: cs, q :: P, j, p, h, hp => by
    cases j with
    | zero =>
      simp at hp
      subst hp
      exact ⟨by rw [← h.1]; rfl, v, rfl, h.2.1⟩
    | succ j =>
      have := sets_at (j := j) (p := p) h.2.2 (by simpa using hp)
      rw [show 2 * (j + 1) = 2 * j + 1 + 1 from by omega, show 2 * j + 1 + 1 + 1 = (2 * j + 1) + 1 + 1 from by omega]
      exact this
  | [], _ :: _, _, _, h, _ => h.elim
  | [_], [], _, _, h, _ => h.elim
  | [_], _ :: _, _, _, h, _ => h.elim
  | _ :: _ :: _, [], _, _, h, _ => h.elim

theorem pieces_at : ∀ (xs : List (List UInt8 × List UInt8)) (a j : Nat), j < xs.length → (piecesOf a xs)[j]? = some (a + 4 * j, a + 4 * j + 3)
  | [], _, _, h => by simp at h
  | [_], a, j, h => by
    obtain rfl : j = 0 := by simp at h; exact h
    rfl
  | _ :: y :: xs, a, j, h => by
    cases j with
    | zero => rfl
    | succ j =>
      have := pieces_at (y :: xs) (a + 4) j (by simp at h ⊢; omega)
      simp only [piecesOf, List.getElem?_cons_succ]
      rw [this]
      simp only [Option.some.injEq, Prod.mk.injEq]
      omega

/-- What loop 4 reads at setting p. -/
def Rd (w : World) (N : Nat → ByteArray) (V : Nat → Nat) (g gN gD p : Nat) : Prop :=
  w.cell? ⟨g, p * 2, none⟩ = some (.string (N p)) ∧ w.cell? ⟨gD, p, none⟩ = some (.string ⟨(digs (V p)).toArray⟩) ∧ w.cell? ⟨gN, p, none⟩ = some (.int .i64 (numP N V p)) ∧
  ∃ g2 off cap, w.cell? ⟨g, p * 2 + 1, none⟩ = some (.slice (some ⟨g2, off, none⟩) 1 cap) ∧ 1 ≤ cap ∧ w.cell? ⟨g2, off, none⟩ = some (.int .u8 110) ∧ w.cell? ⟨g2, off + 1, none⟩ = some (.string ⟨(digs (V p)).toArray⟩) ∧ w.cell? ⟨g2, off + 2, none⟩ = some (.bool false) ∧
    w.cell? ⟨g2, off + 3, none⟩ = some (.int .i64 (numP N V p)) ∧ w.cell? ⟨g2, off + 4, none⟩ = some (.int .i64 ((numP N V p + (digs (V p)).length : Nat) : Int))

theorem cell_kept {w w' : World} (hb : Below w.heap.size w w') {p : Addr} {v : Value} (h : w.cell? p = some v) : w'.cell? p = some v := by
  rw [hb.cell (World.block_lt_of_cell? w p h)]; exact h

theorem Rd.below {w w' : World} {N : Nat → ByteArray} {V : Nat → Nat} {g gN gD p : Nat} (h : Rd w N V g gN gD p) (hb : Below w.heap.size w w') : Rd w' N V g gN gD p := by
  obtain ⟨h1, h2, h3, g2, off, cap, h4, h5, h6, h7, h8, h9, h10⟩ := h
  exact ⟨cell_kept hb h1, cell_kept hb h2, cell_kept hb h3, g2, off, cap, cell_kept hb h4, h5, cell_kept hb h6, cell_kept hb h7, cell_kept hb h8, cell_kept hb h9, cell_kept hb h10⟩

theorem rd_of {w : World} {N : Nat → ByteArray} {V : Nat → Nat} {g gN gD n B cap p : Nat} {cs : List Value} {cn cd : Array Value} (ho : w.ownsRow B 47 2 (.slice (some ⟨g, 0, none⟩) n cap) n cs) (hS : SetsOK w (Lx.itemToks 14 (itemsOf N V n)) cs (piecesOf 0 (itemsOf N V n)))
    (hn : w.heap[gN]? = some (.cells cn 3 (0, 0))) (hd : w.heap[gD]? = some (.cells cd 9 (0, 0))) (hp : p < n) (hcn : cn[p]? = some (.int .i64 (numP N V p))) (hcd : cd[p]? = some (.string ⟨(digs (V p)).toArray⟩)) : Rd w N V g gN gD p := by
  have hat := itemsOf_at N V n p hp
  obtain ⟨⟨lo, hi, k1⟩, k2⟩ := Lx.itemToks_at (itemsOf N V n) 14 p _ hat
  rw [itemsOf_take N V n p (by omega)] at k2
  obtain ⟨s1, v, s2, s3⟩ := sets_at hS (pieces_at (itemsOf N V n) 0 p (by rw [itemsOf_len]; exact hp))
  have hnl : (N p).data.toList.length = (N p).size := Array.length_toList
  simp only [Nat.zero_add] at s1 s3
  rw [k1] at s1
  have hsub : ((Lx.itemToks 14 (itemsOf N V n)).drop (4 * p + 2)).take (4 * p + 3 - (4 * p + 2)) = [⟨110, digs (V p), false, numP N V p, numP N V p + (digs (V p)).length⟩] := by
    obtain ⟨hlt, hget⟩ := List.getElem?_eq_some_iff.1 k2
    rw [show 4 * p + 3 - (4 * p + 2) = 1 from by omega, List.drop_eq_getElem_cons hlt, hget]
    simp only [List.take_succ_cons, List.take_zero, hnl, numP]
  rw [hsub] at s3
  rcases ho.2 with ⟨h0, _⟩ | ⟨g', cap', cur, hv, _, hg, hcap, _, hcs, htk⟩
  · cases h0
  simp only [Value.slice.injEq, Option.some.injEq, Addr.mk.injEq] at hv
  obtain ⟨⟨rfl, _⟩, _, rfl⟩ := hv
  have cell : ∀ k u, k < n * 2 → cs[k]? = some u → w.cell? ⟨g, k, none⟩ = some u := fun k u hk hu => by
    rw [cell_of_row w _ _ _ 47 (0, 0) hg, ← Array.getElem?_toList, ← List.getElem?_take_of_lt (l := cur.toList) hk, htk, hu]
  rcases s3 with ⟨h0, _⟩ | ⟨g2, off, cap2, cur2, rfl, hc2, hg2, hsz, hcc⟩
  · cases h0
  refine ⟨?_, ?_, ?_, g2, off, cap2, ?_, hc2, ?_⟩
  · rw [Nat.mul_comm]; exact cell _ _ (by omega) (by rw [s1]; rfl)
  · rw [cell_of_row w _ _ _ 9 (0, 0) hd]; exact hcd
  · rw [cell_of_row w _ _ _ 3 (0, 0) hn]; exact hcn
  · rw [Nat.mul_comm]; exact cell _ _ (by omega) s2
  · have k := fun j hj => row_cells hg2 hcc 0 _ rfl j hj
    have k0 := k 0 (by omega)
    have k1 := k 1 (by omega)
    have k2 := k 2 (by omega)
    have k3 := k 3 (by omega)
    have k4 := k 4 (by omega)
    simp only [tokCells, List.getElem?_cons_zero, List.getElem?_cons_succ, Nat.add_zero, Nat.zero_mul] at k0 k1 k2 k3 k4
    exact ⟨k0, k1, k2, k3, k4⟩

end Go.Proofs.Qxb6613163aDoor
