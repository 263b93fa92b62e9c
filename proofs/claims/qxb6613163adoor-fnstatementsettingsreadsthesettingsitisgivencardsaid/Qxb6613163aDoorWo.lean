/-
  THE WALK of Items (25).
-/
import Derived.Test.Qxb6613163aDoorWn
namespace Go.Proofs.Qxb6613163aDoor
open Go.RowKit

/-- Numbers that rise, from lo on, below n. -/
def Asc : Nat → Nat → List Nat → Prop
  | lo, n, [] => lo ≤ n
  | lo, n, i :: O => lo ≤ i ∧ i < n ∧ Asc (i + 1) n O

theorem Asc.mono {a b n : Nat} {O : List Nat} (h : Asc a n O) (hb : b ≤ a) : Asc b n O := by
  cases O with
  | nil => exact Nat.le_trans hb h
  | cons i O => exact ⟨Nat.le_trans hb h.1, h.2⟩

theorem outs_asc (T : List Lx.Tok) : ∀ (lo : Nat) (d : Int), Asc lo (lo + T.length) (outsF lo d T) := by
  induction T with
  | nil => intro lo d; simp [outsF, Asc]
  | cons t T ih =>
    intro lo d
    have e : lo + (t :: T).length = lo + 1 + T.length := by simp; omega
    rw [e]
    simp only [outsF]
    split
    · exact (ih _ _).mono (by omega)
    · split
      · exact (ih _ _).mono (by omega)
      · split
        · exact ⟨Nat.le_refl _, by omega, ih _ _⟩
        · exact (ih _ _).mono (by omega)

/-- Where Items cuts. -/
def itemsF (S : List Lx.Tok) : Nat → List Nat → List (Nat × Nat)
  | fr, [] => [(fr, S.length)]
  | fr, i :: O => if ((S[i]?).getD zeroTok).kind = 44 then (fr, i) :: itemsF S (i + 1) O else itemsF S fr O

def pieceCells (g off cap : Nat) (P : List (Nat × Nat)) : List Value := P.map fun p => subV g off cap p.1 (p.2 - p.1)

theorem Tryd.info30 : (Tryd.prog.info? 30).map (fun i => (i.zero, i.size, i.bytes)) = some (some (.slice none 0 0), 1, 24) := by kernel_rfl

theorem ints_cell {w : World} {B : Nat} {r : Value} {O : List Nat} (h : w.ownsRow B 3 1 r O.length (intCells O)) : (O = [] ∧ r = .slice none 0 0) ∨ ∃ g cap, r = .slice (some ⟨g, 0, none⟩) O.length cap ∧ B ≤ g ∧ g < w.heap.size ∧ ∀ (k i : Nat), O[k]? = some i → w.cell? ⟨g, k, none⟩ = some (.int .i64 i) := by
  rcases h.2 with ⟨h1, h2⟩ | ⟨g, cap, cur, h1, h2, h3, h4, h5, h6, h7⟩
  · exact Or.inl ⟨List.eq_nil_of_length_eq_zero h2, h1⟩
  · refine Or.inr ⟨g, cap, h1, h2, lt_of_block h3, fun k i hk => ?_⟩
    have hlt : k < O.length := by
      rcases Nat.lt_or_ge k O.length with h | h
      · exact h
      · rw [List.getElem?_eq_none h] at hk; cases hk
    rw [cell_of_row w g k _ 3 (0, 0) h3, ← Array.getElem?_toList]
    have : (cur.toList.take (O.length * 1))[k]? = cur.toList[k]? := List.getElem?_take_of_lt (by omega)
    rw [← this, h7]
    simp [intCells, hk]

theorem ints_at {w : World} {B g cap : Nat} {O : List Nat} (h : w.ownsRow B 3 1 (.slice (some ⟨g, 0, none⟩) O.length cap) O.length (intCells O)) (k i : Nat) (hk : O[k]? = some i) : w.cell? ⟨g, k, none⟩ = some (.int .i64 i) := by
  rcases ints_cell h with ⟨_, h1⟩ | ⟨g', cap', h1, _, _, h2⟩
  · cases h1
  · injection h1 with h3 _ _
    injection h3 with h4
    injection h4 with h5 _ _
    subst h5
    exact h2 k i hk

theorem own_ne {w : World} {B1 B2 : Nat} {e1 e2 : TypeId} {s1 s2 n1 n2 : Nat} {v1 v2 : Value} {xs1 xs2 : List Value} (h1 : w.ownsRow B1 e1 s1 v1 n1 xs1) (h2 : w.ownsRow B2 e2 s2 v2 n2 xs2) (hne : e1 ≠ e2) : v1.ownBlock = none ∨ v1.ownBlock ≠ v2.ownBlock := by
  rcases h1.2 with ⟨rfl, _⟩ | ⟨g, cap, cur, rfl, _, hg, _⟩
  · exact Or.inl rfl
  · right
    rcases h2.2 with ⟨rfl, _⟩ | ⟨g', cap', cur', rfl, _, hg', _⟩
    · simp [Value.ownBlock]
    · intro h
      simp only [Value.ownBlock, Option.some.injEq] at h
      subst h
      rw [hg] at hg'
      simp only [Option.some.injEq, Obj.cells.injEq] at hg'
      exact hne hg'.2.1

theorem outs_len (T : List Lx.Tok) : ∀ (lo : Nat) (d : Int), (outsF lo d T).length ≤ T.length := by
  induction T with
  | nil => intro lo d; simp [outsF]
  | cons t T ih =>
    intro lo d
    simp only [outsF]
    have a := ih (lo + 1) (d + 1)
    have b := ih (lo + 1) (d - 1)
    have c := ih (lo + 1) d
    split
    · simp; omega
    · split
      · simp; omega
      · split <;> simp <;> omega

set_option maxHeartbeats 4000000 in
set_option maxRecDepth 100000 in
theorem items_any (w : World) (g off cap : Nat) (cur : Array Value) (S : List Lx.Tok) (hcap : S.length ≤ cap) (hg : w.heap[g]? = some (.cells cur 37 (0, 0))) (hsz : off + 5 * cap ≤ cur.size) (hc : (cur.toList.drop off).take (5 * S.length) = S.flatMap tokCells) (hS : S.length ≤ 67108864) (hne : ∀ p ∈ itemsF S 0 (outsF 0 0 S), p.1 < p.2) (hO0 : outsF 0 0 S ≠ []) :
    Calls Tryd.prog 25 #[.slice (some ⟨g, off, none⟩) S.length cap] w fun e w' => (∃ r, e = .returned r ∧ w'.ownsRow w.heap.size 30 1 r (itemsF S 0 (outsF 0 0 S)).length (pieceCells g off cap (itemsF S 0 (outsF 0 0 S)))) ∧ Below w.heap.size w w' := by
  obtain ⟨i0, hi, hz0, hz1, hz2⟩ := info_parts Tryd.info30
  obtain ⟨P, hP⟩ : ∃ P, itemsF S 0 (outsF 0 0 S) = P := ⟨_, rfl⟩
  rw [hP] at hne ⊢
  have hasc := outs_asc S 0 0
  obtain ⟨O, hO⟩ : ∃ O, outsF 0 0 S = O := ⟨_, rfl⟩
  have C : Hid (_) := outside_any w _ S (Or.inr ⟨g, off, cap, cur, rfl, hcap, hg, hsz, hc⟩) hS
  have hO8 := outs_len S 0 0
  rw [hO] at C hP hasc hO0 hO8
  rw [Nat.zero_add] at hasc
  replace hP : Hid (_) := hP
  replace hne : Hid (_) := hne
  replace hasc : Hid (_) := hasc
  have hgl : g < w.heap.size := lt_of_block hg
  have hG : Hid (w.heap[g]? = some (.cells cur 37 (0, 0))) := hg
  have hC : Hid ((cur.toList.drop off).take (5 * S.length) = S.flatMap tokCells) := hc
  clear hg hc hO
  go_enter Tryd.func25, Tryd.ntmps25
  go_wp2_with fail
  refine Calls.mono C.out ?_
  rintro e w1 ⟨⟨r, rfl, hr⟩, hb⟩
  replace hb : Hid (_) := hb
  rcases ints_cell hr with ⟨h, _⟩ | ⟨g8, cap8, rfl, _, _, _⟩
  · exact absurd h hO0
  · replace hr : Hid (_) := hr
    clear hO0
    go_wp2
    go_loopg [10, 4, 3] O.length (fun q i fv rv wr => ∃ (k fr : Nat) (acc : List (Nat × Nat)), k ≤ O.length ∧ O.length ≤ k + q ∧ i = .int .i64 k ∧ fv = .int .i64 fr ∧ acc.length ≤ k ∧ Hid (Asc fr S.length (O.drop k)) ∧ Hid (acc ++ itemsF S fr (O.drop k) = P) ∧ Hid (wr.ownsRow w.heap.size 30 1 rv acc.length (pieceCells g off cap acc)) ∧ Hid (Below w.heap.size w wr) ∧ Hid (wr.ownsRow w.heap.size 3 1 (.slice (some ⟨g8, 0, none⟩) O.length cap8) O.length (intCells O)))
    case atStart => exact ⟨0, 0, [], by omega, by omega, rfl, rfl, by simp, hasc, hP, World.ownsRow_nil w1 w.heap.size 30 1, hb, hr⟩
    case round =>
      obtain ⟨k, fr, acc, hk, hq, rfl, rfl, hal, HAsc, HA, HW, HB, H8⟩ := hrel
      have hs := HB.out.size
      by_cases hlt : k < O.length
      · obtain ⟨i, hik⟩ : ∃ i, O[k]? = some i := ⟨O[k], List.getElem?_eq_getElem hlt⟩
        have hdr : O.drop k = i :: O.drop (k + 1) := by
          rw [List.drop_eq_getElem_cons hlt]; congr 1; rw [List.getElem?_eq_getElem hlt] at hik; exact Option.some.inj hik
        rw [hdr] at HAsc HA
        obtain ⟨hfi, hiS, hasc2⟩ := HAsc.out
        replace hasc2 : Hid (_) := hasc2
        obtain ⟨t, ht⟩ : ∃ t, S[i]? = some t := ⟨S[i], List.getElem?_eq_getElem hiS⟩
        have c8 := ints_at H8.out k i hik
        have hb8 := hG.out
        rw [← HB.out.block g hgl] at hb8
        have k0 := row_cells hb8 hC.out i t ht 0 (by omega)
        simp only [tokCells, List.getElem?_cons_zero, Nat.add_zero] at k0
        have hlt' : (k : Int) < (O.length : Int) := by omega
        have hiS' : (i : Int) < (S.length : Int) := by omega
        have hfi' : (fr : Int) ≤ (i : Int) := by omega
        clear hb8 hdr hik HAsc
        by_cases h44 : t.kind = 44
        · have N : Hid ((acc ++ [(fr, i)]) ++ itemsF S (i + 1) (O.drop (k + 1)) = P) := by
            show _ = P
            rw [← HA.out]; simp [itemsF, ht, h44]
          rw [h44] at k0
          have hcf : (cap == fr) = false := by simp; omega
          have hcf2 : ¬ cap = fr := by omega
          have hsub : Hid (pieceCells g off cap (acc ++ [(fr, i)]) = pieceCells g off cap acc ++ [.slice (some ⟨g, off + fr * 5, none⟩) (i - fr) (cap - fr)]) := by
            show _ = _
            simp [pieceCells, subV, hcf2]
          clear HA h44 ht
          go_wp2_with (at_builtin; refine wpList_append_own _ rfl _ _ 57 rfl w.heap.size 30 i0 (.slice none 0 0) 1 24 Tryd.underlying57 hi hz0 hz1 hz2 rfl (by decide) _ _ _ rfl (HW.out.alloc _) ⟨wr.heap.size, 0, none⟩ 1 1 [.slice (some ⟨g, off + fr * 5, none⟩) (i - fr) (cap - fr)] rfl rfl ?c1 ?c2 ?c3 ?c4 ?c5 ?_)
          case c1 => exact cell_one_at _ _ _ _ rfl
          case c2 => intro u hu; simp at hu; subst hu; rfl
          case c3 => unfold maxLen; omega
          case c4 => omega
          case c5 => simp; omega
          intro v' w2 hown' hgrow _
          have H8' : Hid (w2.ownsRow w.heap.size 3 1 (.slice (some ⟨g8, 0, none⟩) O.length cap8) O.length (intCells O)) := (H8.out.alloc _).kept hgrow (own_ne H8.out HW.out (by decide))
          replace hown' : Hid (_) := hown'
          replace hgrow : Hid (Below w.heap.size w w2) := (HB.out.alloc hs _).grown hgrow (by simp; omega) (fun j e => (HW.out.lt j e).1)
          obtain ⟨ao, nn, cp, rfl⟩ : ∃ ao nn cp, v' = .slice ao nn cp := by
            rcases hown'.out.2 with ⟨h, hn⟩ | ⟨g, cp, cur, h, _⟩
            · exact ⟨_, _, _, h⟩
            · exact ⟨_, _, _, h⟩
          go_wp2
          go_roundg (gk - 1)
          case measure => omega
          case rel => exact ⟨k + 1, i + 1, acc ++ [(fr, i)], by omega, by omega, by go_num, by go_num, by simp; omega, hasc2, N, by rw [hsub.out, List.length_append]; exact hown'.out, hgrow, H8'⟩
        · have e44 : ((t.kind.toNat : Int) == 44) = false := by rw [beq_eq_false_iff_ne]; exact fun h => h44 (nat_eq h)
          have N : Hid (acc ++ itemsF S fr (O.drop (k + 1)) = P) := by
            show _ = P
            rw [← HA.out]; simp [itemsF, ht, h44]
          have NA : Hid (Asc fr S.length (O.drop (k + 1))) := hasc2.out.mono (by omega)
          clear HA h44 ht
          go_wp2
          go_roundg (gk - 1)
          case measure => omega
          case rel => exact ⟨k + 1, fr, acc, by omega, by omega, by go_num, rfl, by omega, NA, N, HW, HB, H8⟩
      · have hge : decide (k < O.length) = false := by simp; omega
        have hge' : decide ((k : Int) < (O.length : Int)) = false := by simp; omega
        have N : Hid (acc ++ [(fr, S.length)] = P) := by
          show _ = P
          rw [← HA.out, List.drop_eq_nil_of_le (by omega)]; rfl
        have hfr : fr < S.length := by
          have := hne.out (fr, S.length) (by rw [← N.out]; simp)
          simpa using this
        have hcf : (cap == fr) = false := by simp; omega
        have hcf2 : ¬ cap = fr := by omega
        have hfr' : (fr : Int) ≤ (S.length : Int) := by omega
        have hsub : Hid (pieceCells g off cap P = pieceCells g off cap acc ++ [.slice (some ⟨g, off + fr * 5, none⟩) (S.length - fr) (cap - fr)]) := by
          show _ = _
          rw [← N.out]; simp [pieceCells, subV, hcf2]
        have hPl : Hid (P.length = acc.length + 1) := by show _ = _; rw [← N.out]; simp
        clear HA
        go_wp2_with (at_builtin; refine wpList_append_own _ rfl _ _ 57 rfl w.heap.size 30 i0 (.slice none 0 0) 1 24 Tryd.underlying57 hi hz0 hz1 hz2 rfl (by decide) _ _ _ rfl (HW.out.alloc _) ⟨wr.heap.size, 0, none⟩ 1 1 [.slice (some ⟨g, off + fr * 5, none⟩) (S.length - fr) (cap - fr)] rfl rfl ?c1 ?c2 ?c3 ?c4 ?c5 ?_)
        case c1 => exact cell_one_at _ _ _ _ rfl
        case c2 => intro u hu; simp at hu; subst hu; rfl
        case c3 => unfold maxLen; omega
        case c4 => omega
        case c5 => simp; omega
        intro v' w2 hown' hgrow _
        replace hown' : Hid (_) := hown'
        replace hgrow : Hid (Below w.heap.size w w2) := (HB.out.alloc hs _).grown hgrow (by simp; omega) (fun j e => (HW.out.lt j e).1)
        obtain ⟨ao, nn, cp, rfl⟩ : ∃ ao nn cp, v' = .slice ao nn cp := by
          rcases hown'.out.2 with ⟨h, hn⟩ | ⟨g, cp, cur, h, _⟩
          · exact ⟨_, _, _, h⟩
          · exact ⟨_, _, _, h⟩
        go_wp2
        go_ret
        exact ⟨⟨_, rfl, by rw [hsub.out, hPl.out]; exact hown'.out⟩, hgrow.out⟩

end Go.Proofs.Qxb6613163aDoor
