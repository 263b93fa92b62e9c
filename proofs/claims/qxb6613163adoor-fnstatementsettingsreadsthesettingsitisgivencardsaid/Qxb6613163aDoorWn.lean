/-
  THE WALKS of Starts (23), Outside (24).
-/
import Derived.Test.Qxb6613163aDoorWm
import Derived.Laws.AppendOwn
import Derived.Deep.LoopGhost
namespace Go.Proofs.Qxb6613163aDoor
open Go.RowKit

theorem Reads.below {w w1 : World} {v : Value} {T : List Lx.Tok} {n : Nat} (h : Reads w v T) (hb : Below n w w1) (hn : w.heap.size ≤ n) : Reads w1 v T := by
  rcases h with h | ⟨g, off, cap, cur, h1, h2, h3, h4, h5⟩
  · exact Or.inl h
  · exact Or.inr ⟨g, off, cap, cur, h1, h2, by rw [hb.block g (Nat.lt_of_lt_of_le (lt_of_block h3) hn)]; exact h3, h4, h5⟩

theorem at_any (w : World) (v : Value) (T : List Lx.Tok) (i : Nat) (hv : Reads w v T) (hT : T.length ≤ 1073741824) :
    Calls Tryd.prog 26 #[v, .int .i64 i] w fun e w' => e = .returned (tokVal ((T[i]?).getD zeroTok)) ∧ Below w.heap.size w w' := by
  cases h : T[i]? with
  | some t => exact at_in w v T i t hv h hT
  | none => exact at_out w v T i hv (by simpa using h)

def kwSet : List UInt8 := [115, 101, 116]
def kwStatement : List UInt8 := [115, 116, 97, 116, 101, 109, 101, 110, 116]
def kwFor : List UInt8 := [102, 111, 114]
def Ascii (s : List UInt8) : Prop := ∀ (j : Nat) (b : UInt8), s[j]? = some b → b.toNat < 128

theorem ascii_of (s : List UInt8) (h : ∀ b ∈ s, b.toNat < 128) : Ascii s := fun _ b hb => h b (List.mem_of_getElem? hb)
theorem asciiSet : Ascii kwSet := ascii_of _ (by decide)
theorem asciiStatement : Ascii kwStatement := ascii_of _ (by decide)
theorem asciiFor : Ascii kwFor := ascii_of _ (by decide)

set_option maxHeartbeats 2000000 in
theorem starts_no (w : World) (v : Value) (T : List Lx.Tok) (g : Nat) (hv : Reads w v T) (hT : T.length ≤ 1073741824) (hg : w.heap[g]? = some (.cells #[.string ⟨#[115, 101, 116]⟩, .string ⟨#[115, 116, 97, 116, 101, 109, 101, 110, 116]⟩] 9 (0, 0)))
    (t : Lx.Tok) (ht : (T[0]?).getD zeroTok = t) (ha : Ascii t.text) (hl : t.text.length < 4294967281) (hk : isKw t kwSet = false) :
    Calls Tryd.prog 23 #[v, .slice (some ⟨g, 0, none⟩) 2 2] w fun e w' => e = .returned (.bool false) ∧ Below w.heap.size w w' := by
  have c0 : w.cell? ⟨g, 0, none⟩ = some (.string ⟨#[115, 101, 116]⟩) := by rw [cell_of_row w g 0 _ 9 (0, 0) hg]; rfl
  have A : Hid (_) := at_any w v T 0 hv hT
  rw [ht] at A
  have I : ∀ w, Hid (_) := fun w => is_any t kwSet w hl ha asciiSet
  rw [hk] at I
  clear hv hg ha hk ht
  go_enter Tryd.func23, Tryd.ntmps23
  go_wp2
  go_loopg [9] 1 (fun q i wr => i = .int .i64 0 ∧ wr = w)
  case atStart => exact ⟨rfl, rfl⟩
  case round =>
    obtain ⟨rfl, rfl⟩ := hrel
    go_wp2_with fail
    refine Calls.mono A.out ?_
    rintro e w1 ⟨rfl, hb⟩
    replace hb : Hid (_) := hb
    go_wp2_with fail
    refine Calls.mono (I w1).out ?_
    rintro e w2 ⟨rfl, rfl⟩
    go_wp2
    go_ret
    exact ⟨rfl, hb.out.alloc hb.out.size _⟩

set_option maxHeartbeats 2000000 in
theorem starts_yes (w : World) (v : Value) (T : List Lx.Tok) (g : Nat) (hv : Reads w v T) (hT : T.length ≤ 1073741824) (hg : w.heap[g]? = some (.cells #[.string ⟨#[115, 101, 116]⟩, .string ⟨#[115, 116, 97, 116, 101, 109, 101, 110, 116]⟩] 9 (0, 0)))
    (t t' : Lx.Tok) (ht : (T[0]?).getD zeroTok = t) (ha : Ascii t.text) (hl : t.text.length < 4294967281) (hk : isKw t kwSet = true) (ht' : (T[1]?).getD zeroTok = t') (ha' : Ascii t'.text) (hl' : t'.text.length < 4294967281) (hk' : isKw t' kwStatement = true) :
    Calls Tryd.prog 23 #[v, .slice (some ⟨g, 0, none⟩) 2 2] w fun e w' => e = .returned (.bool true) ∧ Below w.heap.size w w' := by
  have hgl : g < w.heap.size := lt_of_block hg
  have hG : Hid (w.heap[g]? = some (.cells #[.string ⟨#[115, 101, 116]⟩, .string ⟨#[115, 116, 97, 116, 101, 109, 101, 110, 116]⟩] 9 (0, 0))) := hg
  have A0 : ∀ w1, Below w.heap.size w w1 → Hid (_) := fun w1 hb => at_any w1 v T 0 (hv.below hb (Nat.le_refl _)) hT
  have A1 : ∀ w1, Below w.heap.size w w1 → Hid (_) := fun w1 hb => at_any w1 v T 1 (hv.below hb (Nat.le_refl _)) hT
  rw [ht] at A0
  rw [ht'] at A1
  have I0 : ∀ w, Hid (_) := fun w => is_any t kwSet w hl ha asciiSet
  have I1 : ∀ w, Hid (_) := fun w => is_any t' kwStatement w hl' ha' asciiStatement
  rw [hk] at I0
  rw [hk'] at I1
  clear hv hg ha hk ht ha' hk' ht'
  go_enter Tryd.func23, Tryd.ntmps23
  go_wp2
  go_loopg [9] 2 (fun q i wr => ∃ k : Nat, k ≤ 2 ∧ 2 ≤ k + q ∧ i = .int .i64 k ∧ Hid (Below w.heap.size w wr))
  case atStart => exact ⟨0, by omega, by omega, rfl, Below.refl _ _⟩
  case round =>
    obtain ⟨k, hk2, hq, rfl, HB⟩ := hrel
    have hb := hG.out
    rw [← HB.out.block g hgl] at hb
    have c0 : wr.cell? ⟨g, 0, none⟩ = some (.string ⟨#[115, 101, 116]⟩) := by rw [cell_of_row wr g 0 _ 9 (0, 0) hb]; rfl
    have c1 : wr.cell? ⟨g, 1, none⟩ = some (.string ⟨#[115, 116, 97, 116, 101, 109, 101, 110, 116]⟩) := by rw [cell_of_row wr g 1 _ 9 (0, 0) hb]; rfl
    clear hb
    obtain rfl | rfl | rfl : k = 0 ∨ k = 1 ∨ k = 2 := by omega
    · go_wp2_with fail
      refine Calls.mono (A0 wr HB.out).out ?_
      rintro e w1 ⟨rfl, hb⟩
      replace hb : Hid (_) := hb
      go_wp2_with fail
      refine Calls.mono (I0 w1).out ?_
      rintro e w2 ⟨rfl, rfl⟩
      go_wp2
      go_roundg 1
      case measure => omega
      case rel => exact ⟨1, by omega, by omega, rfl, (HB.out.trans (hb.out.mono HB.out.size)).alloc (Nat.le_trans HB.out.size hb.out.size) _⟩
    · go_wp2_with fail
      refine Calls.mono (A1 wr HB.out).out ?_
      rintro e w1 ⟨rfl, hb⟩
      replace hb : Hid (_) := hb
      go_wp2_with fail
      refine Calls.mono (I1 w1).out ?_
      rintro e w2 ⟨rfl, rfl⟩
      go_wp2
      go_roundg 0
      case measure => omega
      case rel => exact ⟨2, by omega, by omega, rfl, (HB.out.trans (hb.out.mono HB.out.size)).alloc (Nat.le_trans HB.out.size hb.out.size) _⟩
    · go_wp2
      go_ret
      exact ⟨rfl, HB.out⟩

theorem cell_one_at (w : World) (n : Nat) (x : Value) (t : TypeId) (h : n = w.heap.size) : ∀ j u, [x][j]? = some u → (w.alloc (.cells #[x] t)).cell? ((⟨n, 0, none⟩ : Addr).add j) = some u := by
  subst h; exact cell_one_new w x t

/-! ### Outside -/
def outsF : Nat → Int → List Lx.Tok → List Nat
  | _, _, [] => []
  | i, d, t :: T => if t.kind = 40 then outsF (i + 1) (d + 1) T else if t.kind = 41 then outsF (i + 1) (d - 1) T else if d = 0 then i :: outsF (i + 1) d T else outsF (i + 1) d T

def intCells (xs : List Nat) : List Value := xs.map fun (n : Nat) => Value.int .i64 (n : Int)

theorem Tryd.info3 : (Tryd.prog.info? 3).map (fun i => (i.zero, i.size, i.bytes)) = some (some (.int .i64 0), 1, 8) := by kernel_rfl

set_option maxHeartbeats 4000000 in
set_option maxRecDepth 100000 in
theorem outside_any (w : World) (v : Value) (T : List Lx.Tok) (hv : Reads w v T) (hT : T.length ≤ 67108864) :
    Calls Tryd.prog 24 #[v] w fun e w' => (∃ r, e = .returned r ∧ w'.ownsRow w.heap.size 3 1 r (outsF 0 0 T).length (intCells (outsF 0 0 T))) ∧ Below w.heap.size w w' := by
  obtain ⟨i0, hi, hz0, hz1, hz2⟩ := info_parts Tryd.info3
  obtain ⟨O, hO⟩ : ∃ O, outsF 0 0 T = O := ⟨_, rfl⟩
  rw [hO]
  replace hO : Hid (_) := hO
  rcases hv with ⟨rfl, rfl⟩ | ⟨g, off, cap, cur, rfl, hcap, hg, hsz, hc⟩
  · have hO2 : Hid (O = []) := hO.out.symm
    go_enter Tryd.func24, Tryd.ntmps24
    go_wp2
    go_loopg [9, 4, 3] 1 (fun _ i dv r wr => i = .int .i64 0 ∧ dv = .int .i64 0 ∧ r = .slice none 0 0 ∧ wr = w)
    case atStart => exact ⟨rfl, rfl, rfl, rfl⟩
    case round =>
      obtain ⟨rfl, rfl, rfl, rfl⟩ := hrel
      go_wp2
      go_ret
      exact ⟨⟨_, rfl, by rw [hO2.out]; exact World.ownsRow_nil _ _ _ _⟩, Below.refl _ _⟩
  · have hgl : g < w.heap.size := lt_of_block hg
    have hG : Hid (w.heap[g]? = some (.cells cur 37 (0, 0))) := hg
    have hC : Hid ((cur.toList.drop off).take (5 * T.length) = T.flatMap tokCells) := hc
    clear hg hc
    go_enter Tryd.func24, Tryd.ntmps24
    go_wp2
    go_loopg [9, 4, 3] T.length (fun q i dv r wr => ∃ (k : Nat) (d : Int) (acc : List Nat), k ≤ T.length ∧ T.length ≤ k + q ∧ i = .int .i64 k ∧ dv = .int .i64 d ∧ -k ≤ d ∧ d ≤ k ∧ acc.length ≤ k ∧ Hid (acc ++ outsF k d (T.drop k) = O) ∧ Hid (wr.ownsRow w.heap.size 3 1 r acc.length (intCells acc)) ∧ Hid (Below w.heap.size w wr))
    case atStart => exact ⟨0, 0, [], by omega, by omega, rfl, rfl, by omega, by omega, by simp, hO, World.ownsRow_nil w w.heap.size 3 1, Below.refl _ _⟩
    case round =>
      obtain ⟨k, d, acc, hk, hq, rfl, rfl, hd1, hd2, hal, HA, HO, HB⟩ := hrel
      have hs := HB.out.size
      have hb := hG.out
      rw [← HB.out.block g hgl] at hb
      by_cases hlt : k < T.length
      · obtain ⟨t, ht⟩ : ∃ t, T[k]? = some t := ⟨T[k], List.getElem?_eq_getElem hlt⟩
        have hdr : T.drop k = t :: T.drop (k + 1) := by
          rw [List.drop_eq_getElem_cons hlt]; congr 1; rw [List.getElem?_eq_getElem hlt] at ht; exact Option.some.inj ht
        have hlt' : (k : Int) < (T.length : Int) := by omega
        have k0 := row_cells hb hC.out k t ht 0 (by omega)
        have k1 := row_cells hb hC.out k t ht 1 (by omega)
        have k2 := row_cells hb hC.out k t ht 2 (by omega)
        have k3 := row_cells hb hC.out k t ht 3 (by omega)
        have k4 := row_cells hb hC.out k t ht 4 (by omega)
        simp only [tokCells, List.getElem?_cons_zero, List.getElem?_cons_succ, Nat.add_zero] at k0 k1 k2 k3 k4
        have hgw : g < wr.heap.size := by omega
        rw [hdr] at HA
        obtain ⟨kd, tx, qd, lo, hi'⟩ := t
        simp only at k0 k1 k2 k3 k4
        clear hb ht hdr
        by_cases h40 : kd = 40
        · subst h40
          have N : Hid (acc ++ outsF (k + 1) (d + 1) (T.drop (k + 1)) = O) := HA.out
          clear HA
          go_wp2
          go_roundg (gk - 1)
          case measure => omega
          case rel => exact ⟨k + 1, d + 1, acc, by omega, by omega, by go_num, rfl, by omega, by omega, by omega, N, HO.out.alloc _, HB.out.alloc hs _⟩
        · have e40 : ((kd.toNat : Int) == 40) = false := by rw [beq_eq_false_iff_ne]; exact fun h => h40 (nat_eq h)
          by_cases h41 : kd = 41
          · subst h41
            have N : Hid (acc ++ outsF (k + 1) (d - 1) (T.drop (k + 1)) = O) := HA.out
            clear HA
            go_wp2
            go_roundg (gk - 1)
            case measure => omega
            case rel => exact ⟨k + 1, d - 1, acc, by omega, by omega, by go_num, rfl, by omega, by omega, by omega, N, HO.out.alloc _, HB.out.alloc hs _⟩
          · have e41 : ((kd.toNat : Int) == 41) = false := by rw [beq_eq_false_iff_ne]; exact fun h => h41 (nat_eq h)
            by_cases hd0 : d = 0
            · subst hd0
              have N : Hid ((acc ++ [k]) ++ outsF (k + 1) 0 (T.drop (k + 1)) = O) := by
                show _ = O
                rw [← HA.out]; simp [outsF, h40, h41]
              clear HA h40 h41
              go_wp2_with (at_builtin; refine wpList_append_own _ rfl _ _ 42 rfl w.heap.size 3 i0 (.int .i64 0) 1 8 Tryd.underlying42 hi hz0 hz1 hz2 rfl (by decide) _ _ _ rfl ((HO.out.alloc _).alloc _) ⟨wr.heap.size + 1, 0, none⟩ 1 1 [.int .i64 k] rfl rfl ?c1 ?c2 ?c3 ?c4 ?c5 ?_)
              case c1 => exact cell_one_at _ _ _ _ (by simp)
              case c2 => intro u hu; simp at hu; subst hu; rfl
              case c3 => unfold maxLen; omega
              case c4 => omega
              case c5 => simp; omega
              intro v' w2 hown' hgrow _
              replace hown' : Hid (w2.ownsRow w.heap.size 3 1 v' (acc ++ [k]).length (intCells (acc ++ [k]))) := by
                show w2.ownsRow w.heap.size 3 1 v' (acc ++ [k]).length (intCells (acc ++ [k]))
                simpa [intCells] using hown'
              replace hgrow : Hid (Below w.heap.size w w2) := ((HB.out.alloc hs _).alloc (by simp; omega) _).grown hgrow (by simp; omega) (fun j e => (HO.out.lt j e).1)
              obtain ⟨ao, nn, cp, rfl⟩ : ∃ ao nn cp, v' = .slice ao nn cp := by
                rcases hown'.out.2 with ⟨h, hn⟩ | ⟨g, cp, cur, h, _⟩
                · exact ⟨_, _, _, h⟩
                · exact ⟨_, _, _, h⟩
              go_wp2
              go_roundg (gk - 1)
              case measure => omega
              case rel => exact ⟨k + 1, 0, acc ++ [k], by omega, by omega, by go_num, rfl, by omega, by omega, by simp; omega, N, hown', hgrow⟩
            · have ed : (d == 0) = false := by simpa using hd0
              have N : Hid (acc ++ outsF (k + 1) d (T.drop (k + 1)) = O) := by
                show _ = O
                rw [← HA.out]; simp [outsF, h40, h41, hd0]
              clear HA h40 h41
              go_wp2
              go_roundg (gk - 1)
              case measure => omega
              case rel => exact ⟨k + 1, d, acc, by omega, by omega, by go_num, rfl, by omega, by omega, by omega, N, HO.out.alloc _, HB.out.alloc hs _⟩
      · have hge : decide (k < T.length) = false := by simp; omega
        have hge' : decide ((k : Int) < (T.length : Int)) = false := by simp; omega
        have N : Hid (acc = O) := by
          show _ = O
          rw [← HA.out, List.drop_eq_nil_of_le (by omega)]; simp [outsF]
        clear HA hb
        go_wp2
        go_ret
        exact ⟨⟨_, rfl, by rw [← N.out]; exact HO.out⟩, HB.out⟩

end Go.Proofs.Qxb6613163aDoor
