/-
  THE WALK of (Lexer).quoted (33).
-/
import Derived.Test.Qxb6613163aDoorWb
import Derived.Test.Qxb6613163aDoorWc
namespace Go.Proofs.Qxb6613163aDoor
open Go.RowKit

namespace Lx
theorem upd_upd (x : Option (List UInt8 × Nat)) (p a : List UInt8) (i k : Nat) : (x.map (upd p i)).map (upd a k) = x.map (upd (a ++ p) (k + i)) := by
  cases x with
  | none => rfl
  | some y => simp only [Option.map_some, upd, List.append_assoc, Option.some.injEq, Prod.mk.injEq, true_and]; omega
theorem upd_none (a : List UInt8) (k : Nat) : (none : Option (List UInt8 × Nat)).map (upd a k) = none := rfl
theorem quo_nil (e : Bool) (q : UInt8) : quo e q [] = none := by simp [quo]
theorem quo_dbl (e : Bool) (q : UInt8) (t : List UInt8) : quo e q (q :: q :: t) = (quo e q t).map (upd [q] 2) := by simp [quo]
theorem quo_one (e : Bool) (q : UInt8) : quo e q [q] = some ([], 1) := by simp [quo]
theorem quo_end (e : Bool) (q d : UInt8) (t : List UInt8) (h : d ≠ q) : quo e q (q :: d :: t) = some ([], 1) := by simp [quo, h]
theorem quo_pct (q d : UInt8) (t : List UInt8) (h : (92 : UInt8) ≠ q) (hd : d = 37 ∨ d = 95) : quo true q (92 :: d :: t) = (quo true q t).map (upd [92, d] 2) := by
  rcases hd with rfl | rfl <;> simp [quo, h]
theorem quo_esc (q d : UInt8) (t : List UInt8) (h : (92 : UInt8) ≠ q) (h1 : d ≠ 37) (h2 : d ≠ 95) : quo true q (92 :: d :: t) = (quo true q t).map (upd [unesc d] 2) := by simp [quo, h, h1, h2]
theorem quo_plain (e : Bool) (q c : UInt8) (t : List UInt8) (h : c ≠ q) (h2 : c ≠ 92 ∨ e = false ∨ t = []) : quo e q (c :: t) = (quo e q t).map (upd [c] 1) := by
  cases t with
  | nil => simp [quo, h]
  | cons d t =>
    rcases h2 with h2 | h2 | h2
    · simp [quo, h, h2]
    · simp [quo, h, h2]
    · cases h2
end Lx

def quotedVal (x : Option (List UInt8 × Nat)) : Value :=
  match x with
  | none => .tuple #[.string ⟨#[]⟩, .int .i64 0, .bool false]
  | some (t, n) => .tuple #[.string ⟨t.toArray⟩, .int .i64 n, .bool true]

theorem top_block (w : World) (o : Obj) (n : Nat) (h : n = w.heap.size) : (w.alloc o).heap[n]? = some o := by subst h; exact heap_alloc_new w o

theorem byteCells_snoc (a : List UInt8) (c : UInt8) : Lib.byteCells a ++ [.int .u8 c.toNat] = Lib.byteCells (a ++ [c]) := by simp [Lib.byteCells]

theorem two_bytes (s : ByteArray) (k : Nat) (h : k + 1 < s.size) : Lib.strCells (s.extract k (k + 2)) = Lib.byteCells [s[k], s[k + 1]] := by
  have e : (s.extract k (k + 2)).data.toList = [s[k], s[k + 1]] := by
    rw [Lib.extract_data]
    rw [drop_byte s k (by omega), drop_byte s (k + 1) h]
    have : k + 2 - k = 2 := by omega
    rw [this]
    rfl
  rw [Lib.strCells, e]
  rfl

set_option maxHeartbeats 4000000 in
set_option maxRecDepth 100000 in
theorem quoted_any (l : Lx.Lex) (s : ByteArray) (w : World) (hs : s.size ≤ 1073741824) (h0 : 0 < s.size) :
    Calls Tryd.prog 33 #[.agg #[.bool l.exec, .bool l.noEsc, .bool l.ansi], .string s] w fun e w' => e = .returned (quotedVal (Lx.quoted l s.data.toList)) ∧ Below w.heap.size w w' := by
  obtain ⟨q, hq, hqd⟩ := byte_at s 0 h0
  obtain ⟨Q, hQ⟩ : ∃ Q, Lx.quoted l s.data.toList = Q := ⟨_, rfl⟩
  rw [hQ]
  obtain ⟨esc, hesc⟩ : ∃ esc, (!l.noEsc && !Lx.quotesName l q) = esc := ⟨_, rfl⟩
  have HQ : Hid ((Lx.quo esc q (s.data.toList.drop 1)).map (Lx.upd [] 1) = Q) := by
    show (Lx.quo esc q (s.data.toList.drop 1)).map (Lx.upd [] 1) = Q
    rw [← hQ, ← hesc]
    rw [List.drop_zero] at hqd
    rw [hqd]
    rfl
  clear hQ hqd
  obtain ⟨l1, l2, l3⟩ := l
  simp only at hesc ⊢
  cases l2
  · obtain ⟨b, hb⟩ : ∃ b, b = Lx.quotesName ⟨l1, false, l3⟩ q := ⟨_, rfl⟩
    rw [← hb] at hesc
    simp only [Bool.not_false, Bool.true_and] at hesc
    have HB : Hid (Lx.quotesName ⟨l1, false, l3⟩ q = b) := hb.symm
    clear hb
    go_enter Tryd.func33, Tryd.ntmps33
    go_wp2_with (go_at_call 34; refine (quotesName_any ⟨l1, false, l3⟩ q _).mono ?_; rintro e w1 ⟨rfl, rfl⟩; rw [HB.out])
    go_loopg [10] s.size (fun g i wr => ∃ (k : Nat) (acc : List UInt8), 1 ≤ k ∧ k ≤ s.size + 1 ∧ s.size ≤ k + g ∧ acc.length ≤ k ∧ i = .int .i64 k ∧ Hid ((Lx.quo esc q (s.data.toList.drop k)).map (Lx.upd acc k) = Q) ∧ Hid (Lib.IsBuilder 86 5 w.heap.size (w.heap.size + 1 + 1) (Lib.byteCells acc) wr) ∧ Hid (Below w.heap.size w wr))
    case atStart =>
      refine ⟨1, [], by omega, by omega, by omega, by simp, rfl, HQ, ?_, ?_⟩
      · exact Or.inl ⟨by omega, .slice none 0 0, top_block _ _ _ (by simp), World.ownsRow_nil _ _ _ _, by simp [Value.ownBlock]⟩
      · exact (((Below.refl _ w).alloc (by simp) _).alloc (by simp) _).alloc (by simp <;> omega) _
    case round =>
      obtain ⟨k, acc, hk1, hk2, hgk, hacc, rfl, HR, HBd, HBl⟩ := hrel
      have hal : (Lib.byteCells acc).length = acc.length := by simp [Lib.byteCells]
      by_cases hlt : k < s.size
      · obtain ⟨c, hc, hcd⟩ := byte_at s k hlt
        have hlt' : (k : Int) < (s.size : Int) := by omega
        rw [hcd] at HR
        by_cases hcq : c = q
        · subst hcq
          by_cases hk3 : k + 1 < s.size
          · obtain ⟨d, hdb, hdd⟩ := byte_at s (k + 1) hk3
            have hk3' : (k : Int) + 1 < (s.size : Int) := by omega
            rw [hdd] at HR
            by_cases hdq : d = c
            · subst hdq
              have N : Hid ((Lx.quo esc d (s.data.toList.drop (k + 1 + 1))).map (Lx.upd (acc ++ [d]) (k + 2)) = Q) := by
                show _ = Q
                rw [← HR.out, Lx.quo_dbl, Lx.upd_upd]
              clear HR hcd hdd
              go_wp2_with (go_at_call 45; refine (writeByte_any w.heap.size _ (Lib.byteCells acc) d.toNat _ HBd.out (by rw [hal]; omega) HBl.out.size).mono ?_; rintro e w1 ⟨rfl, hbd, hbl⟩; rw [byteCells_snoc] at hbd; replace hbd : Hid (_) := hbd; replace hbl : Hid (_) := hbl)
              go_roundg (gk - 1)
              case measure => omega
              case rel => exact ⟨k + 1 + 1, acc ++ [d], by omega, by omega, by omega, by simp; omega, by go_num, N, Or.inr hbd.out, HBl.out.trans hbl.out⟩
            · have hne : ((d.toNat : Int) == (c.toNat : Int)) = false := by rw [beq_eq_false_iff_ne]; exact fun h => hdq (nat_eq h)
              have FIN : Hid (Q = some (acc, k + 1)) := by
                show Q = _
                rw [← HR.out, Lx.quo_end _ _ _ _ hdq]
                simp only [Option.map_some, Lx.upd, List.append_nil, Option.some.injEq, Prod.mk.injEq, true_and]; omega
              clear HR hcd hdd
              go_wp2_with (go_at_call 46; refine (Tryd.Builder_String_any w.heap.size _ acc _ HBd.out HBl.out.size).mono ?_; rintro e w1 ⟨rfl, hbl⟩; replace hbl : Hid (_) := hbl)
              go_ret3
              exact ⟨by rw [FIN.out]; simp [quotedVal], HBl.out.trans hbl.out⟩
          · have hk3' : decide ((k : Int) + 1 < (s.size : Int)) = false := by simp; omega
            have FIN : Hid (Q = some (acc, k + 1)) := by
              show Q = _
              rw [← HR.out, drop_end s (k + 1) (by omega), Lx.quo_one]
              simp only [Option.map_some, Lx.upd, List.append_nil, Option.some.injEq, Prod.mk.injEq, true_and]; omega
            clear HR hcd
            go_wp2_with (go_at_call 46; refine (Tryd.Builder_String_any w.heap.size _ acc _ HBd.out HBl.out.size).mono ?_; rintro e w1 ⟨rfl, hbl⟩; replace hbl : Hid (_) := hbl)
            go_ret3
            exact ⟨by rw [FIN.out]; simp [quotedVal], HBl.out.trans hbl.out⟩
        · have hneq : ((c.toNat : Int) == (q.toNat : Int)) = false := by rw [beq_eq_false_iff_ne]; exact fun h => hcq (nat_eq h)
          by_cases hpl : c ≠ 92 ∨ esc = false ∨ s.size ≤ k + 1
          · have N : Hid ((Lx.quo esc q (s.data.toList.drop (k + 1))).map (Lx.upd (acc ++ [c]) (k + 1)) = Q) := by
              show _ = Q
              rw [← HR.out, Lx.quo_plain _ _ _ _ hcq (by rcases hpl with h | h | h; exact Or.inl h; exact Or.inr (Or.inl h); exact Or.inr (Or.inr (drop_end s (k + 1) h))), Lx.upd_upd]
            have sp : (((c.toNat : Int) == 92) = false) ∨ (((c.toNat : Int) == 92) = true ∧ esc = false) ∨ (((c.toNat : Int) == 92) = true ∧ esc = true ∧ decide ((k : Int) + 1 < (s.size : Int)) = false) := by
              by_cases h92 : c = 92
              · subst h92
                cases esc
                · exact Or.inr (Or.inl ⟨rfl, rfl⟩)
                · rcases hpl with h | h | h
                  · exact absurd rfl h
                  · cases h
                  · exact Or.inr (Or.inr ⟨rfl, rfl, by simp; omega⟩)
              · left; rw [beq_eq_false_iff_ne]; exact fun h => h92 (nat_eq h)
            clear HR hcd hpl hcq
            rcases sp with sp | ⟨sp, sp2⟩ | ⟨sp, sp2, sp3⟩
            all_goals
              try subst sp2
              go_wp2_with (go_at_call 45; refine (writeByte_any w.heap.size _ (Lib.byteCells acc) c.toNat _ HBd.out (by rw [hal]; omega) HBl.out.size).mono ?_; rintro e w1 ⟨rfl, hbd, hbl⟩; rw [byteCells_snoc] at hbd; replace hbd : Hid (_) := hbd; replace hbl : Hid (_) := hbl)
              go_roundg (gk - 1)
              case measure => omega
              case rel => exact ⟨k + 1, acc ++ [c], by omega, by omega, by omega, by simp; omega, by go_num, N, Or.inr hbd.out, HBl.out.trans hbl.out⟩
          · have h92 : c = 92 := Classical.byContradiction fun h => hpl (Or.inl h)
            have hes : esc = true := by cases esc; exact absurd (Or.inr (Or.inl rfl)) hpl; rfl
            have hk3 : k + 1 < s.size := by
              rcases Nat.lt_or_ge (k + 1) s.size with h | h
              · exact h
              · exact absurd (Or.inr (Or.inr h)) hpl
            subst h92
            subst hes
            clear hpl
            have hneq2 : ((92 : Int) == (q.toNat : Int)) = false := hneq
            obtain ⟨d, hdb, hdd⟩ := byte_at s (k + 1) hk3
            have hk3' : (k : Int) + 1 < (s.size : Int) := by omega
            rw [hdd] at HR
            by_cases hp : d = 37 ∨ d = 95
            · have N : Hid ((Lx.quo true q (s.data.toList.drop (k + 1 + 1))).map (Lx.upd (acc ++ [92, d]) (k + 2)) = Q) := by
                show _ = Q
                rw [← HR.out, Lx.quo_pct _ _ _ hcq hp, Lx.upd_upd]
              have T2 : Hid (Lib.strCells (s.extract k (k + 2)) = Lib.byteCells [92, d]) := by
                show Lib.strCells (s.extract k (k + 2)) = Lib.byteCells [92, d]
                rw [two_bytes s k hk3, hc, hdb]
              have hxs : (s.extract k (k + 2)).size = 2 := by
                rw [← Lib.strCells_length, T2.out]; rfl
              have sp : ((d.toNat : Int) == 37) = true ∨ (((d.toNat : Int) == 37) = false ∧ ((d.toNat : Int) == 95) = true) := by
                rcases hp with rfl | rfl
                · exact Or.inl rfl
                · exact Or.inr ⟨rfl, rfl⟩
              clear HR hcd hdd hp hcq
              rcases sp with sp | ⟨sp, sp2⟩
              all_goals
                go_wp2_with (go_at_call 47; refine (writeString_any w.heap.size _ (Lib.byteCells acc) (s.extract k (k + 2)) _ HBd.out (by rw [hal, hxs]; omega) HBl.out.size).mono ?_; rintro e w1 ⟨rfl, hbd, hbl⟩; rw [T2.out, show Lib.byteCells acc ++ Lib.byteCells [92, d] = Lib.byteCells (acc ++ [92, d]) from by simp [Lib.byteCells]] at hbd; replace hbd : Hid (_) := hbd; replace hbl : Hid (_) := hbl)
                go_roundg (gk - 1)
                case measure => omega
                case rel => exact ⟨k + 1 + 1, acc ++ [92, d], by omega, by omega, by omega, by simp; omega, by go_num, N, Or.inr hbd.out, HBl.out.trans hbl.out⟩
            · have h1 : d ≠ 37 := fun h => hp (Or.inl h)
              have h2 : d ≠ 95 := fun h => hp (Or.inr h)
              have N : Hid ((Lx.quo true q (s.data.toList.drop (k + 1 + 1))).map (Lx.upd (acc ++ [Lx.unesc d]) (k + 2)) = Q) := by
                show _ = Q
                rw [← HR.out, Lx.quo_esc _ _ _ hcq h1 h2, Lx.upd_upd]
              have e1 : ((d.toNat : Int) == 37) = false := by rw [beq_eq_false_iff_ne]; exact fun h => h1 (nat_eq h)
              have e2 : ((d.toNat : Int) == 95) = false := by rw [beq_eq_false_iff_ne]; exact fun h => h2 (nat_eq h)
              clear HR hcd hdd hp hcq h1 h2
              go_wp2_with fail
              refine (unescaped_any d _).mono ?_
              rintro e w0 ⟨rfl, rfl⟩
              go_wp2_with (go_at_call 45; refine (writeByte_any w.heap.size _ (Lib.byteCells acc) (Lx.unesc d).toNat _ HBd.out (by rw [hal]; omega) HBl.out.size).mono ?_; rintro e w1 ⟨rfl, hbd, hbl⟩; rw [byteCells_snoc] at hbd; replace hbd : Hid (_) := hbd; replace hbl : Hid (_) := hbl)
              go_roundg (gk - 1)
              case measure => omega
              case rel => exact ⟨k + 1 + 1, acc ++ [Lx.unesc d], by omega, by omega, by omega, by simp; omega, by go_num, N, Or.inr hbd.out, HBl.out.trans hbl.out⟩
      · have hge : decide (k < s.size) = false := by simp; omega
        have hge' : decide ((k : Int) < (s.size : Int)) = false := by simp; omega
        have FIN : Hid (Q = none) := by
          show Q = none
          rw [← HR.out, drop_end s k (by omega), Lx.quo_nil]; rfl
        clear HR
        go_wp2
        go_ret3
        exact ⟨by rw [FIN.out]; rfl, HBl.out⟩
  · have hes0 : esc = false := by rw [← hesc]; rfl
    subst hes0
    go_enter Tryd.func33, Tryd.ntmps33
    go_wp2_with fail
    go_loopg [10] s.size (fun g i wr => ∃ (k : Nat) (acc : List UInt8), 1 ≤ k ∧ k ≤ s.size + 1 ∧ s.size ≤ k + g ∧ acc.length ≤ k ∧ i = .int .i64 k ∧ Hid ((Lx.quo false q (s.data.toList.drop k)).map (Lx.upd acc k) = Q) ∧ Hid (Lib.IsBuilder 86 5 w.heap.size (w.heap.size + 1) (Lib.byteCells acc) wr) ∧ Hid (Below w.heap.size w wr))
    case atStart =>
      refine ⟨1, [], by omega, by omega, by omega, by simp, rfl, HQ, ?_, ?_⟩
      · exact Or.inl ⟨by omega, .slice none 0 0, top_block _ _ _ (by simp), World.ownsRow_nil _ _ _ _, by simp [Value.ownBlock]⟩
      · exact ((Below.refl _ w).alloc (by simp) _).alloc (by simp) _
    case round =>
      obtain ⟨k, acc, hk1, hk2, hgk, hacc, rfl, HR, HBd, HBl⟩ := hrel
      have hal : (Lib.byteCells acc).length = acc.length := by simp [Lib.byteCells]
      by_cases hlt : k < s.size
      · obtain ⟨c, hc, hcd⟩ := byte_at s k hlt
        have hlt' : (k : Int) < (s.size : Int) := by omega
        rw [hcd] at HR
        by_cases hcq : c = q
        · subst hcq
          by_cases hk3 : k + 1 < s.size
          · obtain ⟨d, hdb, hdd⟩ := byte_at s (k + 1) hk3
            have hk3' : (k : Int) + 1 < (s.size : Int) := by omega
            rw [hdd] at HR
            by_cases hdq : d = c
            · subst hdq
              have N : Hid ((Lx.quo false d (s.data.toList.drop (k + 1 + 1))).map (Lx.upd (acc ++ [d]) (k + 2)) = Q) := by
                show _ = Q
                rw [← HR.out, Lx.quo_dbl, Lx.upd_upd]
              clear HR hcd hdd
              go_wp2_with (go_at_call 45; refine (writeByte_any w.heap.size _ (Lib.byteCells acc) d.toNat _ HBd.out (by rw [hal]; omega) HBl.out.size).mono ?_; rintro e w1 ⟨rfl, hbd, hbl⟩; rw [byteCells_snoc] at hbd; replace hbd : Hid (_) := hbd; replace hbl : Hid (_) := hbl)
              go_roundg (gk - 1)
              case measure => omega
              case rel => exact ⟨k + 1 + 1, acc ++ [d], by omega, by omega, by omega, by simp; omega, by go_num, N, Or.inr hbd.out, HBl.out.trans hbl.out⟩
            · have hne : ((d.toNat : Int) == (c.toNat : Int)) = false := by rw [beq_eq_false_iff_ne]; exact fun h => hdq (nat_eq h)
              have FIN : Hid (Q = some (acc, k + 1)) := by
                show Q = _
                rw [← HR.out, Lx.quo_end _ _ _ _ hdq]
                simp only [Option.map_some, Lx.upd, List.append_nil, Option.some.injEq, Prod.mk.injEq, true_and]; omega
              clear HR hcd hdd
              go_wp2_with (go_at_call 46; refine (Tryd.Builder_String_any w.heap.size _ acc _ HBd.out HBl.out.size).mono ?_; rintro e w1 ⟨rfl, hbl⟩; replace hbl : Hid (_) := hbl)
              go_ret3
              exact ⟨by rw [FIN.out]; simp [quotedVal], HBl.out.trans hbl.out⟩
          · have hk3' : decide ((k : Int) + 1 < (s.size : Int)) = false := by simp; omega
            have FIN : Hid (Q = some (acc, k + 1)) := by
              show Q = _
              rw [← HR.out, drop_end s (k + 1) (by omega), Lx.quo_one]
              simp only [Option.map_some, Lx.upd, List.append_nil, Option.some.injEq, Prod.mk.injEq, true_and]; omega
            clear HR hcd
            go_wp2_with (go_at_call 46; refine (Tryd.Builder_String_any w.heap.size _ acc _ HBd.out HBl.out.size).mono ?_; rintro e w1 ⟨rfl, hbl⟩; replace hbl : Hid (_) := hbl)
            go_ret3
            exact ⟨by rw [FIN.out]; simp [quotedVal], HBl.out.trans hbl.out⟩
        · have hneq : ((c.toNat : Int) == (q.toNat : Int)) = false := by rw [beq_eq_false_iff_ne]; exact fun h => hcq (nat_eq h)
          by_cases hpl : c ≠ 92 ∨ false = false ∨ s.size ≤ k + 1
          · have N : Hid ((Lx.quo false q (s.data.toList.drop (k + 1))).map (Lx.upd (acc ++ [c]) (k + 1)) = Q) := by
              show _ = Q
              rw [← HR.out, Lx.quo_plain _ _ _ _ hcq (by rcases hpl with h | h | h; exact Or.inl h; exact Or.inr (Or.inl h); exact Or.inr (Or.inr (drop_end s (k + 1) h))), Lx.upd_upd]
            have sp : (((c.toNat : Int) == 92) = true) ∨ (((c.toNat : Int) == 92) = false) := by
              by_cases h92 : c = 92
              · subst h92
                exact Or.inl rfl
              · right; rw [beq_eq_false_iff_ne]; exact fun h => h92 (nat_eq h)
            clear HR hcd hpl hcq
            rcases sp with sp | sp
            all_goals
              go_wp2_with (go_at_call 45; refine (writeByte_any w.heap.size _ (Lib.byteCells acc) c.toNat _ HBd.out (by rw [hal]; omega) HBl.out.size).mono ?_; rintro e w1 ⟨rfl, hbd, hbl⟩; rw [byteCells_snoc] at hbd; replace hbd : Hid (_) := hbd; replace hbl : Hid (_) := hbl)
              go_roundg (gk - 1)
              case measure => omega
              case rel => exact ⟨k + 1, acc ++ [c], by omega, by omega, by omega, by simp; omega, by go_num, N, Or.inr hbd.out, HBl.out.trans hbl.out⟩
          · exact absurd (Or.inr (Or.inl rfl)) hpl
      · have hge : decide (k < s.size) = false := by simp; omega
        have hge' : decide ((k : Int) < (s.size : Int)) = false := by simp; omega
        have FIN : Hid (Q = none) := by
          show Q = none
          rw [← HR.out, drop_end s k (by omega), Lx.quo_nil]; rfl
        clear HR
        go_wp2
        go_ret3
        exact ⟨by rw [FIN.out]; rfl, HBl.out⟩

end Go.Proofs.Qxb6613163aDoor
