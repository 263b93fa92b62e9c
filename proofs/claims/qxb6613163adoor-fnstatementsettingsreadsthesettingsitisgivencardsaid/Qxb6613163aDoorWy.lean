/-
  THE WALK of the law (5).
-/
import Derived.Test.Qxb6613163aDoorWx
namespace Go.Proofs.Qxb6613163aDoor
open Go.RowKit

set_option maxHeartbeats 16000000 in
set_option maxRecDepth 100000 in
theorem law_any (w : World) (m : Int) (hm : w.cell? ⟨5, 0, none⟩ = some (.int .i64 m)) (oa ob : Option Addr) (n cap nv cv : Nat) (N : Nat → ByteArray) (V : Nat → Nat) (text : ByteArray) (b1 b2 b3 : Bool)
    (hcap : n ≤ cap) (hcapm : cap ≤ maxLen) (hcv : nv ≤ cv) (_hcvm : cv ≤ maxLen) (_htl : text.size ≤ maxLen)
    (hoa : Hid (0 < n → ∃ a, oa = some a)) (hob : Hid (0 < nv → ∃ a, ob = some a))
    (hN : Hid (∀ a, oa = some a → ∀ i, i < n → w.cell? (a.add i) = some (.string (N i)))) (hNl : Hid (∀ i, i < n → (N i).size ≤ maxLen))
    (hV : Hid (∀ a, ob = some a → ∀ i, i < nv → w.cell? (a.add i) = some (.int .u64 (V i)))) (hVl : Hid (∀ i, i < nv → V i < 18446744073709551616)) :
    Calls Tryd.prog 5 #[.slice oa n cap, .slice ob nv cv, .string text, .bool b1, .bool b2, .bool b3] w fun e w' => e = .returned (.bool true) ∧ Below w.heap.size w w' := by
  have hml : maxLen ≤ 9223372036854775807 := by unfold maxLen; omega
  obtain ⟨i5, hi5, z5a, z5b, z5c⟩ := info_parts Tryd.info5
  obtain ⟨i3, hi3, z3a, z3b, z3c⟩ := info_parts Tryd.info3
  obtain ⟨i9, hi9, z9a, z9b, z9c⟩ := info_parts Tryd.info9
  have Z : Hid (_) := zzBytes_any w oa n cap N ob nv cv text b1 b2 b3 hoa hN hNl
  replace hm : Hid (_) := hm
  go_enter Tryd.func5, Tryd.ntmps5
  go_wp2_with fail
  refine Calls.mono Z.out ?_
  rintro e w1 ⟨⟨zb, rfl⟩, rfl⟩
  cases zb
  · go_wp2
    go_ret
    exact ⟨rfl, Below.refl _ _⟩
  by_cases h1 : text.size ≤ 1048576
  case neg =>
    have d1 : decide (1048576 < text.size) = true := by simp; omega
    have d1' : decide ((1048576 : Int) < (text.size : Int)) = true := by simp; omega
    go_wp2
    go_ret
    exact ⟨rfl, Below.refl _ _⟩
  by_cases h2 : nv ≤ 131072
  case neg =>
    have d1 : decide (1048576 < text.size) = false := by simp; omega
    have d2 : decide (131072 < nv) = true := by simp; omega
    have d2' : decide ((131072 : Int) < (nv : Int)) = true := by simp; omega
    go_wp2
    go_ret
    exact ⟨rfl, Below.refl _ _⟩
  have d1 : decide (1048576 < text.size) = false := by simp; omega
  have d2 : decide (131072 < nv) = false := by simp; omega
  by_cases h3 : text.size + 8 * nv ≤ 1048576
  case neg =>
    have d3 : decide ((1048576 : Int) < (text.size : Int) + 8 * (nv : Int)) = true := by simp; omega
    go_wp2
    go_ret
    exact ⟨rfl, Below.refl _ _⟩
  have d3 : decide ((1048576 : Int) < (text.size : Int) + 8 * (nv : Int)) = false := by simp; omega
  clear Z
  go_wp2
  go_loopg [14, 13] n (fun q i z wr => ∃ (k tot : Nat), k ≤ n ∧ n ≤ k + q ∧ i = .int .i64 k ∧ z = .int .i64 tot ∧ tot ≤ 1048576 ∧ Hid (tot = text.size + 8 * nv + sumN N k) ∧ wr = w1)
  case atStart => exact ⟨0, text.size + 8 * nv, by omega, by omega, rfl, by go_num, h3, rfl, rfl⟩
  case round =>
    obtain ⟨k, tot, hk, hq, rfl, rfl, htot, HT, rfl⟩ := hrel
    by_cases hlt : k < n
    · obtain ⟨a, rfl⟩ := hoa.out (by omega)
      have hc := hN.out a rfl k hlt
      have hs := hNl.out k hlt
      have hlt' : (k : Int) < (n : Int) := by omega
      by_cases h4 : (N k).size ≤ 1048576
      · have d4 : decide (1048576 < (N k).size) = false := by simp; omega
        by_cases h5 : tot + (16 + (N k).size) ≤ 1048576
        · have d5 : decide ((1048576 : Int) < (tot : Int) + (16 + ((N k).size : Int))) = false := by simp; omega
          have NT : Hid (tot + (16 + (N k).size) = text.size + 8 * nv + sumN N (k + 1)) := by
            show _ = _
            have := HT.out
            simp only [sumN]; omega
          go_wp2
          go_roundg (gk - 1)
          case measure => omega
          case rel => exact ⟨k + 1, tot + (16 + (N k).size), by omega, by omega, by go_num, by go_num, h5, NT, rfl⟩
        · have d5 : decide ((1048576 : Int) < (tot : Int) + (16 + ((N k).size : Int))) = true := by simp; omega
          go_wp2
          go_ret
          exact ⟨rfl, Below.refl _ _⟩
      · have d4 : decide (1048576 < (N k).size) = true := by simp; omega
        go_wp2
        go_ret
        exact ⟨rfl, Below.refl _ _⟩
    · have hge : decide (k < n) = false := by simp; omega
      have hge' : decide ((k : Int) < (n : Int)) = false := by simp; omega
      obtain rfl : k = n := by omega
      by_cases h6 : k = 0 ∨ k ≠ nv
      · have hsp : ((k : Int) == 0) = true ∨ (((k : Int) == 0) = false ∧ ((k : Int) != (nv : Int)) = true) := by
          by_cases h0 : k = 0
          · left; rw [h0]; rfl
          · right; exact ⟨by rw [beq_eq_false_iff_ne]; omega, by rw [bne_iff_ne]; omega⟩
        rcases hsp with e0 | ⟨e0, e1⟩
        all_goals
          go_wp2
          go_ret
          exact ⟨rfl, Below.refl _ _⟩
      · have e0 : ((k : Int) == 0) = false := by rw [beq_eq_false_iff_ne]; omega
        obtain rfl : k = nv := by omega
        have hk0 : 0 < k := by omega
        obtain ⟨a, rfl⟩ := hoa.out hk0
        obtain ⟨b, rfl⟩ := hob.out hk0
        have HN : Hid (∀ i, i < k → wr.cell? (a.add i) = some (.string (N i))) := hN.out a rfl
        have HV : Hid (∀ i, i < k → wr.cell? (b.add i) = some (.int .u64 (V i))) := hV.out b rfl
        clear h6 hoa hob hN hV
        go_wp2
        go_loopg [15] k (fun q i wr2 => ∃ j : Nat, j ≤ k ∧ k ≤ j + q ∧ i = .int .i64 j ∧ Hid (∀ i, i < j → NameP (N i)) ∧ wr2 = wr)
        case atStart => exact ⟨0, by omega, by omega, rfl, fun i h => by omega, rfl⟩
        case round =>
          obtain ⟨j, hj, hq2, rfl, HP, rfl⟩ := hrel
          by_cases hlt : j < k
          · have hc := HN.out j hlt
            have hlt' : (j : Int) < (k : Int) := by omega
            have NO : Hid (_) := nameOK_any (N j) wr (by have h1 := sum_ge N k j hlt; have h2 := HT.out; omega)
            go_wp2_with fail
            refine Calls.mono NO.out ?_
            rintro e w2 ⟨⟨bb, rfl, hbb⟩, rfl⟩
            replace hbb : Hid (_) := hbb
            cases bb
            · go_wp2
              go_ret
              exact ⟨rfl, Below.refl _ _⟩
            · have NP : Hid (∀ i, i < j + 1 → NameP (N i)) := fun i hi => by
                rcases Nat.lt_or_ge i j with h | h
                · exact HP.out i h
                · obtain rfl : i = j := by omega
                  exact hbb.out rfl
              go_wp2
              go_roundg (gk - 1)
              case measure => omega
              case rel => exact ⟨j + 1, by omega, by omega, by go_num, NP, rfl⟩
          · have hge2 : decide (j < k) = false := by simp; omega
            have hge3 : decide ((j : Int) < (k : Int)) = false := by simp; omega
            obtain rfl : j = k := by omega
            obtain ⟨W0, rfl⟩ : ∃ W, W = wr := ⟨wr, rfl⟩
            go_wp2_with fail
            refine (lexerOf_any b1 b2 b3 _).mono ?_
            rintro e w2 ⟨rfl, hb2⟩
            have hs2 : W0.heap.size ≤ w2.heap.size := hb2.size
            replace hb2 : Hid (_) := hb2
            go_wp2_with (at_builtin; refine Lib.wpList_append_own_string _ rfl _ _ 41 9 rfl W0.heap.size 5 i5 Tryd.underlying41 Tryd.underlying9 hi5 z5a z5b z5c _ _ _ rfl (World.ownsRow_nil _ _ _ _) ⟨#[83, 69, 84, 32, 83, 84, 65, 84, 69, 77, 69, 78, 84, 32]⟩ rfl ?p1 ?p2 ?p3 ?_)
            case p1 => unfold maxLen; decide
            case p2 => decide
            case p3 => simp; omega
            intro bv1 w3 ho1 hg1 _
            have hs3 : w2.heap.size + 1 ≤ w3.heap.size := by have := hg1.size; simpa using this
            replace ho1 : Hid (_) := ho1
            replace hg1 : Hid (_) := hg1
            obtain ⟨ao1, nn1, cp1, rfl⟩ : ∃ ao nn cp, bv1 = .slice ao nn cp := by
              rcases ho1.out.2 with ⟨h, hn⟩ | ⟨g, cp, cur, h, _⟩
              · exact ⟨_, _, _, h⟩
              · exact ⟨_, _, _, h⟩
            go_wp2_with (at_make; refine wpList_make_full _ rfl _ _ 42 rfl W0.heap.size 3 i3 _ 1 Tryd.underlying42 hi3 z3a z3b _ _ _ _ j rfl rfl rfl rfl ?q1 ?q2 ?q3 ?_)
            case q1 => rw [z3c]; omega
            case q2 => unfold maxLen; omega
            case q3 => omega
            intro w4 o4 g4
            have hs4 := g4.size
            replace o4 : Hid (_) := o4
            replace g4 : Hid (_) := g4
            go_wp2_with (at_make; refine wpList_make_full _ rfl _ _ 38 rfl W0.heap.size 9 i9 _ 1 Tryd.underlying38 hi9 z9a z9b _ _ _ _ j rfl rfl rfl rfl ?r1 ?r2 ?r3 ?_)
            case r1 => rw [z9c]; omega
            case r2 => unfold maxLen; omega
            case r3 => omega
            intro w5 o5 g5
            obtain ⟨cn, cd, ST, hcn, hcd⟩ := St.start hb2.out hg1.out ho1.out rfl rfl g4.out o4.out g5 o5
            replace ST : Hid (_) := ST
            generalize w2.heap.size = L at ST
            clear o4 g4 o5 g5 ho1 hg1 hb2 hs4 hs3 hs2
            generalize w3.heap.size = gN at ST
            generalize w4.heap.size = gD at ST
            go_wp2
            go_loopg [20, 17] j (fun q jv bv wr3 => ∃ (p : Nat) (cn cd : Array Value), p ≤ j ∧ j ≤ p + q ∧ jv = .int .i64 p ∧ cn.size = j ∧ cd.size = j ∧ Hid (St W0 wr3 L gN gD #[.bool b1, .bool b2, .bool b3] bv (wHead ++ Lx.joinT (itemsOf N V p)) cn cd) ∧ Hid (∀ i, i < p → cn[i]? = some (.int .i64 (numP N V i))) ∧ Hid (∀ i, i < p → cd[i]? = some (.string ⟨(digs (V i)).toArray⟩)))
            case atStart => exact ⟨0, cn, cd, by omega, by omega, rfl, hcn, hcd, by simpa [itemsOf, Lx.joinT, Lx.itemsText] using ST, fun i h => by omega, fun i h => by omega⟩
            case round =>
              clear ST hcn hcd
              obtain ⟨p, cn, cd, hp, hq3, rfl, hcn, hcd, ST, HCn, HCd⟩ := hrel
              have hbl : Hid ((wHead ++ Lx.joinT (itemsOf N V p)).length = 14 + Lx.itemsLen (itemsOf N V p)) := by
                show _ = _
                rw [List.length_append, Lx.join_len]; rfl
              have hsj : sumN N j + 8 * j + text.size ≤ 1048576 := by have := HT.out; omega
              have hsm := sum_mono N j p hp
              have hb0 : (wHead ++ Lx.joinT (itemsOf N V p)).length ≤ 1048590 := by
                have h1 := hbl.out
                have hil := itemsLen_le N V p
                omega
              have hb00 : 0 < (wHead ++ Lx.joinT (itemsOf N V p)).length := by have := hbl.out; omega
              obtain ⟨bs, hbs⟩ : ∃ bs, bs = wHead ++ Lx.joinT (itemsOf N V p) := ⟨_, rfl⟩
              rw [← hbs] at ST hb0 hb00 hbl
              replace hbs : Hid (_) := hbs
              have hwr := ST.out.base
              by_cases hlt : p < j
              · have hlt' : (p : Int) < (j : Int) := by omega
                have hNp : (N p).size ≤ 1048576 := by have := sum_ge N j p hlt; omega
                go_upto_if 114 with fail
                go_cut [17] from 107 to 142 (fun bv wx => ∃ bs1, Hid (bs1 = bs ++ sepOf p) ∧ Hid (St W0 wx L gN gD #[.bool b1, .bool b2, .bool b3] bv bs1 cn cd))
                case first =>
                  by_cases hp0 : p = 0
                  · have d0 : decide (0 < p) = false := by simp; omega
                    have d0' : decide ((0 : Int) < (p : Int)) = false := by simp; omega
                    have N0 : Hid (St W0 wr L gN gD #[.bool b1, .bool b2, .bool b3] u17 (bs ++ sepOf p) cn cd) := by
                      have := ST.out
                      show St _ _ _ _ _ _ _ _ _ _
                      rwa [sepOf, if_pos hp0, List.append_nil]
                    go_wp2
                    go_meet
                    case rel => exact ⟨_, rfl, N0⟩
                  · have d0 : decide (0 < p) = true := by simp; omega
                    have d0' : decide ((0 : Int) < (p : Int)) = true := by simp; omega
                    have hsp : Hid (sepOf p = [44, 32]) := by show _ = _; rw [sepOf, if_neg hp0]
                    go_wp2_with (at_builtin; refine Lib.wpList_append_own_string _ rfl _ _ 41 9 rfl W0.heap.size 5 i5 Tryd.underlying41 Tryd.underlying9 hi5 z5a z5b z5c _ _ _ rfl ST.out.own ⟨#[44, 32]⟩ rfl ?s1 ?s2 ?s3 ?_)
                    case s1 => show _ + 2 ≤ maxLen; unfold maxLen; omega
                    case s2 => show _ + 2 ≤ _; omega
                    case s3 => exact hwr
                    intro bv2 w6 ho6 hg6 _
                    have N0 : Hid (St W0 w6 L gN gD #[.bool b1, .bool b2, .bool b3] bv2 (bs ++ sepOf p) cn cd) := by
                      have := ST.out.appStr ⟨#[44, 32]⟩ hg6 ho6
                      show St _ _ _ _ _ _ _ _ _ _
                      rw [hsp.out]
                      exact this
                    clear ho6 hg6
                    go_wp2
                    go_meet
                    case rel => exact ⟨_, rfl, N0⟩
                case rest =>
                  obtain ⟨bs1, hbs1, S5⟩ := hcut
                  have hwc := S5.out.base
                  have hc : wc.cell? (a.add p) = some (.string (N p)) := cell_kept S5.out.below (HN.out p hlt)
                  have hl1 : bs1.length ≤ 1048592 := by
                    rw [hbs1.out, List.length_append]
                    have : (sepOf p).length ≤ 2 := by unfold sepOf; split <;> simp
                    omega
                  go_wp2_with (at_builtin; refine Lib.wpList_append_own_string _ rfl _ _ 41 9 rfl W0.heap.size 5 i5 Tryd.underlying41 Tryd.underlying9 hi5 z5a z5b z5c _ _ _ rfl S5.out.own (N p) rfl ?t1 ?t2 ?t3 ?_)
                  case t1 => unfold maxLen; omega
                  case t2 => omega
                  case t3 => exact hwc
                  intro bv2 w6 ho6 hg6 _
                  obtain ⟨bs2, hbs2, S6⟩ : ∃ bs2, Hid (bs2 = bs1 ++ (N p).data.toList) ∧ Hid (St W0 w6 L gN gD #[.bool b1, .bool b2, .bool b3] bv2 bs2 cn cd) := ⟨_, rfl, S5.out.appStr (N p) hg6 ho6⟩
                  have hl2 : bs2.length ≤ 2097168 := by
                    rw [hbs2.out, app_len]
                    omega
                  have hw6 := S6.out.base
                  clear ho6 hg6 hc
                  obtain ⟨ao2, nn2, cp2, rfl⟩ : ∃ ao nn cp, bv2 = .slice ao nn cp := by
                    rcases S6.out.own.2 with ⟨h, hn⟩ | ⟨g, cp, cur, h, _⟩
                    · exact ⟨_, _, _, h⟩
                    · exact ⟨_, _, _, h⟩
                  go_wp2_with (at_builtin; refine wpList_append_own _ rfl _ _ 41 rfl W0.heap.size 5 i5 _ 1 1 Tryd.underlying41 hi5 z5a z5b z5c rfl (by decide) _ _ _ rfl (S6.out.own.alloc _) ⟨w6.heap.size, 0, none⟩ 1 1 [.int .u8 61] rfl rfl ?c1 ?c2 ?c3 ?c4 ?c5 ?_)
                  case c1 => exact cells_new_at w6 _ [.int .u8 61] 5 rfl
                  case c2 => intro u hu; simp at hu; subst hu; rfl
                  case c3 => unfold maxLen; omega
                  case c4 => omega
                  case c5 => simp; omega
                  intro bv3 w7 ho7 hg7 _
                  obtain ⟨bs3, hbs3, S7⟩ : ∃ bs3, Hid (bs3 = bs2 ++ [61]) ∧ Hid (St W0 w7 L gN gD #[.bool b1, .bool b2, .bool b3] bv3 bs3 cn cd) := ⟨bs2 ++ [61], (rfl : bs2 ++ [61] = bs2 ++ [61]), (S6.out.all _).app [61] hg7 _ _ ho7 rfl rfl⟩
                  have hl3 : bs3.length ≤ 2097169 := by
                    rw [hbs3.out, List.length_append]
                    simp; omega
                  have hl30 : 0 < bs3.length := by rw [hbs3.out]; simp
                  have hw7 := S7.out.base
                  clear ho7 hg7
                  obtain ⟨g3, cp3, rfl⟩ := S7.out.shape hl30
                  have hv : w7.cell? (b.add p) = some (.int .u64 (V p)) := cell_kept S7.out.below (HV.out p hlt)
                  have IT : Hid (_) := itoa_any (V p) w7 (hVl.out p hlt)
                  go_wp2_with fail
                  refine Calls.mono IT.out ?_
                  rintro e w8 ⟨rfl, hb8⟩
                  have S8 : Hid (_) := S7.out.bel hb8
                  have hw8 := S8.out.base
                  clear hb8 IT hv
                  have kD : ∃ u, w8.cell? ⟨gD, p, none⟩ = some u := by
                    rw [cell_of_row w8 _ _ _ 9 (0, 0) S8.out.dig]
                    exact ⟨cd[p], Array.getElem?_eq_getElem (by omega)⟩
                  obtain ⟨uD, kD⟩ := kD
                  have fD : w8.frozen? ⟨gD, p, none⟩ = false := frozen_of_row w8 _ p _ 9 S8.out.dig
                  have kN : ∃ u, w8.cell? ⟨gN, p, none⟩ = some u := by
                    rw [cell_of_row w8 _ _ _ 3 (0, 0) S8.out.num]
                    exact ⟨cn[p], Array.getElem?_eq_getElem (by omega)⟩
                  obtain ⟨uN, kN⟩ := kN
                  have fN : w8.frozen? ⟨gN, p, none⟩ = false := frozen_of_row w8 _ p _ 3 S8.out.num
                  have hne : gN ≠ gD := block_ne S8.out.num S8.out.dig (by decide)
                  have hne' : gD ≠ gN := Ne.symm hne
                  obtain ⟨ds, hds⟩ : ∃ ds, digs (V p) = ds := ⟨_, rfl⟩
                  have hdl : ds.length ≤ 20 := by rw [← hds]; exact (digs_good (V p)).2.2
                  rw [hds]
                  replace hds : Hid (_) := hds
                  have S9 : Hid (_) := (S8.out.setD p (.string ⟨ds.toArray⟩)).setN p (.int .i64 bs3.length)
                  go_wp2_with (at_builtin; refine Lib.wpList_append_own_string _ rfl _ _ 41 9 rfl W0.heap.size 5 i5 Tryd.underlying41 Tryd.underlying9 hi5 z5a z5b z5c _ _ _ rfl S9.out.own ⟨ds.toArray⟩ rfl ?v1 ?v2 ?v3 ?_)
                  case v1 => show _ + ds.length ≤ _; unfold maxLen; omega
                  case v2 => show _ + ds.length ≤ _; omega
                  case v3 => exact S9.out.base
                  intro bv4 w10 ho10 hg10 _
                  have S10 : Hid (St W0 w10 L gN gD #[.bool b1, .bool b2, .bool b3] bv4 (wHead ++ Lx.joinT (itemsOf N V (p + 1))) (cn.setIfInBounds p (.int .i64 bs3.length)) (cd.setIfInBounds p (.string ⟨ds.toArray⟩))) := by
                    have := S9.out.appStr ⟨ds.toArray⟩ hg10 ho10
                    show St _ _ _ _ _ _ _ _ _ _
                    rw [join_step, hds.out]
                    rw [hbs3.out, hbs2.out, hbs1.out, hbs.out] at this
                    rw [hbs3.out, hbs2.out, hbs1.out, hbs.out]
                    simpa only [List.append_assoc] using this
                  have hnum : Hid (bs3.length = numP N V p) := by
                    show _ = _
                    rw [hbs3.out, List.length_append, hbs2.out, app_len, hbs1.out, List.length_append, hbl.out]
                    unfold numP sepOf
                    split <;> simp
                  have HCn' : Hid (∀ i, i < p + 1 → (cn.setIfInBounds p (.int .i64 bs3.length))[i]? = some (.int .i64 (numP N V i))) := fun i hi => by
                    rcases Nat.lt_or_ge i p with h | h
                    · rw [Array.getElem?_setIfInBounds_ne (by omega)]; exact HCn.out i h
                    · obtain rfl : i = p := by omega
                      rw [Array.getElem?_setIfInBounds_self_of_lt (by omega), hnum.out]
                  have HCd' : Hid (∀ i, i < p + 1 → (cd.setIfInBounds p (.string ⟨ds.toArray⟩))[i]? = some (.string ⟨(digs (V i)).toArray⟩)) := fun i hi => by
                    rcases Nat.lt_or_ge i p with h | h
                    · rw [Array.getElem?_setIfInBounds_ne (by omega)]; exact HCd.out i h
                    · obtain rfl : i = p := by omega
                      rw [Array.getElem?_setIfInBounds_self_of_lt (by omega), hds.out]
                  clear ho10 hg10 S9 S8 S7 S6 S5 kD kN fD fN
                  obtain ⟨ao4, nn4, cp4, rfl⟩ : ∃ ao nn cp, bv4 = .slice ao nn cp := by
                    rcases S10.out.own.2 with ⟨h, hn⟩ | ⟨g, cp, cur, h, _⟩
                    · exact ⟨_, _, _, h⟩
                    · exact ⟨_, _, _, h⟩
                  go_wp2
                  go_roundg (gk - 1)
                  case measure => omega
                  case rel => exact ⟨p + 1, _, _, by omega, by omega, by go_num, by simp; omega, by simp; omega, S10, HCn', HCd'⟩
              · have hge4 : decide (p < j) = false := by simp; omega
                have hge5 : decide ((p : Int) < (j : Int)) = false := by simp; omega
                obtain rfl : p = j := by omega
                go_wp2_with (at_builtin; refine Lib.wpList_append_own_string _ rfl _ _ 41 9 rfl W0.heap.size 5 i5 Tryd.underlying41 Tryd.underlying9 hi5 z5a z5b z5c _ _ _ rfl ST.out.own ⟨#[32, 70, 79, 82, 32]⟩ rfl ?x1 ?x2 ?x3 ?_)
                case x1 => show _ + 5 ≤ _; unfold maxLen; omega
                case x2 => show _ + 5 ≤ _; omega
                case x3 => exact hwr
                intro bv2 w6 ho6 hg6 _
                obtain ⟨bs2, hbs2, S6⟩ : ∃ bs2, Hid (bs2 = bs ++ [32, 70, 79, 82, 32]) ∧ Hid (St W0 w6 L gN gD #[.bool b1, .bool b2, .bool b3] bv2 bs2 cn cd) := ⟨bs ++ [32, 70, 79, 82, 32], (rfl : bs ++ [32, 70, 79, 82, 32] = bs ++ [32, 70, 79, 82, 32]), ST.out.appStr _ hg6 ho6⟩
                have hl2 : Hid (bs2.length = 14 + Lx.itemsLen (itemsOf N V p) + 5) := by
                  show _ = _
                  rw [hbs2.out, List.length_append, hbl.out]; rfl
                have hl20 : 19 ≤ bs2.length := by rw [hl2.out]; omega
                have hl21 : bs2.length ≤ 1048595 := by rw [hl2.out, ← hbl.out]; omega
                have hw6 := S6.out.base
                clear ho6 hg6
                obtain ⟨g2, cp2, rfl⟩ := S6.out.shape (by omega)
                go_wp2_with (at_builtin; refine Lib.wpList_append_own_string _ rfl _ _ 41 9 rfl W0.heap.size 5 i5 Tryd.underlying41 Tryd.underlying9 hi5 z5a z5b z5c _ _ _ rfl S6.out.own text rfl ?y1 ?y2 ?y3 ?_)
                case y1 => unfold maxLen; omega
                case y2 => omega
                case y3 => exact hw6
                intro bv3 w7 ho7 hg7 _
                obtain ⟨bs3, hbs3, S7⟩ : ∃ bs3, Hid (bs3 = bs2 ++ text.data.toList) ∧ Hid (St W0 w7 L gN gD #[.bool b1, .bool b2, .bool b3] bv3 bs3 cn cd) := ⟨bs2 ++ text.data.toList, (rfl : bs2 ++ text.data.toList = bs2 ++ text.data.toList), S6.out.appStr text hg7 ho7⟩
                have hl3 : bs3.length ≤ 2097171 := by
                  rw [hbs3.out, app_len]; omega
                have hl30 : 0 < bs3.length := by rw [hbs3.out, app_len]; omega
                clear ho7 hg7
                obtain ⟨g3, cp3, rfl⟩ := S7.out.shape hl30
                have hconv : (convert 41 9 (.slice (some ⟨g3, 0, none⟩) bs3.length cp3)).run Tryd.prog w7 = .ok (.string ⟨bs3.toArray⟩) w7 :=
                  Lib.run_convert_whole (P := Tryd.prog) w7 41 5 9 Tryd.underlying41 Tryd.underlying5 Tryd.underlying9 g3 0 ⟨bs3.toArray⟩ S7.out.bytes cp3
                have hw7 := S7.out.base
                have lx0 : w7.cell? ⟨L, 0, none⟩ = some (.bool b1) := by rw [cell_of_row w7 _ _ _ 26 (0, 0) S7.out.box]; rfl
                have lx1 : w7.cell? ⟨L, 1, none⟩ = some (.bool b2) := by rw [cell_of_row w7 _ _ _ 26 (0, 0) S7.out.box]; rfl
                have lx2 : w7.cell? ⟨L, 2, none⟩ = some (.bool b3) := by rw [cell_of_row w7 _ _ _ 26 (0, 0) S7.out.box]; rfl
                have hm7 := cell_kept S7.out.below hm.out
                have SH : Hid (_) := settings_head ⟨b1, b2, b3⟩ (itemsOf N V p) text.data.toList ⟨bs3.toArray⟩ (by show bs3 = _; rw [hbs3.out, hbs2.out, hbs.out, head_eq]) (by show bs3.length ≤ _; omega) (by rw [Ne, itemsOf_nil]; omega) (good_items N V p HP.out) m w7 hm7
                clear hm7
                go_wp2_with fail
                refine Calls.mono SH.out ?_
                rintro e w8 ⟨⟨rs, vt, B, cs, rfl, hown8, hsets8, hvt8⟩, hb8⟩
                rw [itemsOf_len] at hown8
                obtain ⟨g4, cp4, rfl⟩ : ∃ g cap, rs = .slice (some ⟨g, 0, none⟩) p cap := by
                  rcases hown8.2 with ⟨_, h0⟩ | ⟨g, cap, cur, hv, _⟩
                  · omega
                  · exact ⟨g, cap, hv⟩
                have S8 : Hid (_) := S7.out.bel hb8
                have RD : Hid (∀ i, i < p → Rd w8 N V g4 gN gD i) := fun i hi => rd_of hown8 hsets8 S8.out.num S8.out.dig hi (HCn.out i hi) (HCd.out i hi)
                have VT : Hid (Reads w8 vt ((Lx.toks ⟨b1, b2, b3⟩ text.data.toList).map (Lx.Tok.shift bs2.length))) := by
                  show Reads _ _ _
                  rw [hl2.out]; exact hvt8
                have B8 : Hid (Below W0.heap.size W0 w8) := S8.out.below
                have M8 : Hid (_) := cell_kept B8.out hm.out
                have hw8 := S8.out.base
                have lx0 : w8.cell? ⟨L, 0, none⟩ = some (.bool b1) := by rw [cell_of_row w8 _ _ _ 26 (0, 0) S8.out.box]; rfl
                have lx1 : w8.cell? ⟨L, 1, none⟩ = some (.bool b2) := by rw [cell_of_row w8 _ _ _ 26 (0, 0) S8.out.box]; rfl
                have lx2 : w8.cell? ⟨L, 2, none⟩ = some (.bool b3) := by rw [cell_of_row w8 _ _ _ 26 (0, 0) S8.out.box]; rfl
                clear hown8 hsets8 hvt8 hb8 SH S7 S8 S6 ST HCn HCd hconv
                obtain ⟨T0, hT0⟩ : ∃ T0, Lx.toks ⟨b1, b2, b3⟩ text.data.toList = T0 := ⟨_, rfl⟩
                have hTb := toks_bound ⟨b1, b2, b3⟩ text.data.toList.length text.data.toList (Nat.le_refl _)
                have htl2 : text.data.toList.length = text.size := Array.length_toList
                rw [hT0, htl2] at hTb
                rw [hT0] at VT
                have hTl : T0.length ≤ 1048576 := by omega
                have HTb : Hid (∀ t ∈ T0.map (Lx.Tok.shift 2), t.lo ≤ 1073741824 ∧ t.hi ≤ 1073741824) := fun t ht => by
                  rw [List.mem_map] at ht
                  obtain ⟨u, hu, rfl⟩ := ht
                  have := hTb.2 u hu
                  simp only [Lx.Tok.shift]
                  omega
                have TX : Hid (_) := tokens_x ⟨b1, b2, b3⟩ (⟨#[120, 32]⟩ ++ text) m w8 (by rw [x_size]; omega) M8.out (xTok :: T0.map (Lx.Tok.shift 2)) (by show _ = _; rw [x_text, Lx.toks_xtext, hT0]; rfl) xTok rfl x_ascii (by decide) x_kw
                clear hTb htl2 hT0
                go_wp2_with fail
                refine Calls.mono TX.out ?_
                rintro e w9 ⟨⟨wv, rfl, hwv⟩, hb9⟩
                have R9 : Hid (Reads w9 wv (xTok :: T0.map (Lx.Tok.shift 2))) := hwv
                have VT9 : Hid (Reads w9 vt (T0.map (Lx.Tok.shift bs2.length))) := VT.out.below hb9 (Nat.le_refl _)
                have RD9 : Hid (∀ i, i < p → Rd w9 N V g4 gN gD i) := fun i hi => (RD.out i hi).below hb9
                have B9 : Hid (Below W0.heap.size W0 w9) := B8.out.trans (hb9.mono hw8)
                clear hwv hb9 TX VT RD B8 M8 lx0 lx1 lx2
                go_wp2_with fail
                refine (leads_x w9 wv _ R9.out).mono ?_
                rintro e w10 ⟨rfl, hb10⟩
                have R10 : Hid (Reads w10 wv (xTok :: T0.map (Lx.Tok.shift 2))) := R9.out.below hb10 (Nat.le_refl _)
                have VT10 : Hid (Reads w10 vt (T0.map (Lx.Tok.shift bs2.length))) := VT9.out.below hb10 (Nat.le_refl _)
                have RD10 : Hid (∀ i, i < p → Rd w10 N V g4 gN gD i) := fun i hi => (RD9.out i hi).below hb10
                have B10 : Hid (Below W0.heap.size W0 w10) := B9.out.trans (hb10.mono B9.out.size)
                clear hb10 R9 VT9 RD9 B9
                obtain ⟨d, hd⟩ : ∃ d, bs2.length = d + 2 := ⟨bs2.length - 2, by omega⟩
                have hd2 : (bs2.length : Int) - 2 = (d : Int) := by omega
                have RE : Hid (_) := rest_any w10 wv (T0.map (Lx.Tok.shift 2)) d R10.out (by simp; omega) (by omega) HTb
                replace VT10 : Hid (Reads w10 vt (T0.map (Lx.Tok.shift (d + 2)))) := by
                  show Reads _ _ _
                  rw [← hd]; exact VT10.out
                replace hd : Hid (_) := hd
                go_wp2_with fail
                refine Calls.mono RE.out ?_
                rintro e w11 ⟨⟨rv, rfl, hrv⟩, hb11⟩
                have VT11 : Hid (Reads w11 vt (T0.map (Lx.Tok.shift (d + 2)))) := VT10.out.below hb11 (Nat.le_refl _)
                have R11 : Hid (Reads w11 rv (T0.map (Lx.Tok.shift (d + 2)))) := by
                  show Reads _ _ _
                  rw [← shift_two]; exact hrv
                have RD11 : Hid (∀ i, i < p → Rd w11 N V g4 gN gD i) := fun i hi => (RD10.out i hi).below hb11
                have B11 : Hid (Below W0.heap.size W0 w11) := B10.out.trans (hb11.mono B10.out.size)
                clear hb11 R10 VT10 RD10 B10 RE hrv
                go_wp2_with fail
                refine (same_yes w11 vt rv _ VT11.out R11.out (by simp; omega)).mono ?_
                rintro e w12 ⟨rfl, hb12⟩
                have RD12 : Hid (∀ i, i < p → Rd w12 N V g4 gN gD i) := fun i hi => (RD11.out i hi).below hb12
                have B12 : Hid (Below W0.heap.size W0 w12) := B11.out.trans (hb12.mono B11.out.size)
                clear hb12 R11 VT11 RD11 B11
                go_wp2
                go_loopg [26] p (fun q jv wr4 => ∃ i : Nat, i ≤ p ∧ p ≤ i + q ∧ jv = .int .i64 i ∧ Hid (Below w12.heap.size w12 wr4))
                case atStart => exact ⟨0, by omega, by omega, rfl, Below.refl _ _⟩
                case round =>
                  obtain ⟨i, hi, hq4, rfl, HB4⟩ := hrel
                  by_cases hlt : i < p
                  · obtain ⟨r1, r2, r3, g5, o5, c5, r4, r5, r6, r7, r8, r9, r10⟩ := (RD12.out i hlt).below HB4.out
                    have hlt' : (i : Int) < (p : Int) := by omega
                    have rn : wr.cell? (a.add i) = some (.string (N i)) := cell_kept (B12.out.trans (HB4.out.mono B12.out.size)) (HN.out i hlt)
                    have l1 : g4 < wr.heap.size := World.block_lt_of_cell? wr _ r1
                    have l2 : gD < wr.heap.size := World.block_lt_of_cell? wr _ r2
                    have l3 : gN < wr.heap.size := World.block_lt_of_cell? wr _ r3
                    have l4 : g5 < wr.heap.size := World.block_lt_of_cell? wr _ r6
                    have l5 : (a.add i).block < wr.heap.size := World.block_lt_of_cell? wr _ rn
                    have hnp : numP N V i ≤ 4194304 := by
                      have h1 := itemsLen_le N V i
                      have h2 := sum_mono N p i hi
                      have h3 := sum_ge N p i hlt
                      unfold numP
                      split <;> omega
                    generalize numP N V i = np at *
                    obtain ⟨ds, hds⟩ : ∃ ds, digs (V i) = ds := ⟨_, rfl⟩
                    have hdl : ds.length ≤ 20 := by rw [← hds]; exact (digs_good (V i)).2.2
                    rw [hds] at r2 r7 r10
                    clear hds
                    go_wp2_with fail
                    go_quiet (fail)
                    go_wp2_with fail
                    go_quiet (fail)
                    go_wp2
                    go_roundg (gk - 1)
                    case measure => omega
                    case rel => exact ⟨i + 1, by omega, by omega, by go_num, two_draws HB4.out _ _ _ _⟩
                  · have hge4 : decide (i < p) = false := by simp; omega
                    have hge5 : decide ((i : Int) < (p : Int)) = false := by simp; omega
                    go_wp2
                    go_ret
                    exact ⟨rfl, B12.out.trans (HB4.out.mono B12.out.size)⟩

end Go.Proofs.Qxb6613163aDoor
