/-
  THE ROUND of (Lexer).Next's loop (22), and Next itself.
-/
import Derived.Test.Qxb6613163aDoorWj
namespace Go.Proofs.Qxb6613163aDoor
open Go.RowKit

theorem lt_of_cell {w : World} {b j : Nat} {v : Value} (h : w.cell? ⟨b, j, none⟩ = some v) : b < w.heap.size := by
  rcases Nat.lt_or_ge b w.heap.size with h' | h'
  · exact h'
  · simp [World.cell?, Array.getElem?_eq_none h'] at h

theorem fr2 {x y : Int} (h : x = y) : some (Value.int .i64 x) = some (Value.int .i64 y) := by rw [h]

theorem line_cons (c : UInt8) (t s : List UInt8) (hs : s = c :: t) : Lx.lineAt s = (c == 35 || (Lib.hasPrefix s [45, 45] && Lx.ctlHead (s.drop 2))) := by subst hs; rfl

theorem ctl_int (d : UInt8) : (d ≤ 32 || d == 127 : Bool) = decide ((d.toNat : Int) ≤ 32 ∨ (d.toNat : Int) = 127) := by
  rw [Bool.eq_iff_iff]; simp [UInt8.le_iff_toNat_le, ← UInt8.toNat_inj]; omega

set_option maxHeartbeats 8000000 in
set_option maxRecDepth 1000000 in
theorem round (l : Lx.Lex) (q : ByteArray) (m : Int) (w : World) (hq : q.size ≤ 1073741824) (hm : w.cell? ⟨5, 0, none⟩ = some (.int .i64 m)) (R : Option Lx.Tok) (K : Act → World → Prop) (Q0 : Exit → Act → World → Prop) (k : Nat)
    (HR : Hid ((Lx.lexN l (q.data.toList.drop k)).map (Lx.Tok.shift k) = R))
    (hK : Hid (∀ (a : Act) (j : Nat), k < j → j ≤ q.size → (Lx.lexN l (q.data.toList.drop j)).map (Lx.Tok.shift j) = R → FR l q j w a → K a (W2 l w)))
    (hret : Hid (∀ (a : Act) (w' : World), bodyPost Tryd.prog Tryd.f22 (fun e w' => NextIs R e ∧ Below w.heap.size w w') .ret a w' → Q0 .ret a w'))
    (hexit : Hid (R = none → ∀ a : Act, FR l q k w a → Q0 (.exit 0) a (W2 l w))) (a : Act) (ha : FR l q k w a) :
    Code.wp Tryd.prog ((Tryd.f22.body.bind firstLoop).getD .skip) (Exit.then K Q0) a (W2 l w) := by
  conv => arg 2; whnf
  obtain ⟨u, rfl⟩ := ha.open
  clear ha
  obtain ⟨l1, l2, l3⟩ := l
  by_cases hlt : k < q.size
  · obtain ⟨c, hc, hcd⟩ := byte_at q k hlt
    have hlt' : (k : Int) < (q.size : Int) := by omega
    have hL : (q.data.toList.drop k).length = q.size - k := by rw [List.length_drop, Array.length_toList]; rfl
    have hsl := Lx.step_le ⟨l1, l2, l3⟩ (q.data.toList.drop k)
    rw [hL] at hsl
    have HSL : Hid (_) := hsl.1
    clear hsl
    have hm2 : (W2 ⟨l1, l2, l3⟩ w).cell? ⟨5, 0, none⟩ = some (.int .i64 m) := by
      rw [(W2_below _ w).cell (p := ⟨5, 0, none⟩) (lt_of_cell hm)]; exact hm
    replace hm2 : Hid (_) := hm2
    unfold W2
    have HS : Hid (_) := step_cons ⟨l1, l2, l3⟩ c _ _ hcd
    obtain ⟨x0, hx0⟩ : ∃ x, Hid (Lib.indexByte [32, 9, 10, 13, 12, 11, 59] c = x) := ⟨_, rfl⟩
    go_wp2_with fail
    refine (blank_at c x0 _ hx0).mono ?_
    rintro e w1 ⟨rfl, rfl⟩
    by_cases hb : Lx.blank c = true
    · have hx : decide (0 ≤ x0) = true := by rw [← hx0.out]; simpa [Lx.blank] using hb
      replace HS := HS.out; rw [if_pos hb] at HS
      have N : Hid (_) := rel_skip HR.out HS
      clear HS
      go_wp2_with fail
      refine hK.out _ _ (by omega) (by omega) N.out ?_; exact ⟨rfl, rfl, rfl, rfl, rfl, rfl, rfl⟩
    have hx : decide (0 ≤ x0) = false := by rw [← hx0.out]; simpa [Lx.blank] using hb
    replace HS := HS.out; rw [if_neg hb] at HS; replace HS : Hid (_) := HS
    clear hb
    cases l1
    case' true =>
      obtain ⟨p1, hp1⟩ : ∃ b, Hid (Lib.hasPrefix (q.data.toList.drop k) [47, 42, 33] = b) := ⟨_, rfl⟩
      obtain ⟨p2, hp2⟩ : ∃ b, Hid (Lib.hasPrefix (q.data.toList.drop k) [47, 42, 77, 33] = b) := ⟨_, rfl⟩
      have hpc : p1 = true ∨ (p1 = false ∧ p2 = true) ∨ (p1 = false ∧ p2 = false) := by cases p1 <;> cases p2 <;> simp
      rcases hpc with rfl | ⟨rfl, rfl⟩ | ⟨rfl, rfl⟩
      · replace HS := HS.out; rw [if_pos (by rw [hp1.out]; simp)] at HS
        obtain ⟨x, hx4⟩ : ∃ x, Hid (Lib.indexByte (q.data.toList.drop k) 33 = x) := ⟨_, rfl⟩
        rw [hx4.out] at HS
        have hxge := Lib.indexByte_ge (q.data.toList.drop k) 33
        rw [hx4.out] at hxge
        have hle := HSL.out _ HS
        obtain ⟨xn, hxn⟩ : ∃ xn : Nat, x + 1 = (xn : Int) := ⟨(x + 1).toNat, by omega⟩
        rw [hxn, Int.toNat_natCast, List.drop_drop] at HS hle
        obtain rfl : x = (xn : Int) - 1 := by omega
        clear hxn
        obtain ⟨M, hM⟩ : ∃ M, k + (xn + Lx.runOf Lx.isDig (q.data.toList.drop (k + xn))) = M := ⟨_, rfl⟩
        have N : Hid ((Lx.lexN ⟨true, l2, l3⟩ (q.data.toList.drop M)).map (Lx.Tok.shift M) = R) := by rw [← hM]; exact rel_skip HR.out HS
        have hMk : k < M := by omega
        have hxb : k + xn ≤ q.size := by omega
        have hMs : M ≤ q.size := by omega
        have HM : Hid (k + xn + Lx.runOf Lx.isDig (q.data.toList.drop (k + xn)) = M) := by show _ = M; omega
        clear HS hM hle
        go_wp2_with fail
        refine (pre_at q k [47, 42, 33] true _ hp1).mono ?_
        rintro e w1 ⟨rfl, rfl⟩
        go_wp2_with fail
        refine (byte_in q k 33 _ _ hx4).mono ?_
        rintro e w1 ⟨rfl, rfl⟩
        go_wp2_with fail
        go_loopg [2] q.size (fun g iv wr => ∃ j : Nat, j ≤ q.size ∧ q.size ≤ j + g ∧ iv = .int .i64 j ∧ Hid (j + Lx.runOf Lx.isDig (q.data.toList.drop j) = M) ∧ wr = (w.alloc (.cells #[.bool true, .bool l2, .bool l3] 26)).alloc (.cells #[.int .u8 0, .string ⟨#[]⟩, .bool false, .int .i64 0, .int .i64 0] 37))
        case atStart => exact ⟨k + xn, by have := HM.out; omega, by omega, by go_num, HM, rfl⟩
        case round =>
          obtain ⟨j, hj, hg, rfl, HJ, rfl⟩ := hrel
          by_cases hjs : j < q.size
          · obtain ⟨f, hf, hfd⟩ := byte_at q j hjs
            have hjs' : (j : Int) < (q.size : Int) := by omega
            cases hdg : Lx.isDig f
            · have E : Hid (j = M) := by
                show j = M
                have := HJ.out
                rw [hfd, Lx.runOf_no _ _ _ hdg] at this; omega
              rw [isDig_int, decide_eq_false_iff_not] at hdg
              have hsp : decide ((48 : Int) ≤ (f.toNat : Int)) = false ∨ (decide ((48 : Int) ≤ (f.toNat : Int)) = true ∧ decide ((f.toNat : Int) ≤ 57) = false) := by
                by_cases h48 : (48 : Int) ≤ (f.toNat : Int)
                · right; exact ⟨by simpa using h48, by simp; omega⟩
                · left; simpa using h48
              clear hdg hfd HJ
              rcases hsp with e1 | ⟨e1, e2⟩
              all_goals
                go_wp2
                refine hK.out _ _ hMk hMs N.out ?_; exact ⟨rfl, rfl, rfl, rfl, fr2 (by rw [E.out]), rfl, rfl⟩
            · have NJ : Hid (j + 1 + Lx.runOf Lx.isDig (q.data.toList.drop (j + 1)) = M) := by
                show _ = M
                have := HJ.out
                rw [hfd, Lx.runOf_yes _ _ _ hdg] at this; omega
              rw [isDig_int, decide_eq_true_eq] at hdg
              have e1 : decide ((48 : Int) ≤ (f.toNat : Int)) = true := by simp; omega
              have e2 : decide ((f.toNat : Int) ≤ 57) = true := by simp; omega
              clear hdg hfd HJ
              go_wp2
              go_roundg (gk - 1)
              case measure => omega
              case rel => exact ⟨j + 1, by omega, by omega, by go_num, NJ, rfl⟩
          · have E : Hid (j = M) := by
              show j = M
              have := HJ.out
              rw [drop_end q j (by omega)] at this
              simp only [Lx.runOf] at this
              omega
            have hge : decide (j < q.size) = false := by simp; omega
            have hge' : decide ((j : Int) < (q.size : Int)) = false := by simp; omega
            clear HJ
            go_wp2
            refine hK.out _ _ hMk hMs N.out ?_; exact ⟨rfl, rfl, rfl, rfl, fr2 (by rw [E.out]), rfl, rfl⟩
      · replace HS := HS.out; rw [if_pos (by rw [hp1.out, hp2.out]; simp)] at HS
        obtain ⟨x, hx4⟩ : ∃ x, Hid (Lib.indexByte (q.data.toList.drop k) 33 = x) := ⟨_, rfl⟩
        rw [hx4.out] at HS
        have hxge := Lib.indexByte_ge (q.data.toList.drop k) 33
        rw [hx4.out] at hxge
        have hle := HSL.out _ HS
        obtain ⟨xn, hxn⟩ : ∃ xn : Nat, x + 1 = (xn : Int) := ⟨(x + 1).toNat, by omega⟩
        rw [hxn, Int.toNat_natCast, List.drop_drop] at HS hle
        obtain rfl : x = (xn : Int) - 1 := by omega
        clear hxn
        obtain ⟨M, hM⟩ : ∃ M, k + (xn + Lx.runOf Lx.isDig (q.data.toList.drop (k + xn))) = M := ⟨_, rfl⟩
        have N : Hid ((Lx.lexN ⟨true, l2, l3⟩ (q.data.toList.drop M)).map (Lx.Tok.shift M) = R) := by rw [← hM]; exact rel_skip HR.out HS
        have hMk : k < M := by omega
        have hxb : k + xn ≤ q.size := by omega
        have hMs : M ≤ q.size := by omega
        have HM : Hid (k + xn + Lx.runOf Lx.isDig (q.data.toList.drop (k + xn)) = M) := by show _ = M; omega
        clear HS hM hle
        go_wp2_with fail
        refine (pre_at q k [47, 42, 33] false _ hp1).mono ?_
        rintro e w1 ⟨rfl, rfl⟩
        go_wp2_with fail
        refine (pre_at q k [47, 42, 77, 33] true _ hp2).mono ?_
        rintro e w1 ⟨rfl, rfl⟩
        go_wp2_with fail
        refine (byte_in q k 33 _ _ hx4).mono ?_
        rintro e w1 ⟨rfl, rfl⟩
        go_wp2_with fail
        go_loopg [2] q.size (fun g iv wr => ∃ j : Nat, j ≤ q.size ∧ q.size ≤ j + g ∧ iv = .int .i64 j ∧ Hid (j + Lx.runOf Lx.isDig (q.data.toList.drop j) = M) ∧ wr = (w.alloc (.cells #[.bool true, .bool l2, .bool l3] 26)).alloc (.cells #[.int .u8 0, .string ⟨#[]⟩, .bool false, .int .i64 0, .int .i64 0] 37))
        case atStart => exact ⟨k + xn, by have := HM.out; omega, by omega, by go_num, HM, rfl⟩
        case round =>
          obtain ⟨j, hj, hg, rfl, HJ, rfl⟩ := hrel
          by_cases hjs : j < q.size
          · obtain ⟨f, hf, hfd⟩ := byte_at q j hjs
            have hjs' : (j : Int) < (q.size : Int) := by omega
            cases hdg : Lx.isDig f
            · have E : Hid (j = M) := by
                show j = M
                have := HJ.out
                rw [hfd, Lx.runOf_no _ _ _ hdg] at this; omega
              rw [isDig_int, decide_eq_false_iff_not] at hdg
              have hsp : decide ((48 : Int) ≤ (f.toNat : Int)) = false ∨ (decide ((48 : Int) ≤ (f.toNat : Int)) = true ∧ decide ((f.toNat : Int) ≤ 57) = false) := by
                by_cases h48 : (48 : Int) ≤ (f.toNat : Int)
                · right; exact ⟨by simpa using h48, by simp; omega⟩
                · left; simpa using h48
              clear hdg hfd HJ
              rcases hsp with e1 | ⟨e1, e2⟩
              all_goals
                go_wp2
                refine hK.out _ _ hMk hMs N.out ?_; exact ⟨rfl, rfl, rfl, rfl, fr2 (by rw [E.out]), rfl, rfl⟩
            · have NJ : Hid (j + 1 + Lx.runOf Lx.isDig (q.data.toList.drop (j + 1)) = M) := by
                show _ = M
                have := HJ.out
                rw [hfd, Lx.runOf_yes _ _ _ hdg] at this; omega
              rw [isDig_int, decide_eq_true_eq] at hdg
              have e1 : decide ((48 : Int) ≤ (f.toNat : Int)) = true := by simp; omega
              have e2 : decide ((f.toNat : Int) ≤ 57) = true := by simp; omega
              clear hdg hfd HJ
              go_wp2
              go_roundg (gk - 1)
              case measure => omega
              case rel => exact ⟨j + 1, by omega, by omega, by go_num, NJ, rfl⟩
          · have E : Hid (j = M) := by
              show j = M
              have := HJ.out
              rw [drop_end q j (by omega)] at this
              simp only [Lx.runOf] at this
              omega
            have hge : decide (j < q.size) = false := by simp; omega
            have hge' : decide ((j : Int) < (q.size : Int)) = false := by simp; omega
            clear HJ
            go_wp2
            refine hK.out _ _ hMk hMs N.out ?_; exact ⟨rfl, rfl, rfl, rfl, fr2 (by rw [E.out]), rfl, rfl⟩
      replace HS := HS.out; rw [if_neg (by rw [hp1.out, hp2.out]; simp)] at HS; replace HS : Hid (_) := HS
      obtain ⟨p3, hp3⟩ : ∃ b, Hid (Lib.hasPrefix (q.data.toList.drop k) [42, 47] = b) := ⟨_, rfl⟩
      go_wp2_with fail
      refine (pre_at q k [47, 42, 33] false _ hp1).mono ?_
      rintro e w1 ⟨rfl, rfl⟩
      go_wp2_with fail
      refine (pre_at q k [47, 42, 77, 33] false _ hp2).mono ?_
      rintro e w1 ⟨rfl, rfl⟩
      go_wp2_with fail
      refine (pre_at q k [42, 47] p3 _ hp3).mono ?_
      rintro e w1 ⟨rfl, rfl⟩
      cases p3
      case' true =>
        replace HS := HS.out; rw [if_pos (by rw [hp3.out]; rfl)] at HS
        have hle := HSL.out _ HS
        have N : Hid (_) := rel_skip HR.out HS
        clear HS
        go_wp2_with fail
        refine hK.out _ _ (by omega) (by omega) N.out ?_; exact ⟨rfl, rfl, rfl, rfl, rfl, rfl, rfl⟩
      replace HS := HS.out; rw [if_neg (by rw [hp3.out]; simp)] at HS; replace HS : Hid (_) := HS
    case' false =>
      replace HS := HS.out; rw [if_neg (by simp), if_neg (by simp)] at HS; replace HS : Hid (_) := HS
    all_goals
      go_wp2_with fail
      obtain ⟨p4, hp4⟩ : ∃ b, Hid (Lib.hasPrefix (q.data.toList.drop k) [47, 42] = b) := ⟨_, rfl⟩
      refine (pre_at q k [47, 42] p4 _ hp4).mono ?_
      rintro e w1 ⟨rfl, rfl⟩
      cases p4
      case' true =>
        replace HS := HS.out; rw [if_pos hp4.out] at HS; replace HS : Hid (_) := HS
        have hpl := Lx.hasPrefix_len _ _ hp4.out
        rw [hL] at hpl
        simp only [List.length_cons, List.length_nil] at hpl
        rw [List.drop_drop] at HS
        obtain ⟨x, hx4⟩ : ∃ x, Hid (Lib.index (q.data.toList.drop (k + 2)) [42, 47] = x) := ⟨_, rfl⟩
        rw [hx4.out] at HS
        go_wp2_with fail
        refine (index_in q (k + 2) [42, 47] x m _ hq hm2.out hx4).mono ?_
        rintro e w1 ⟨rfl, rfl⟩
        unfold W2
        by_cases hneg : x < 0
        · have hneg' : decide (x < 0) = true := by simpa using hneg
          have H2 : Hid (R = none) := rel_none HR.out (by rw [HS.out, if_pos hneg])
          go_wp2
          refine hret.out _ _ ?_; exact ret22 _ _ _ _ _ _ _ _ rfl rfl (old_block (top_block _ _ _ (by simp))) (next_none H2 (Or.inr ⟨_, rfl⟩)) ((below_two _ _ _).alloc (by simp; omega) _)
        · have hneg' : decide (x < 0) = false := by simpa using hneg
          obtain ⟨xn, rfl⟩ : ∃ xn : Nat, x = (xn : Int) := ⟨x.toNat, by omega⟩
          replace HS := HS.out; rw [if_neg hneg] at HS
          have hle := HSL.out _ HS
          rw [Int.toNat_natCast] at HS hle
          have N : Hid (_) := rel_skip HR.out HS
          clear HS
          go_wp2_with fail
          refine hK.out _ _ (by omega) (by omega) N.out ?_; exact ⟨rfl, rfl, rfl, rfl, fr2 (by omega), rfl, rfl⟩
      replace HS := HS.out; rw [if_neg (by rw [hp4.out]; simp)] at HS; replace HS : Hid (_) := HS
      obtain ⟨p5, hp5⟩ : ∃ b, Hid (Lib.hasPrefix (q.data.toList.drop k) [45, 45] = b) := ⟨_, rfl⟩
      have hln := line_cons c _ _ hcd
      rw [hp5.out, List.drop_drop] at hln
      have hsp : (((c.toNat : Int) == 35) = true ∧ Lx.lineAt (q.data.toList.drop k) = true)
          ∨ (((c.toNat : Int) == 35) = false ∧ p5 = false ∧ Lx.lineAt (q.data.toList.drop k) = false)
          ∨ (((c.toNat : Int) == 35) = false ∧ p5 = true ∧ Lx.lineAt (q.data.toList.drop k) = true ∧ k + 2 = q.size)
          ∨ (((c.toNat : Int) == 35) = false ∧ p5 = true ∧ ∃ (h2 : k + 2 < q.size) (d : UInt8), q[k + 2]'h2 = d ∧ ((decide ((d.toNat : Int) ≤ 32) = true ∧ Lx.lineAt (q.data.toList.drop k) = true) ∨ (decide ((d.toNat : Int) ≤ 32) = false ∧ ((d.toNat : Int) == 127) = true ∧ Lx.lineAt (q.data.toList.drop k) = true) ∨ (decide ((d.toNat : Int) ≤ 32) = false ∧ ((d.toNat : Int) == 127) = false ∧ Lx.lineAt (q.data.toList.drop k) = false))) := by
        by_cases hc35 : c = 35
        · left; subst hc35; exact ⟨rfl, by rw [hln]; rfl⟩
        · have e35 : ((c.toNat : Int) == 35) = false := by rw [beq_eq_false_iff_ne]; exact fun h => hc35 (nat_eq h)
          have b35 : (c == 35) = false := by simpa using hc35
          right
          cases hp : p5 with
          | false => left; exact ⟨e35, rfl, by rw [hln, b35, hp]; rfl⟩
          | true =>
            right
            have hpl := Lx.hasPrefix_len _ _ (hp5.out.trans hp)
            rw [hL] at hpl
            simp only [List.length_cons, List.length_nil] at hpl
            by_cases hend : k + 2 = q.size
            · left; exact ⟨e35, rfl, by rw [hln, b35, hp, drop_end q (k + 2) (by omega)]; rfl, hend⟩
            · right
              have h2 : k + 2 < q.size := by omega
              obtain ⟨d, hd, hdd⟩ := byte_at q (k + 2) h2
              refine ⟨e35, rfl, h2, d, hd, ?_⟩
              rw [hln, b35, hp, hdd]
              show _ ∨ _ ∨ _
              have hct := ctl_int d
              simp only [Lx.ctlHead, Bool.false_or, Bool.true_and]
              rw [hct]
              by_cases h32 : (d.toNat : Int) ≤ 32
              · left; simp [h32]
              · right
                by_cases h127 : (d.toNat : Int) = 127
                · left; simp [h127]
                · right; simp [h32, h127]
      clear hln
      rcases hsp with ⟨e35, hl⟩ | ⟨e35, rfl, hl⟩ | ⟨e35, rfl, hl, hend⟩ | ⟨e35, rfl, h2, d, hd, ⟨e32, hl⟩ | ⟨e32, e127, hl⟩ | ⟨e32, e127, hl⟩⟩
      · obtain ⟨x, hx4⟩ : ∃ x, Hid (Lib.indexByte (q.data.toList.drop k) 10 = x) := ⟨_, rfl⟩
        replace HS := HS.out; rw [if_pos hl, hx4.out, hL] at HS
        go_wp2_with fail
        refine (byte_in q k 10 x _ hx4).mono ?_
        rintro e w1 ⟨rfl, rfl⟩
        by_cases hneg : x < 0
        · have hneg' : decide (x < 0) = true := by simpa using hneg
          rw [if_pos hneg] at HS
          have N : Hid (_) := rel_skip HR.out HS
          clear HS
          go_wp2_with fail
          refine hK.out _ _ (by omega) (by omega) N.out ?_; exact ⟨rfl, rfl, rfl, rfl, fr2 (by omega), rfl, rfl⟩
        · have hneg' : decide (x < 0) = false := by simpa using hneg
          obtain ⟨xn, rfl⟩ : ∃ xn : Nat, x = (xn : Int) := ⟨x.toNat, by omega⟩
          rw [if_neg hneg, Int.toNat_natCast] at HS
          have hle := HSL.out _ HS
          have N : Hid (_) := rel_skip HR.out HS
          clear HS
          go_wp2_with fail
          refine hK.out _ _ (by omega) (by omega) N.out ?_; exact ⟨rfl, rfl, rfl, rfl, fr2 (by omega), rfl, rfl⟩
      · go_wp2_with fail
        refine (pre_at q k [45, 45] false _ hp5).mono ?_
        rintro e w1 ⟨rfl, rfl⟩
        replace HS := HS.out; rw [if_neg (by rw [hl]; simp)] at HS
        go_upto_if 119 with fail; refine wp_cond_false rfl ?_
        refine leaf_mono (R := R) (w := w) (fun a w' h => hret.out a w' h) ?_; refine tail _ q w hq R k c hlt hc HR HS _ ?_; exact ⟨⟨rfl, rfl, rfl, rfl, rfl, rfl, rfl⟩, rfl⟩
      · have heq : ((k : Int) + 2 == (q.size : Int)) = true := by simp; omega
        go_wp2_with fail
        refine (pre_at q k [45, 45] true _ hp5).mono ?_
        rintro e w1 ⟨rfl, rfl⟩
        obtain ⟨x, hx4⟩ : ∃ x, Hid (Lib.indexByte (q.data.toList.drop k) 10 = x) := ⟨_, rfl⟩
        replace HS := HS.out; rw [if_pos hl, hx4.out, hL] at HS
        go_wp2_with fail
        refine (byte_in q k 10 x _ hx4).mono ?_
        rintro e w1 ⟨rfl, rfl⟩
        by_cases hneg : x < 0
        · have hneg' : decide (x < 0) = true := by simpa using hneg
          rw [if_pos hneg] at HS
          have N : Hid (_) := rel_skip HR.out HS
          clear HS
          go_wp2_with fail
          refine hK.out _ _ (by omega) (by omega) N.out ?_; exact ⟨rfl, rfl, rfl, rfl, fr2 (by omega), rfl, rfl⟩
        · have hneg' : decide (x < 0) = false := by simpa using hneg
          obtain ⟨xn, rfl⟩ : ∃ xn : Nat, x = (xn : Int) := ⟨x.toNat, by omega⟩
          rw [if_neg hneg, Int.toNat_natCast] at HS
          have hle := HSL.out _ HS
          have N : Hid (_) := rel_skip HR.out HS
          clear HS
          go_wp2_with fail
          refine hK.out _ _ (by omega) (by omega) N.out ?_; exact ⟨rfl, rfl, rfl, rfl, fr2 (by omega), rfl, rfl⟩
      · have h2' : (k : Int) + 2 < (q.size : Int) := by omega
        have hne : ((k : Int) + 2 == (q.size : Int)) = false := by simp; omega
        go_wp2_with fail
        refine (pre_at q k [45, 45] true _ hp5).mono ?_
        rintro e w1 ⟨rfl, rfl⟩
        obtain ⟨x, hx4⟩ : ∃ x, Hid (Lib.indexByte (q.data.toList.drop k) 10 = x) := ⟨_, rfl⟩
        replace HS := HS.out; rw [if_pos hl, hx4.out, hL] at HS
        go_wp2_with fail
        refine (byte_in q k 10 x _ hx4).mono ?_
        rintro e w1 ⟨rfl, rfl⟩
        by_cases hneg : x < 0
        · have hneg' : decide (x < 0) = true := by simpa using hneg
          rw [if_pos hneg] at HS
          have N : Hid (_) := rel_skip HR.out HS
          clear HS
          go_wp2_with fail
          refine hK.out _ _ (by omega) (by omega) N.out ?_; exact ⟨rfl, rfl, rfl, rfl, fr2 (by omega), rfl, rfl⟩
        · have hneg' : decide (x < 0) = false := by simpa using hneg
          obtain ⟨xn, rfl⟩ : ∃ xn : Nat, x = (xn : Int) := ⟨x.toNat, by omega⟩
          rw [if_neg hneg, Int.toNat_natCast] at HS
          have hle := HSL.out _ HS
          have N : Hid (_) := rel_skip HR.out HS
          clear HS
          go_wp2_with fail
          refine hK.out _ _ (by omega) (by omega) N.out ?_; exact ⟨rfl, rfl, rfl, rfl, fr2 (by omega), rfl, rfl⟩
      · have h2' : (k : Int) + 2 < (q.size : Int) := by omega
        have hne : ((k : Int) + 2 == (q.size : Int)) = false := by simp; omega
        go_wp2_with fail
        refine (pre_at q k [45, 45] true _ hp5).mono ?_
        rintro e w1 ⟨rfl, rfl⟩
        obtain ⟨x, hx4⟩ : ∃ x, Hid (Lib.indexByte (q.data.toList.drop k) 10 = x) := ⟨_, rfl⟩
        replace HS := HS.out; rw [if_pos hl, hx4.out, hL] at HS
        go_wp2_with fail
        refine (byte_in q k 10 x _ hx4).mono ?_
        rintro e w1 ⟨rfl, rfl⟩
        by_cases hneg : x < 0
        · have hneg' : decide (x < 0) = true := by simpa using hneg
          rw [if_pos hneg] at HS
          have N : Hid (_) := rel_skip HR.out HS
          clear HS
          go_wp2_with fail
          refine hK.out _ _ (by omega) (by omega) N.out ?_; exact ⟨rfl, rfl, rfl, rfl, fr2 (by omega), rfl, rfl⟩
        · have hneg' : decide (x < 0) = false := by simpa using hneg
          obtain ⟨xn, rfl⟩ : ∃ xn : Nat, x = (xn : Int) := ⟨x.toNat, by omega⟩
          rw [if_neg hneg, Int.toNat_natCast] at HS
          have hle := HSL.out _ HS
          have N : Hid (_) := rel_skip HR.out HS
          clear HS
          go_wp2_with fail
          refine hK.out _ _ (by omega) (by omega) N.out ?_; exact ⟨rfl, rfl, rfl, rfl, fr2 (by omega), rfl, rfl⟩
      · have h2' : (k : Int) + 2 < (q.size : Int) := by omega
        have hne : ((k : Int) + 2 == (q.size : Int)) = false := by simp; omega
        go_wp2_with fail
        refine (pre_at q k [45, 45] true _ hp5).mono ?_
        rintro e w1 ⟨rfl, rfl⟩
        replace HS := HS.out; rw [if_neg (by rw [hl]; simp)] at HS
        go_upto_if 119 with fail; refine wp_cond_false rfl ?_
        refine leaf_mono (R := R) (w := w) (fun a w' h => hret.out a w' h) ?_; refine tail _ q w hq R k c hlt hc HR HS _ ?_; exact ⟨⟨rfl, rfl, rfl, rfl, rfl, rfl, rfl⟩, rfl⟩
  · have hge : decide (k < q.size) = false := by simp; omega
    have hge' : decide ((k : Int) < (q.size : Int)) = false := by simp; omega
    have FIN : Hid (R = none) := rel_none HR.out (by rw [drop_end q k (by omega)]; rfl)
    clear HR
    unfold W2
    go_wp2
    refine hexit.out FIN.out _ ?_; exact ⟨rfl, rfl, rfl, rfl, rfl, rfl, rfl⟩

/-- The loop. -/
theorem loop (l : Lx.Lex) (q : ByteArray) (m : Int) (w : World) (hq : q.size ≤ 1073741824) (hm : w.cell? ⟨5, 0, none⟩ = some (.int .i64 m)) (R : Option Lx.Tok) (Q0 : Exit → Act → World → Prop) (i : Nat) (hi : i ≤ q.size)
    (HR : Hid ((Lx.lexN l (q.data.toList.drop i)).map (Lx.Tok.shift i) = R))
    (hret : Hid (∀ (a : Act) (w' : World), bodyPost Tryd.prog Tryd.f22 (fun e w' => NextIs R e ∧ Below w.heap.size w w') .ret a w' → Q0 .ret a w'))
    (hexit : Hid (R = none → ∀ (a : Act) (k : Nat), FR l q k w a → Q0 (.exit 0) a (W2 l w))) (a : Act) (ha : FR l q i w a) :
    Code.wp Tryd.prog (Code.loop ((Tryd.f22.body.bind firstLoop).getD .skip)) Q0 a (W2 l w) := by
  refine wp_loop_ghost (fun g a w' => ∃ k : Nat, k ≤ q.size ∧ q.size ≤ k + g ∧ (Lx.lexN l (q.data.toList.drop k)).map (Lx.Tok.shift k) = R ∧ FR l q k w a ∧ w' = W2 l w) q.size ⟨i, hi, by omega, HR, ha, rfl⟩ ?_
  rintro n a w' ⟨k, hk, hg, hR, hF, rfl⟩
  refine round l q m w hq hm R _ Q0 k hR ?_ hret ?_ a hF
  · intro a j hkj hj hRj hFj
    exact ⟨q.size - j, by omega, j, hj, by omega, hRj, hFj, rfl⟩
  · intro hn a hF
    exact hexit.out hn a k hF

set_option maxHeartbeats 8000000 in
set_option maxRecDepth 1000000 in
theorem next_any (l : Lx.Lex) (q : ByteArray) (i : Nat) (m : Int) (w : World) (hq : q.size ≤ 1073741824) (hi : i ≤ q.size) (hm : w.cell? ⟨5, 0, none⟩ = some (.int .i64 m)) :
    Calls Tryd.prog 22 #[.agg #[.bool l.exec, .bool l.noEsc, .bool l.ansi], .string q, .int .i64 i] w fun e w' => NextIs ((Lx.lexN l (q.data.toList.drop i)).map (Lx.Tok.shift i)) e ∧ Below w.heap.size w w' := by
  obtain ⟨R, hR⟩ : ∃ R, (Lx.lexN l (q.data.toList.drop i)).map (Lx.Tok.shift i) = R := ⟨_, rfl⟩
  rw [hR]
  replace hR : Hid (_) := hR
  go_enter Tryd.func22, Tryd.ntmps22
  go_wp2
  refine loop l q m w hq hm R _ i hi hR ?_ ?_ _ ?_
  · exact fun a w' h => h
  · intro hn a k hF
    obtain ⟨u, rfl⟩ := hF.open
    replace hn : Hid (_) := hn
    unfold W2
    go_wp2
    exact ret22 _ _ _ _ _ _ _ _ rfl rfl (top_block _ _ _ (by simp)) (next_none hn (Or.inl rfl)) (below_two _ _ _)
  · exact ⟨rfl, rfl, rfl, rfl, rfl, rfl, rfl⟩

end Go.Proofs.Qxb6613163aDoor
