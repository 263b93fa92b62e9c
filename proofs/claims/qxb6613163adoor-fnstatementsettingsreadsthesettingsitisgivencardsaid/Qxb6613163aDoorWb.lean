/-
  THE WALK of numberLen (37).
-/
import Derived.Test.Qxb6613163aDoorWa
import Derived.Test.Qxb6613163aDoorLy
namespace Go.Proofs.Qxb6613163aDoor
open Go.RowKit

theorem byte_at (s : ByteArray) (k : Nat) (h : k < s.size) : ∃ c : UInt8, s[k]'h = c ∧ s.data.toList.drop k = c :: s.data.toList.drop (k + 1) := ⟨_, rfl, drop_byte s k h⟩

theorem digdot_split (c : UInt8) (h : Lx.isDigDot c = true) : Lx.isDig c = true ∨ (Lx.isDig c = false ∧ ((c.toNat : Int) == 46) = true) := by
  unfold Lx.isDigDot at h
  cases hd : Lx.isDig c
  · rw [hd, eq_int] at h
    right
    simp at h ⊢
    exact h
  · exact Or.inl rfl

theorem digdot_not (c : UInt8) (h : Lx.isDigDot c = false) : Lx.isDig c = false ∧ ((c.toNat : Int) == 46) = false := by
  unfold Lx.isDigDot at h
  rw [Bool.or_eq_false_iff, eq_int] at h
  refine ⟨h.1, ?_⟩
  have := h.2
  simp at this ⊢
  exact this

set_option maxHeartbeats 4000000 in
set_option maxRecDepth 100000 in
theorem numLen_any (s : ByteArray) (w : World) (hs : s.size ≤ 1073741824) :
    Calls Tryd.prog 37 #[.string s] w fun e w' => e = .returned (.int .i64 (Lx.numLen s.data.toList)) ∧ w' = w := by
  have hN := Lx.runOf_le Lx.isDigDot s.data.toList
  have hL : s.data.toList.length = s.size := Array.length_toList
  rw [hL] at hN
  generalize hn0 : Lx.runOf Lx.isDigDot s.data.toList = n0 at hN
  have HN0 : Hid (Lx.runOf Lx.isDigDot s.data.toList = n0) := hn0
  clear hn0 hL
  go_enter Tryd.func37, Tryd.ntmps37
  go_wp2
  go_loopg [3] s.size (fun q i wr => ∃ k : Nat, k ≤ n0 ∧ s.size ≤ k + q ∧ i = .int .i64 k ∧ wr = w)
  case atStart => exact ⟨0, by omega, by omega, rfl, rfl⟩
  case round =>
    obtain ⟨k, hk, hq, rfl, hwr⟩ := hrel
    subst hwr
    by_cases hlt : k < n0
    · have hks : k < s.size := by omega
      obtain ⟨c, hc, hd⟩ := byte_at s k hks
      have hin := (Lx.runOf_in Lx.isDigDot s.data.toList k c _ (by rw [HN0.out]; exact hlt) hd).1
      have hlt' : (k : Int) < (s.size : Int) := by omega
      rcases digdot_split c hin with h1 | ⟨h1, h2⟩
      all_goals
        clear hin hd
        go_wp2_with (go_at_call 36; refine (isDigit_any c _).mono ?_; rintro e w1 ⟨rfl, rfl⟩)
        go_roundg (gk - 1)
        case measure => omega
        case rel => exact ⟨k + 1, by omega, by omega, by go_num, rfl⟩
    · have hkn : k = n0 := by omega
      subst hkn
      by_cases hsz : k = s.size
      · have FIN : Hid ((Lx.numLen s.data.toList : Int) = k) := by
          show (Lx.numLen s.data.toList : Int) = k
          rw [Lx.num_end _ (by rw [HN0.out]; exact drop_end s k (by omega)), HN0.out]
        have hge : decide (k < s.size) = false := by simp; omega
        have hge' : decide ((k : Int) < (s.size : Int)) = false := by simp; omega
        have heq : ((k : Int) == (s.size : Int)) = true := by simp; omega
        clear HN0 hsz
        go_wp2
        go_ret
        exact ⟨by rw [FIN.out]; rfl, rfl⟩
      · have hks : k < s.size := by omega
        obtain ⟨c, hc, hd⟩ := byte_at s k hks
        have hat := Lx.runOf_at Lx.isDigDot s.data.toList c _ (by rw [HN0.out]; exact hd)
        obtain ⟨d1, d2⟩ := digdot_not c hat
        have hlt' : (k : Int) < (s.size : Int) := by omega
        have hne : ((k : Int) == (s.size : Int)) = false := by simp; omega
        by_cases hE : c = 101 ∨ c = 69
        · have hEb : (c == 101 || c == 69) = true := by rcases hE with h | h <;> subst h <;> rfl
          have eb : (((c.toNat : Int) != 101) = false) ∨ (((c.toNat : Int) != 101) = true ∧ ((c.toNat : Int) != 69) = false) := by
            rcases hE with h | h <;> subst h
            · exact Or.inl rfl
            · exact Or.inr ⟨rfl, rfl⟩
          have hdrop : s.data.toList.drop (Lx.runOf Lx.isDigDot s.data.toList) = c :: s.data.toList.drop (k + 1) := by rw [HN0.out]; exact hd
          by_cases hk1 : k + 1 < s.size
          · obtain ⟨d, hdb, hdd⟩ := byte_at s (k + 1) hk1
            have hk1' : (k : Int) + 1 < (s.size : Int) := by omega
            have hk1n : ((k : Int) + 1 == (s.size : Int)) = false := by simp; omega
            by_cases hsg : (d == 43 || d == 45) = true
            · have sb : ((d.toNat : Int) == 43) = true ∨ (((d.toNat : Int) == 43) = false ∧ ((d.toNat : Int) == 45) = true) := by
                rw [Bool.or_eq_true, eq_int, eq_int] at hsg
                simp at hsg ⊢
                omega
              have hexp := Lx.exp_sign d (s.data.toList.drop (k + 1 + 1)) hsg
              by_cases hk2 : k + 1 + 1 < s.size
              · obtain ⟨f0, hf0, hfd0⟩ := byte_at s (k + 1 + 1) hk2
                have hk2' : (k : Int) + 1 + 1 < (s.size : Int) := by omega
                have hk2n : ((k : Int) + 1 + 1 == (s.size : Int)) = false := by simp; omega
                cases hdg0 : Lx.isDig f0
                · have FIN : Hid ((Lx.numLen s.data.toList : Int) = k) := by
                    show (Lx.numLen s.data.toList : Int) = k
                    rw [Lx.num_e0 _ c _ hdrop (by rw [hdd, hexp, hfd0, Lx.runOf_no _ _ _ hdg0]; rfl), HN0.out]
                  clear HN0 hE hat hd hdrop hdd hexp hfd0 hsg hEb
                  rcases eb with eb | ⟨eb, eb2⟩ <;> rcases sb with sb | ⟨sb, sb2⟩
                  all_goals
                    go_wp2_with fail
                    refine (isDigit_any c _).mono ?_
                    rintro e w1 ⟨rfl, rfl⟩
                    go_wp2_with fail
                    refine (isDigit_any f0 _).mono ?_
                    rintro e w1 ⟨rfl, rfl⟩
                    go_wp2_with fail
                    go_ret
                    exact ⟨by rw [FIN.out]; rfl, rfl⟩
                · obtain ⟨M, hM⟩ : ∃ M, k + 1 + 1 + Lx.runOf Lx.isDig (s.data.toList.drop (k + 1 + 1)) = M := ⟨_, rfl⟩
                  have hpos : 1 ≤ Lx.runOf Lx.isDig (s.data.toList.drop (k + 1 + 1)) := by rw [hfd0, Lx.runOf_yes _ _ _ hdg0]; omega
                  have FIN : Hid ((Lx.numLen s.data.toList : Int) = M) := by
                    show (Lx.numLen s.data.toList : Int) = M
                    rw [if_neg (by omega)] at hexp
                    rw [Lx.num_e _ c _ hdrop hEb (by rw [hdd, hexp]; omega), HN0.out, hdd, hexp]
                    omega
                  have HM : Hid (k + 1 + 1 + Lx.runOf Lx.isDig (s.data.toList.drop (k + 1 + 1)) = M) := hM
                  clear HN0 hE hat hd hdrop hdd hexp hfd0 hsg hEb hM hpos
                  rcases eb with eb | ⟨eb, eb2⟩ <;> rcases sb with sb | ⟨sb, sb2⟩
                  all_goals
                    go_wp2_with fail
                    refine (isDigit_any c _).mono ?_
                    rintro e w1 ⟨rfl, rfl⟩
                    go_wp2_with fail
                    refine (isDigit_any f0 _).mono ?_
                    rintro e w1 ⟨rfl, rfl⟩
                    go_wp2_with fail
                    go_loopg [4] s.size (fun q i wr => ∃ m : Nat, m ≤ s.size ∧ s.size ≤ m + q ∧ i = .int .i64 m ∧ m + Lx.runOf Lx.isDig (s.data.toList.drop m) = M ∧ wr = w1)
                    case atStart => exact ⟨k + 1 + 1, by omega, by omega, by go_num, HM.out, rfl⟩
                    case round =>
                      obtain ⟨m, hm, hq2, rfl, hR, hwr2⟩ := hrel
                      subst hwr2
                      by_cases hms : m < s.size
                      · obtain ⟨f, hf, hfd⟩ := byte_at s m hms
                        have hms' : (m : Int) < (s.size : Int) := by omega
                        cases hdg : Lx.isDig f
                        · have E : Hid ((M : Int) = m) := by
                            show (M : Int) = m
                            rw [hfd, Lx.runOf_no _ _ _ hdg] at hR; omega
                          clear hR hfd HM
                          go_wp2_with (go_at_call 36; refine (isDigit_any f _).mono ?_; rintro e w1 ⟨rfl, rfl⟩)
                          go_ret
                          exact ⟨by rw [FIN.out, E.out]; rfl, rfl⟩
                        · have N : Hid (m + 1 + Lx.runOf Lx.isDig (s.data.toList.drop (m + 1)) = M) := by
                            show m + 1 + Lx.runOf Lx.isDig (s.data.toList.drop (m + 1)) = M
                            rw [hfd, Lx.runOf_yes _ _ _ hdg] at hR; omega
                          clear hR hfd HM
                          go_wp2_with (go_at_call 36; refine (isDigit_any f _).mono ?_; rintro e w1 ⟨rfl, rfl⟩)
                          go_roundg (gk - 1)
                          case measure => omega
                          case rel => exact ⟨m + 1, by omega, by omega, by go_num, N.out, rfl⟩
                      · have E : Hid ((M : Int) = m) := by
                          show (M : Int) = m
                          rw [drop_end s m (by omega)] at hR
                          simp only [Lx.runOf] at hR
                          omega
                        have hge : decide (m < s.size) = false := by simp; omega
                        have hge' : decide ((m : Int) < (s.size : Int)) = false := by simp; omega
                        clear hR HM
                        go_wp2
                        go_ret
                        exact ⟨by rw [FIN.out, E.out]; rfl, rfl⟩
              · have FIN : Hid ((Lx.numLen s.data.toList : Int) = k) := by
                  show (Lx.numLen s.data.toList : Int) = k
                  rw [Lx.num_e0 _ c _ hdrop (by rw [hdd, hexp, drop_end s (k + 1 + 1) (by omega)]; rfl), HN0.out]
                have hk2n : ((k : Int) + 1 + 1 == (s.size : Int)) = true := by simp; omega
                clear HN0 hE hat hd hdrop hdd hexp hsg hEb
                rcases eb with eb | ⟨eb, eb2⟩ <;> rcases sb with sb | ⟨sb, sb2⟩
                all_goals
                  go_wp2_with fail
                  refine (isDigit_any c _).mono ?_
                  rintro e w1 ⟨rfl, rfl⟩
                  go_wp2_with fail
                  go_ret
                  exact ⟨by rw [FIN.out]; rfl, rfl⟩
            · have hsg' : (d == 43 || d == 45) = false := by simpa using hsg
              have sb : ((d.toNat : Int) == 43) = false ∧ ((d.toNat : Int) == 45) = false := by
                rw [Bool.or_eq_false_iff, eq_int, eq_int] at hsg'
                simp at hsg' ⊢
                omega
              obtain ⟨sb1, sb2⟩ := sb
              have hexp := Lx.exp_plain d (s.data.toList.drop (k + 1 + 1)) hsg'
              cases hdg0 : Lx.isDig d
              · have FIN : Hid ((Lx.numLen s.data.toList : Int) = k) := by
                  show (Lx.numLen s.data.toList : Int) = k
                  rw [Lx.num_e0 _ c _ hdrop (by rw [hdd, hexp, Lx.runOf_no _ _ _ hdg0]), HN0.out]
                clear HN0 hE hat hd hdrop hdd hexp hsg hsg' hEb
                rcases eb with eb | ⟨eb, eb2⟩
                all_goals
                  go_wp2_with fail
                  refine (isDigit_any c _).mono ?_
                  rintro e w1 ⟨rfl, rfl⟩
                  go_wp2_with fail
                  refine (isDigit_any d _).mono ?_
                  rintro e w1 ⟨rfl, rfl⟩
                  go_wp2_with fail
                  go_ret
                  exact ⟨by rw [FIN.out]; rfl, rfl⟩
              · obtain ⟨M, hM⟩ : ∃ M, k + 1 + Lx.runOf Lx.isDig (s.data.toList.drop (k + 1)) = M := ⟨_, rfl⟩
                have hpos : 1 ≤ Lx.runOf Lx.isDig (s.data.toList.drop (k + 1)) := by rw [hdd, Lx.runOf_yes _ _ _ hdg0]; omega
                have FIN : Hid ((Lx.numLen s.data.toList : Int) = M) := by
                  show (Lx.numLen s.data.toList : Int) = M
                  rw [hdd, ← hexp] at hpos hM
                  rw [Lx.num_e _ c _ hdrop hEb (by rw [hdd]; omega), HN0.out, hdd]
                  omega
                have HM : Hid (k + 1 + Lx.runOf Lx.isDig (s.data.toList.drop (k + 1)) = M) := hM
                clear HN0 hE hat hd hdrop hdd hexp hsg hsg' hEb hM hpos
                rcases eb with eb | ⟨eb, eb2⟩
                all_goals
                  go_wp2_with fail
                  refine (isDigit_any c _).mono ?_
                  rintro e w1 ⟨rfl, rfl⟩
                  go_wp2_with fail
                  refine (isDigit_any d _).mono ?_
                  rintro e w1 ⟨rfl, rfl⟩
                  go_wp2_with fail
                  go_loopg [4] s.size (fun q i wr => ∃ m : Nat, m ≤ s.size ∧ s.size ≤ m + q ∧ i = .int .i64 m ∧ m + Lx.runOf Lx.isDig (s.data.toList.drop m) = M ∧ wr = w1)
                  case atStart => exact ⟨k + 1, by omega, by omega, by go_num, HM.out, rfl⟩
                  case round =>
                    obtain ⟨m, hm, hq2, rfl, hR, hwr2⟩ := hrel
                    subst hwr2
                    by_cases hms : m < s.size
                    · obtain ⟨f, hf, hfd⟩ := byte_at s m hms
                      have hms' : (m : Int) < (s.size : Int) := by omega
                      cases hdg : Lx.isDig f
                      · have E : Hid ((M : Int) = m) := by
                          show (M : Int) = m
                          rw [hfd, Lx.runOf_no _ _ _ hdg] at hR; omega
                        clear hR hfd HM
                        go_wp2_with (go_at_call 36; refine (isDigit_any f _).mono ?_; rintro e w1 ⟨rfl, rfl⟩)
                        go_ret
                        exact ⟨by rw [FIN.out, E.out]; rfl, rfl⟩
                      · have N : Hid (m + 1 + Lx.runOf Lx.isDig (s.data.toList.drop (m + 1)) = M) := by
                          show m + 1 + Lx.runOf Lx.isDig (s.data.toList.drop (m + 1)) = M
                          rw [hfd, Lx.runOf_yes _ _ _ hdg] at hR; omega
                        clear hR hfd HM
                        go_wp2_with (go_at_call 36; refine (isDigit_any f _).mono ?_; rintro e w1 ⟨rfl, rfl⟩)
                        go_roundg (gk - 1)
                        case measure => omega
                        case rel => exact ⟨m + 1, by omega, by omega, by go_num, N.out, rfl⟩
                    · have E : Hid ((M : Int) = m) := by
                        show (M : Int) = m
                        rw [drop_end s m (by omega)] at hR
                        simp only [Lx.runOf] at hR
                        omega
                      have hge : decide (m < s.size) = false := by simp; omega
                      have hge' : decide ((m : Int) < (s.size : Int)) = false := by simp; omega
                      clear hR HM
                      go_wp2
                      go_ret
                      exact ⟨by rw [FIN.out, E.out]; rfl, rfl⟩
          · have FIN : Hid ((Lx.numLen s.data.toList : Int) = k) := by
              show (Lx.numLen s.data.toList : Int) = k
              rw [Lx.num_e0 _ c _ hdrop (by rw [drop_end s (k + 1) (by omega)]; rfl), HN0.out]
            have hk1n : ((k : Int) + 1 == (s.size : Int)) = true := by simp; omega
            have hge : decide ((k : Int) + 1 < (s.size : Int)) = false := by simp; omega
            clear HN0 hE hat hd hdrop hEb
            rcases eb with eb | ⟨eb, eb2⟩
            all_goals
              go_wp2_with fail
              refine (isDigit_any c _).mono ?_
              rintro e w1 ⟨rfl, rfl⟩
              go_wp2_with fail
              go_ret
              exact ⟨by rw [FIN.out]; rfl, rfl⟩
        · have FIN : Hid ((Lx.numLen s.data.toList : Int) = k) := by
            show (Lx.numLen s.data.toList : Int) = k
            rw [Lx.num_other _ c _ (by rw [HN0.out]; exact hd) (by simp; exact fun h => hE (Or.inl h)) (by simp; exact fun h => hE (Or.inr h)), HN0.out]
          have e1 : ((c.toNat : Int) != 101) = true := by
            rw [bne_iff_ne]; intro h; exact hE (Or.inl (UInt8.toNat_inj.1 (by simpa using (by omega : c.toNat = 101))))
          have e2 : ((c.toNat : Int) != 69) = true := by
            rw [bne_iff_ne]; intro h; exact hE (Or.inr (UInt8.toNat_inj.1 (by simpa using (by omega : c.toNat = 69))))
          clear HN0 hE hat hd
          go_wp2_with (go_at_call 36; refine (isDigit_any c _).mono ?_; rintro e w1 ⟨rfl, rfl⟩)
          go_ret
          exact ⟨by rw [FIN.out]; rfl, rfl⟩

end Go.Proofs.Qxb6613163aDoor
