/-
  THE WALK of the law (5).
-/
import Derived.Test.Qxb6613537aFmtWq
namespace Go.Proofs.Qxb6613537aFmt
open Go.RowKit
open Pl

theorem read_bounds : ∀ (n : Nat) (s : List UInt8), s.length ≤ n → (read s).1.length ≤ s.length ∧ ∀ p ∈ (read s).1, p.1.length ≤ s.length
  | n, [], _ => by simp [read_nil]
  | 0, c :: s, h => by simp at h
  | n + 1, c :: s, h => by
    generalize hA : c :: s = A at *
    have hne : A ≠ [] := by rw [← hA]; simp
    cases hok : okF (fld A) with
    | false => rw [read_bad A hne hok]; simp
    | true =>
      have hp := tokLen_pos A hne
      obtain ⟨i1, i2⟩ := read_bounds n (A.drop (tokLen A)) (by rw [List.length_drop]; omega)
      rw [List.length_drop] at i1 i2
      have htl := tokLen_le A
      rw [read_ok A hne hok]
      refine ⟨by simp; omega, fun p hp' => ?_⟩
      rw [List.mem_cons] at hp'
      rcases hp' with rfl | hp'
      · exact idx_le A
      · have := i2 p hp'; omega

theorem read_ne (a : List UInt8) (h : a ≠ []) (hr : (read a).2 = false) : (read a).1 ≠ [] := by
  cases hok : okF (fld a) with
  | false => rw [read_bad a h hok] at hr; cases hr
  | true => rw [read_ok a h hok]; simp

theorem reader_any (w : World) (ev : Value) (m : Int) (_gl : Gl w ev m) (s : ByteArray) :
    Calls Tryf.prog 8 #[.string s] w fun e w' => ∃ M S R, e = .returned (.pointer (some ⟨M, 0, none⟩)) ∧ Below w.heap.size w w' ∧ RSt w' w.heap.size M S R s s.data.toList ev := by
  refine (newReader_any s w).mono ?_
  rintro e w' ⟨M, S, R, B, cur, rfl, h1, h2, h3, h4, h5, h6, h7⟩
  refine ⟨M, S, R, rfl, h7, h1, h6, ⟨B, 65536, 0, 0, 0, _, false, 0, false, cur, [], h2, by omega, by omega, by omega, by omega, by omega, (fun h => by cases h), ?_, ?_, h5⟩, h3, h4⟩
  · rfl
  · simp

theorem vrow_take {α : Type} {enc : α → Value} {w : World} {g off cap : Nat} {T1 T2 : List α} (hc : (T1 ++ T2).length ≤ cap) (h : ∀ j f, (T1 ++ T2)[j]? = some f → w.cell? ⟨g, off + j, none⟩ = some (enc f)) : VRow enc w (.slice (some ⟨g, off, none⟩) T1.length cap) T1 :=
  Or.inr ⟨g, off, cap, rfl, by rw [List.length_append] at hc; omega, fun j f hf => h j f (by rw [List.getElem?_append_left (List.getElem?_eq_some_iff.1 hf).1]; exact hf)⟩

theorem vrow_drop {α : Type} {enc : α → Value} {w : World} {g off cap : Nat} {T1 T2 : List α} (hc : (T1 ++ T2).length ≤ cap) (h : ∀ j f, (T1 ++ T2)[j]? = some f → w.cell? ⟨g, off + j, none⟩ = some (enc f)) : VRow enc w (.slice (some ⟨g, off + T1.length, none⟩) T2.length (cap - T1.length)) T2 :=
  Or.inr ⟨g, off + T1.length, cap - T1.length, rfl, by rw [List.length_append] at hc; omega, fun j f hf => by
    rw [Nat.add_assoc]
    exact h (T1.length + j) f (by rw [List.getElem?_append_right (by omega), Nat.add_sub_cancel_left]; exact hf)⟩

theorem vrow_none {α : Type} {enc : α → Value} {w : World} {g off cap : Nat} {T : List α} (h : T = []) : VRow enc w (.slice (some ⟨g, off, none⟩) 0 cap) T := by
  subst h
  exact Or.inr ⟨g, off, cap, rfl, by simp, fun j f hf => by simp at hf⟩

set_option maxHeartbeats 16000000 in
set_option maxRecDepth 1000000 in
theorem law_any (w : World) (ev : Value) (m : Int) (gl : Gl w ev m) (a b : ByteArray) (ha : a.size ≤ maxLen) (hb : b.size ≤ maxLen) :
    Calls Tryf.prog 5 #[.string a, .string b] w fun e w' => e = .returned (.bool true) ∧ Below w.heap.size w w' := by
  have hml : maxLen ≤ 9223372036854775807 := by unfold maxLen; omega
  have Z : Hid (_) := zzBytes_any a b w ha hb
  replace gl : Hid (_) := gl
  go_enter Tryf.func5, Tryf.ntmps5
  go_wp2_with fail
  refine Calls.mono Z.out ?_
  rintro e w1 ⟨⟨zb, rfl⟩, rfl⟩
  clear Z
  cases zb
  · go_wp2
    go_ret
    exact ⟨rfl, Below.refl _ _⟩
  by_cases h1 : a.size ≤ 524288
  case neg =>
    have d1 : decide ((524288 : Int) < (a.size : Int)) = true := by simp; omega
    have d1' : decide (524288 < a.size) = true := by simp; omega
    go_wp2
    go_ret
    exact ⟨rfl, Below.refl _ _⟩
  have d1 : decide (524288 < a.size) = false := by simp; omega
  by_cases h2 : b.size ≤ 524288
  case neg =>
    have d2 : decide ((524288 : Int) < (b.size : Int)) = true := by simp; omega
    have d2' : decide (524288 < b.size) = true := by simp; omega
    go_wp2
    go_ret
    exact ⟨rfl, Below.refl _ _⟩
  have d2 : decide (524288 < b.size) = false := by simp; omega
  by_cases h3 : a.size = 0
  · have e0 : ((a.size : Int) == 0) = true := by rw [beq_iff_eq]; omega
    go_wp2
    go_ret
    exact ⟨rfl, Below.refl _ _⟩
  have e0 : ((a.size : Int) == 0) = false := by rw [beq_eq_false_iff_ne]; omega
  obtain ⟨p, hp⟩ : ∃ p, a.size = p + 1 := ⟨a.size - 1, by omega⟩
  have hpl : p < a.size := by omega
  obtain ⟨x, hx⟩ : ∃ x : UInt8, a[p]'hpl = x := ⟨_, rfl⟩
  have kp : (a.size : Int) - 1 = (p : Int) := by omega
  have hpl' : (p : Int) < (a.size : Int) := by omega
  have hxl : Hid (a.data.toList[p]? = some x) := by
    show _ = _
    rw [← hx]; exact Lib.data_getElem? a p hpl
  replace hp : Hid (_) := hp
  by_cases hxn : x = 10
  case neg =>
    have en : ((x.toNat : Int) == 10) = false := by
      rw [beq_eq_false_iff_ne]
      intro h
      exact hxn (UInt8.toNat_inj.1 (by show x.toNat = 10; omega))
    have en' : ((x.toNat : Int) != 10) = true := by
      rw [bne_iff_ne]
      intro h
      exact hxn (UInt8.toNat_inj.1 (by show x.toNat = 10; omega))
    go_wp2
    go_ret
    exact ⟨rfl, Below.refl _ _⟩
  subst hxn
  have hlast : Hid (a.data.toList.getLast? = some 10) := by
    show _ = _
    rw [List.getLast?_eq_getElem?, Array.length_toList, show a.data.size - 1 = p from by have h' : a.data.size = p + 1 := hp.out; omega]
    exact hxl.out
  have hane : Hid (a.data.toList ≠ []) := by
    intro h
    have := hlast.out
    rw [h] at this
    cases this
  have hsd : (a ++ b).data.toList = a.data.toList ++ b.data.toList := by rw [ByteArray.data_append]; simp
  have hss : (a ++ b).size = a.size + b.size := by simp
  have LW : Hid (_) := read_app _ a.data.toList b.data.toList (Nat.le_refl _) (Or.inr hlast.out)
  rw [← hsd] at LW
  have RB : Hid (_) := read_rebuild _ a.data.toList (Nat.le_refl _) (Or.inr hlast.out)
  have BA : Hid (_) := read_bounds _ a.data.toList (Nat.le_refl _)
  have BB : Hid (_) := read_bounds _ b.data.toList (Nat.le_refl _)
  have CL : Hid (_) := read_clean _ a.data.toList (Nat.le_refl _)
  have NE : Hid (_) := read_ne a.data.toList hane.out
  have al : a.data.toList.length = a.size := Array.length_toList
  have bl : b.data.toList.length = b.size := Array.length_toList
  rw [al] at BA
  rw [bl] at BB
  replace hsd : Hid (_) := hsd
  replace hss : Hid (_) := hss
  replace al : Hid (_) := al
  replace bl : Hid (_) := bl
  -- the first reading
  go_wp2_with fail
  clear hx hxl hpl hpl' kp
  obtain ⟨s, hsv⟩ : ∃ s, a ++ b = s := ⟨_, rfl⟩
  rw [hsv] at hsd hss LW ⊢
  clear hsv
  refine (reader_any w1 ev m gl.out a).mono ?_
  rintro e w2 ⟨M1, S1, R1, rfl, hb2, hr2⟩
  replace hb2 : Hid (_) := hb2
  have A1 : Hid (_) := readAll_any w1 ev m gl.out a (by omega) w2 M1 S1 R1 hb2 hr2
  clear hr2
  go_wp2_with fail
  refine Calls.mono A1.out ?_
  rintro e w3 ⟨ta, ea, rfl, va, wa, hb3⟩
  have VA : Hid (VRow encS w3 ta ((read a.data.toList).1.map (·.1))) := va
  have WA : Hid (VRow Value.bool w3 ea ((read a.data.toList).1.map (·.2))) := wa
  replace hb3 : Hid (Below w1.heap.size w1 w3) := hb3
  have hs3 := hb3.out.size
  clear va wa A1 hb2
  -- the second
  have G3 : Hid (Gl w3 ev m) := gl.out.below hb3.out
  go_wp2_with fail
  refine (reader_any w3 ev m G3.out b).mono ?_
  rintro e w4 ⟨M2, S2, R2, rfl, hb4, hr4⟩
  replace hb4 : Hid (_) := hb4
  have A2 : Hid (_) := readAll_any w3 ev m G3.out b (by omega) w4 M2 S2 R2 hb4 hr4
  clear hr4
  go_wp2_with fail
  refine Calls.mono A2.out ?_
  rintro e w5 ⟨tb, eb, rfl, vb, wb, hb5⟩
  have VA5 : Hid (VRow encS w5 ta ((read a.data.toList).1.map (·.1))) := VA.out.below hb5
  have WA5 : Hid (VRow Value.bool w5 ea ((read a.data.toList).1.map (·.2))) := WA.out.below hb5
  have VB5 : Hid (VRow encS w5 tb ((read b.data.toList).1.map (·.1))) := vb
  have WB5 : Hid (VRow Value.bool w5 eb ((read b.data.toList).1.map (·.2))) := wb
  have HB5 : Hid (Below w1.heap.size w1 w5) := hb3.out.trans (hb5.mono hs3)
  have G5 : Hid (Gl w5 ev m) := G3.out.below hb5
  have hs5 := HB5.out.size
  clear vb wb A2 hb4 hb5 VA WA hb3 G3
  -- the third
  go_wp2_with fail
  refine (reader_any w5 ev m G5.out s).mono ?_
  rintro e w6 ⟨M3, S3, R3, rfl, hb6, hr6⟩
  replace hb6 : Hid (_) := hb6
  have A3 : Hid (_) := readAll_any w5 ev m G5.out s (by rw [hss.out]; omega) w6 M3 S3 R3 hb6 hr6
  clear hr6
  go_wp2_with fail
  refine Calls.mono A3.out ?_
  rintro e w7 ⟨ts, es, rfl, vs, ws, hb7⟩
  have VA7 : Hid (VRow encS w7 ta ((read a.data.toList).1.map (·.1))) := VA5.out.below hb7
  have WA7 : Hid (VRow Value.bool w7 ea ((read a.data.toList).1.map (·.2))) := WA5.out.below hb7
  have VB7 : Hid (VRow encS w7 tb ((read b.data.toList).1.map (·.1))) := VB5.out.below hb7
  have WB7 : Hid (VRow Value.bool w7 eb ((read b.data.toList).1.map (·.2))) := WB5.out.below hb7
  have HB7 : Hid (Below w1.heap.size w1 w7) := HB5.out.trans (hb7.mono hs5)
  have hs7 := HB7.out.size
  have VS7 : Hid (VRow encS w7 ts ((read s.data.toList).1.map (·.1))) := vs
  have WS7 : Hid (VRow Value.bool w7 es ((read s.data.toList).1.map (·.2))) := ws
  clear vs ws A3 hb6 hb7 VA5 WA5 VB5 WB5 HB5 G5
  obtain ⟨ra, hra⟩ : ∃ r, read a.data.toList = r := ⟨_, rfl⟩
  obtain ⟨rb, hrb⟩ : ∃ r, read b.data.toList = r := ⟨_, rfl⟩
  obtain ⟨rs, hrs⟩ : ∃ r, read s.data.toList = r := ⟨_, rfl⟩
  rw [hra] at VA7 WA7 RB BA CL NE LW ⊢
  rw [hrb] at VB7 WB7 BB LW ⊢
  rw [hrs] at VS7 WS7 LW ⊢
  clear hra hrb hrs
  have FO : Hid (_) := allOK_yes w7 ta (ra.1.map (·.1)) VA7.out (by rw [List.length_map]; have := BA.out.1; omega) (fun f hf => by
    rw [List.mem_map] at hf
    obtain ⟨q, hq, rfl⟩ := hf
    obtain ⟨c1, c2⟩ := CL.out q hq
    have hl := BA.out.2 q hq
    unfold okF at c1
    simp only [Bool.and_eq_true, Bool.not_eq_true', List.isEmpty_eq_false_iff, List.all_eq_true] at c1
    exact ⟨c1.1, by omega, fun c hc => ⟨c2 c hc, c1.2 c hc⟩⟩)
  go_wp2_with fail
  refine Calls.mono FO.out ?_
  rintro e w8 ⟨rfl, rfl⟩
  clear FO CL
  obtain ⟨la, fa⟩ := ra
  obtain ⟨lb, fb⟩ := rb
  obtain ⟨ls, fs⟩ := rs
  simp only at VA7 WA7 VB7 WB7 VS7 WS7 RB BA BB NE ⊢
  have hla : la.length ≤ 524288 := by have := BA.out.1; omega
  have hlb : lb.length ≤ 524288 := by have := BB.out.1; omega
  have hpre : Hid (∃ t, a.data.toList = rebuild la ++ t) := RB.out.1
  have hrl : (rebuild la).length ≤ 2097152 := by
    obtain ⟨t, ht⟩ := hpre.out
    have := congrArg List.length ht
    rw [List.length_append, al.out] at this
    omega
  cases fa
  case true =>
    have e1 : (ls, fs) = (la, true) := LW.out
    obtain ⟨rfl, rfl⟩ := Prod.mk.inj e1
    clear e1
    have SY : Hid (_) := same_yes w8 ts es ta ea (ls.map (·.1)) (ls.map (·.2)) VS7.out WS7.out VA7.out WA7.out (by rw [List.length_map, List.length_map]) (by rw [List.length_map]; omega)
    go_wp2_with fail
    refine Calls.mono SY.out ?_
    rintro e w9 ⟨rfl, hb9⟩
    have VA9 : VRow encS w9 ta (ls.map (·.1)) := VA7.out.below hb9
    have WA9 : VRow Value.bool w9 ea (ls.map (·.2)) := WA7.out.below hb9
    have HB9 : Hid (Below w1.heap.size w1 w9) := HB7.out.trans (hb9.mono hs7)
    have RA : Hid (_) := rebuild_any w9 ta ea ls VA9 WA9 (by omega) hrl
    have hs9 := HB9.out.size
    clear SY hb9 VA9 WA9
    go_wp2_with fail
    refine Calls.mono RA.out ?_
    rintro e w10 ⟨rfl, hb10⟩
    have HB10 : Hid (Below w1.heap.size w1 w10) := HB9.out.trans (hb10.mono hs9)
    have HP : Hid (_) := hasPrefix_yes w10 a ⟨(rebuild ls).toArray⟩ (by omega) (by
      obtain ⟨t, ht⟩ := hpre.out
      have := congrArg List.length ht
      rw [List.length_append, al.out] at this
      show (rebuild ls).length ≤ a.size
      omega) (fun k q1 q2 => by
      obtain ⟨t, ht⟩ := hpre.out
      have f1 := Lib.data_getElem? a k q2
      have f2 := Lib.data_getElem? ⟨(rebuild ls).toArray⟩ k q1
      rw [ht, List.getElem?_append_left q1] at f1
      exact Option.some.inj (f1.symm.trans f2))
    have hs10 := HB10.out.size
    clear RA hb10
    go_wp2_with fail
    refine Calls.mono HP.out ?_
    rintro e w11 ⟨rfl, hb11⟩
    have HB11 : Hid (Below w1.heap.size w1 w11) := HB10.out.trans (hb11.mono hs10)
    clear hb11 HP
    go_wp2
    go_ret
    exact ⟨rfl, HB11.out⟩
  case false =>
    have e1 : (ls, fs) = (la ++ lb, fb) := LW.out
    obtain ⟨rfl, rfl⟩ := Prod.mk.inj e1
    clear e1
    have hlne : la ≠ [] := NE.out rfl
    have hreb : rebuild la = a.data.toList := RB.out.2 rfl
    have RA : Hid (_) := rebuild_any w8 ta ea la VA7.out WA7.out (by omega) hrl
    have hstr : (⟨(rebuild la).toArray⟩ : ByteArray) = a := by rw [hreb]
    rw [hstr] at RA
    clear hstr hreb
    go_wp2_with fail
    refine Calls.mono RA.out ?_
    rintro e w9 ⟨rfl, hb9⟩
    have VA9 : Hid (VRow encS w9 ta (la.map (·.1))) := VA7.out.below hb9
    have WA9 : Hid (VRow Value.bool w9 ea (la.map (·.2))) := WA7.out.below hb9
    have VB9 : Hid (VRow encS w9 tb (lb.map (·.1))) := VB7.out.below hb9
    have WB9 : Hid (VRow Value.bool w9 eb (lb.map (·.2))) := WB7.out.below hb9
    have VS9 : VRow encS w9 ts ((la ++ lb).map (·.1)) := VS7.out.below hb9
    have WS9 : VRow Value.bool w9 es ((la ++ lb).map (·.2)) := WS7.out.below hb9
    have HB9 : Hid (Below w1.heap.size w1 w9) := HB7.out.trans (hb9.mono hs7)
    have hs9 := HB9.out.size
    clear RA hb9 VA7 WA7 VB7 WB7 VS7 WS7
    rw [List.map_append] at VS9 WS9
    have hTa : (la.map (·.1)).length = la.length := List.length_map _
    have hTa2 : (la.map (·.2)).length = la.length := List.length_map _
    have hTb : (lb.map (·.1)).length = lb.length := List.length_map _
    have hTb2 : (lb.map (·.2)).length = lb.length := List.length_map _
    obtain ⟨g1, o1, c1, rfl, p1, q1⟩ := VS9.resolve_left (fun h => hlne (List.map_eq_nil_iff.1 (List.append_eq_nil_iff.1 h.1).1))
    obtain ⟨g2, o2, c2, rfl, p2, q2⟩ := WS9.resolve_left (fun h => hlne (List.map_eq_nil_iff.1 (List.append_eq_nil_iff.1 h.1).1))
    have ta_s : ∃ x c, ta = .slice x la.length c := by
      rcases VA9.out with ⟨h, _⟩ | ⟨g, o, c, h, _⟩
      · exact absurd (List.map_eq_nil_iff.1 h) hlne
      · exact ⟨_, _, by rw [h, hTa]⟩
    have tb_s : ∃ x c, tb = .slice x lb.length c := by
      rcases VB9.out with ⟨h, h'⟩ | ⟨g, o, c, h, _⟩
      · exact ⟨_, _, by rw [h', List.map_eq_nil_iff.1 h]; rfl⟩
      · exact ⟨_, _, by rw [h, hTb]⟩
    obtain ⟨xa, ca, rfl⟩ := ta_s
    obtain ⟨xb, cb, rfl⟩ := tb_s
    have hL1 : (la.map (·.1) ++ lb.map (·.1)).length = la.length + lb.length := by rw [List.length_append, hTa, hTb]
    have hL2 : (la.map (·.2) ++ lb.map (·.2)).length = la.length + lb.length := by rw [List.length_append, hTa2, hTb2]
    have VT : Hid (VRow encS w9 (.slice (some ⟨g1, o1, none⟩) la.length c1) (la.map (·.1))) := by
      have := vrow_take (T1 := la.map (·.1)) (T2 := lb.map (·.1)) p1 q1
      rw [hTa] at this; exact this
    have WT : Hid (VRow Value.bool w9 (.slice (some ⟨g2, o2, none⟩) la.length c2) (la.map (·.2))) := by
      have := vrow_take (T1 := la.map (·.2)) (T2 := lb.map (·.2)) p2 q2
      rw [hTa2] at this; exact this
    have VD : Hid (VRow encS w9 (.slice (some ⟨g1, o1 + la.length, none⟩) lb.length (c1 - la.length)) (lb.map (·.1))) := by
      have := vrow_drop (T1 := la.map (·.1)) (T2 := lb.map (·.1)) p1 q1
      rw [hTa, hTb] at this; exact this
    have WD : Hid (VRow Value.bool w9 (.slice (some ⟨g2, o2 + la.length, none⟩) lb.length (c2 - la.length)) (lb.map (·.2))) := by
      have := vrow_drop (T1 := la.map (·.2)) (T2 := lb.map (·.2)) p2 q2
      rw [hTa2, hTb2] at this; exact this
    rw [hL1] at p1 ⊢
    rw [hL2] at p2 ⊢
    clear q1 q2 hL1 hL2 VS9 WS9 hTa hTa2 hTb hTb2
    have i1 : (la.length : Int) ≤ ((la.length + lb.length : Nat) : Int) := by omega
    have i1' : (la.length : Int) ≤ (la.length : Int) + (lb.length : Int) := by omega
    have i2 : (la.length : Int) ≤ (c1 : Int) := by omega
    have i3 : (la.length : Int) ≤ (c2 : Int) := by omega
    have DR : Below w9.heap.size w9 w9.drew := (Below.refl _ w9).drew
    have SY : Hid (_) := same_yes w9.drew (.slice (some ⟨g1, o1, none⟩) la.length c1) (.slice (some ⟨g2, o2, none⟩) la.length c2) (.slice xa la.length ca) ea (la.map (·.1)) (la.map (·.2)) (VT.out.below DR) (WT.out.below DR) (VA9.out.below DR) (WA9.out.below DR) (by rw [List.length_map, List.length_map]) (by rw [List.length_map]; omega)
    clear DR VT WT
    go_wp2_with fail
    refine wp_region_call 10 (by kernel_rfl) (by kernel_rfl) (by
      rintro ⟨_, w', h⟩
      have h' : Ending.outgrown = .returned (.bool true) ∧ Below w1.heap.size w1 w' := h
      cases h'.1) ?_
    simp only [List.take_succ_cons, List.take_zero, List.drop_succ_cons, List.drop_zero]
    repeat still_step
    try refine wpStill_nil ?_
    go_wp2_with fail
    refine Calls.mono SY.out ?_
    rintro e w10 ⟨rfl, hb10'⟩
    have hb10 : Below w9.heap.size w9 w10 := ((Below.refl _ w9).drew).trans hb10'
    have VB10 : Hid (VRow encS w10 (.slice xb lb.length cb) (lb.map (·.1))) := VB9.out.below hb10
    have WB10 : Hid (VRow Value.bool w10 eb (lb.map (·.2))) := WB9.out.below hb10
    have VD10 : Hid (VRow encS w10 (.slice (some ⟨g1, o1 + la.length, none⟩) lb.length (c1 - la.length)) (lb.map (·.1))) := VD.out.below hb10
    have WD10 : Hid (VRow Value.bool w10 (.slice (some ⟨g2, o2 + la.length, none⟩) lb.length (c2 - la.length)) (lb.map (·.2))) := WD.out.below hb10
    have HB10 : Hid (Below w1.heap.size w1 w10) := HB9.out.trans (hb10.mono hs9)
    have hs10 := HB10.out.size
    clear SY hb10 hb10' VA9 WA9 VB9 WB9 VD WD
    have FINAL : Hid (∀ (v1 v2 : Value), VRow encS w10 v1 (lb.map (·.1)) → VRow Value.bool w10 v2 (lb.map (·.2)) → Calls Tryf.prog 16 #[v1, v2, .slice xb lb.length cb, eb] w10.drew fun e w' => e = .returned (.bool true) ∧ Below w1.heap.size w1 w') := fun v1 v2 r1 r2 => by
      have DR : Below w10.heap.size w10 w10.drew := (Below.refl _ w10).drew
      refine (same_yes w10.drew v1 v2 _ eb (lb.map (·.1)) (lb.map (·.2)) (r1.below DR) (r2.below DR) (VB10.out.below DR) (WB10.out.below DR) (by rw [List.length_map, List.length_map]) (by rw [List.length_map]; omega)).mono ?_
      rintro e w' ⟨h1, h2⟩
      exact ⟨h1, HB10.out.trans ((DR.trans h2).mono hs10)⟩
    by_cases e1 : c1 = la.length
    case' pos =>
      have x1 : (c1 == la.length) = true := by rw [beq_iff_eq]; exact e1
      have hlb0 : lb.length = 0 := by omega
      rw [hlb0] at FINAL VD10 WD10
    case' neg =>
      have x1 : (c1 == la.length) = false := by rw [beq_eq_false_iff_ne]; exact e1
    all_goals
      by_cases e2 : c2 = la.length
      case' pos =>
        have x2 : (c2 == la.length) = true := by rw [beq_iff_eq]; exact e2
        have hlb1 : lb.length = 0 := by omega
        try rw [hlb1] at FINAL VD10 WD10
      case' neg =>
        have x2 : (c2 == la.length) = false := by rw [beq_eq_false_iff_ne]; exact e2
    all_goals
      go_wp2_with fail
      refine wp_region_call 10 (by kernel_rfl) (by kernel_rfl) (by
        rintro ⟨_, w', h⟩
        have h' : Ending.outgrown = .returned (.bool true) ∧ Below w1.heap.size w1 w' := h
        cases h'.1) ?_
      simp only [List.take_succ_cons, List.take_zero, List.drop_succ_cons, List.drop_zero]
      repeat still_step
      try refine wpStill_nil ?_
      go_wp2_with fail
      refine (FINAL.out _ _ ?r1 ?r2).mono ?_
      case r1 => first | exact VD10.out | exact vrow_none (List.eq_nil_of_length_eq_zero (by rw [List.length_map]; assumption))
      case r2 => first | exact WD10.out | exact vrow_none (List.eq_nil_of_length_eq_zero (by rw [List.length_map]; assumption))
      rintro e w11 ⟨rfl, hb11⟩
      replace hb11 : Hid (_) := hb11
      go_wp2
      go_ret
      exact ⟨rfl, hb11.out⟩

end Go.Proofs.Qxb6613537aFmt
