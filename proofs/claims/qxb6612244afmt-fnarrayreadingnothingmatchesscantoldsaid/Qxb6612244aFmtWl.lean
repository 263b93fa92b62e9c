/-
  THE WALK of the law itself (3), at a bracket.
-/
import Derived.Test.Qxb6612244aFmtWk
namespace Go.Proofs.Qxb6612244aFmt
open Go.RowKit Go.Extern.Stop Go.Stop Go.Extern

/-- WHAT THE LAW's WALK IS TOLD. -/
structure St (F : Interp) (w : World) (b off len : Nat) (z : List Int) (pos : Nat) : Prop where
  ans : F.answers w.tape
  short : Short F
  tabs : Lib.Utf8Tabs 0 1 w
  hb : b < w.heap.size
  cells : ∀ j, j < len → w.cell? ⟨b, off + j, none⟩ = some (.int .u8 (z.getD j 0))
  zl : z.length = len
  wf : ∀ x ∈ z, 0 ≤ x ∧ x ≤ 255
  le : len ≤ 1048576
  hp : pos < len
  br : z.getD pos 0 = 91

theorem St.two {F : Interp} {w : World} {b off len : Nat} {z : List Int} {pos : Nat} (h : St F w b off len z pos) : 1 < w.heap.size :=
  block_lt_of_cell (h.tabs.2 0 (by omega)).1

set_option maxHeartbeats 4000000 in
set_option maxRecDepth 100000 in
theorem main_full {w : World} {F : Interp} {b off len cap pos : Nat} {z : List Int} (h : St F w b off len z pos) :
    Calls Tryf.prog 3 #[.slice (some ⟨b, off, none⟩) len cap, .int .i64 pos, .int .i64 32] w fun e w' => e = .returned (.bool true) ∧ Below w.heap.size w w' := by
  have H : Hid (St F w b off len z pos) := h
  have hle := h.le
  have hc := h.cells pos h.hp
  rw [h.br] at hc
  have hp' : (pos : Int) < (len : Int) := by have := h.hp; omega
  clear h
  go_enter Tryf.func3, Tryf.ntmps3
  go_wp2_with fail
  refine (zzBytes_yes _ len cap pos 32 w hle).mono ?_
  rintro e w0 ⟨rfl, hw0⟩
  subst hw0
  go_wp2_with fail
  refine (clone_any hle H.out.zl H.out.hb H.out.cells).mono ?_
  rintro e w1 ⟨rfl, hd1, hb1, hs1⟩
  clear hc
  go_wp2_with fail
  refine (new_any (d := 32) (pos := pos) (by omega)).mono ?_
  rintro e w2 ⟨B, rfl, hB, hr2, hz2, ⟨xs, ho2⟩, hb2⟩
  have hF2 : F.answers w2.tape := by rw [hb2.tape, hb1.tape]; exact H.out.ans
  go_wp2_with fail
  refine (arr7_full F hF2 (by exact hr2) hz2).mono ?_
  rintro e w3 ⟨v, rfl, hg3⟩
  have hr3 := hr2.grown hg3 (by simp)
  have hz3 := hz2.grown hg3 (by simp)
  have FR : Hid (Below w0.heap.size w0 w3) := (hb1.trans (hb2.mono (by omega))).grown hg3 (by have := hb1.size; have := hb2.size; omega) (fun k e => by cases e)
  clear hF2 hg3 hr2 hz2 ho2 hb2 hd1
  go_wp2_with fail
  refine (pos_any hr3).mono ?_
  rintro e w4 ⟨rfl, hw4⟩
  subst hw4
  go_wp2_with fail
  refine (depth_any hr3).mono ?_
  rintro e w5 ⟨rfl, hw5⟩
  subst hw5
  go_wp2_with fail
  refine (count_any hr3).mono ?_
  rintro e w6 ⟨rfl, hw6⟩
  subst hw6
  go_wp2_with fail
  refine (more_any hr3).mono ?_
  rintro e w7 ⟨rfl, hw7⟩
  subst hw7
  go_wp2_with fail
  refine (outer_any (d := 32) hr3 (by omega) (by omega) hz3).mono ?_
  rintro e w8 ⟨rfl, hg8⟩
  go_wp2
  go_ret
  exact ⟨rfl, FR.out.grown hg8 (by have := FR.out.size; omega) (fun k e => by cases e)⟩

set_option maxHeartbeats 4000000 in
set_option maxRecDepth 100000 in
theorem main_ok {w : World} {F : Interp} {b off len cap pos d : Nat} {z : List Int} (h : St F w b off len z pos) (hd : d ≤ 31) (hlt : pos + 1 + Pl.scL (z.drop (pos + 1)) < len) (h93 : z.getD (pos + 1 + Pl.scL (z.drop (pos + 1))) 0 = 93) :
    Calls Tryf.prog 3 #[.slice (some ⟨b, off, none⟩) len cap, .int .i64 pos, .int .i64 d] w fun e w' => e = .returned (.bool true) ∧ Below w.heap.size w w' := by
  have H : Hid (St F w b off len z pos) := h
  have hle := h.le
  have hc := h.cells pos h.hp
  rw [h.br] at hc
  have hp' : (pos : Int) < (len : Int) := by have := h.hp; omega
  have hp0 : (pos : Int) ≤ 1048576 := by omega
  have b1 : decide ((1048576 : Int) < (len : Int)) = false := by simp; omega
  have b2 : decide ((pos : Int) < 0) = false := by simp
  have b3 : decide ((d : Int) < 0) = false := by simp
  have b4 : decide ((32 : Int) < (d : Int)) = false := by simp; omega
  have b5 : decide ((len : Int) ≤ (pos : Int)) = false := by simp; omega
  have b6 : ((d : Int) == 32) = false := by simp; omega
  clear h
  go_enter Tryf.func3, Tryf.ntmps3
  go_wp2_with fail
  refine (zzBytes_yes _ len cap pos d w hle).mono ?_
  rintro e w0 ⟨rfl, hw0⟩
  subst hw0
  go_wp2_with fail
  refine (clone_any hle H.out.zl H.out.hb H.out.cells).mono ?_
  rintro e w1 ⟨rfl, hd1, hb1, hs1⟩
  clear hc
  go_wp2_with fail
  refine (new_any (d := d) (pos := pos) (by omega)).mono ?_
  rintro e w2 ⟨B, rfl, hB, hr2, hz2, ⟨xs, ho2⟩, hb2⟩
  have h2 := H.out.two
  have NX : Hid (Nx F w2 B w0.heap.size len z) := by
    have hbel : Below w0.heap.size w0 w2 := hb1.trans (hb2.mono (by omega))
    refine ⟨by rw [hbel.tape]; exact H.out.ans, H.out.short, ⟨fun c hc => (hbel.cell (p := ⟨0, c, none⟩) (by show 0 < w0.heap.size; omega)).trans (H.out.tabs.1 c hc), fun i hi => ⟨(hbel.cell (p := ⟨1, 2 * i, none⟩) h2).trans (H.out.tabs.2 i hi).1, (hbel.cell (p := ⟨1, 2 * i + 1, none⟩) h2).trans (H.out.tabs.2 i hi).2⟩⟩,
      fun j hj => (hb2.cell (p := ⟨w0.heap.size, j, none⟩) hs1).trans (hd1 j hj), H.out.zl, H.out.wf, hle, by omega, by omega⟩
  have hsz2 := hb2.size
  go_wp2_with fail
  refine (arr7_ok (bp := w1.heap.size) NX.out (by exact hr2) ho2 hz2 hd H.out.hp (by omega) (by omega) hs1 (by omega) hlt h93).mono ?_
  rintro e w3 ⟨rfl, g3, c3, hr3, hz3, hb3⟩
  have FR : Hid (Below w0.heap.size w0 w3) := hb1.trans ((hb2.trans hb3).mono (by omega))
  have hd3 : Dat w3 w0.heap.size z := fun j hj => (hb3.cell (p := ⟨w0.heap.size, j, none⟩) hs1).trans (NX.out.dat j hj)
  have ZL : Hid (z.length = len) := H.out.zl
  have hjn := hlt
  generalize hJ : pos + 1 + Pl.scL (z.drop (pos + 1)) = J at hlt h93 hr3
  have HJ : Hid (pos + 1 + Pl.scL (z.drop (pos + 1)) = J) := hJ
  clear hr2 hz2 ho2 hb2 hd1 NX hb3 hJ hjn hb1
  go_wp2_with fail
  refine (pos_any hr3).mono ?_
  rintro e w4 ⟨rfl, hw4⟩
  subst hw4
  go_wp2_with fail
  refine (depth_any hr3).mono ?_
  rintro e w5 ⟨rfl, hw5⟩
  subst hw5
  go_wp2_with fail
  refine (count_any hr3).mono ?_
  rintro e w6 ⟨rfl, hw6⟩
  subst hw6
  go_wp2_with fail
  refine (more_any hr3).mono ?_
  rintro e w7 ⟨rfl, hw7⟩
  subst hw7
  go_wp2_with fail
  go_loopg [11, 12] len (fun k jv cv wr => ∃ p x : Nat, len ≤ p + k ∧ jv = .int .i64 p ∧ cv = .int .i64 x ∧ x ≤ p ∧ p + Pl.scL (z.drop p) = J ∧ wr = w7)
  case atStart => exact ⟨pos + 1, 0, by omega, by go_num, rfl, by omega, HJ.out, rfl⟩
  case round =>
    obtain ⟨p, x, hk, rfl, rfl, hxp, hJp, hwr⟩ := hrel
    subst hwr
    have hpl : p < len := by omega
    have hpl' : (p : Int) < (len : Int) := by omega
    have hcp := hd3 p (by rw [ZL.out]; exact hpl)
    have HP : Hid (p + Pl.scL (z.drop p) = J) := hJp
    clear hJp HJ
    by_cases hs : Pl.isSc (z.getD p 0) = true
    · have NX : Hid (p + 1 + Pl.scL (z.drop (p + 1)) = J) := by
        have e := (Pl.sc_yes z p (by rw [ZL.out]; exact hpl) hs).1
        have e' := HP.out
        show p + 1 + Pl.scL (z.drop (p + 1)) = J
        omega
      generalize z.getD p 0 = c at hs hcp
      by_cases h44 : c = 44
      all_goals
        first | (have e44 : (c == 44) = true := by simpa using h44) | (have e44 : (c == 44) = false := by simpa using h44)
        clear h44
        go_wp2_with (go_at_call 13; refine (isSc_any c _).mono ?_; rintro e w8 ⟨rfl, rfl⟩)
        go_roundg (gk - 1)
        case measure => omega
        case rel => first | exact ⟨p + 1, x + 1, by omega, by go_num, by go_num, by omega, NX.out, rfl⟩ | exact ⟨p + 1, x, by omega, by go_num, rfl, by omega, NX.out, rfl⟩
    · have hs' : Pl.isSc (z.getD p 0) = false := by simpa using hs
      have hpJ : p = J := by
        have e := (Pl.sc_no z p (by rw [ZL.out]; exact hpl) hs').1
        have e' := HP.out
        omega
      subst hpJ
      rw [h93] at hcp
      clear hs hs' HP
      go_wp2_with (go_at_call 13; refine (isSc_any 93 _).mono ?_; rintro e w8 ⟨rfl, rfl⟩)
      refine (outer_any (d := d) hr3 (by omega) (by omega) hz3).mono ?_
      rintro e w9 ⟨rfl, hg9⟩
      go_wp2
      go_ret
      exact ⟨rfl, FR.out.grown hg9 (by have := FR.out.size; omega) (fun k e => by cases e)⟩

set_option maxHeartbeats 4000000 in
set_option maxRecDepth 100000 in
theorem main_bad {w : World} {F : Interp} {b off len cap pos d : Nat} {z : List Int} (h : St F w b off len z pos) (hd : d ≤ 31) (h93 : pos + 1 + Pl.scL (z.drop (pos + 1)) < len → z.getD (pos + 1 + Pl.scL (z.drop (pos + 1))) 0 ≠ 93) :
    Calls Tryf.prog 3 #[.slice (some ⟨b, off, none⟩) len cap, .int .i64 pos, .int .i64 d] w fun e w' => e = .returned (.bool true) ∧ Below w.heap.size w w' := by
  have H : Hid (St F w b off len z pos) := h
  have hle := h.le
  have hc := h.cells pos h.hp
  rw [h.br] at hc
  have hp' : (pos : Int) < (len : Int) := by have := h.hp; omega
  have hp0 : (pos : Int) ≤ 1048576 := by omega
  have b1 : decide ((1048576 : Int) < (len : Int)) = false := by simp; omega
  have b2 : decide ((pos : Int) < 0) = false := by simp
  have b3 : decide ((d : Int) < 0) = false := by simp
  have b4 : decide ((32 : Int) < (d : Int)) = false := by simp; omega
  have b5 : decide ((len : Int) ≤ (pos : Int)) = false := by simp; omega
  have b6 : ((d : Int) == 32) = false := by simp; omega
  clear h
  go_enter Tryf.func3, Tryf.ntmps3
  go_wp2_with fail
  refine (zzBytes_yes _ len cap pos d w hle).mono ?_
  rintro e w0 ⟨rfl, hw0⟩
  subst hw0
  go_wp2_with fail
  refine (clone_any hle H.out.zl H.out.hb H.out.cells).mono ?_
  rintro e w1 ⟨rfl, hd1, hb1, hs1⟩
  clear hc
  go_wp2_with fail
  refine (new_any (d := d) (pos := pos) (by omega)).mono ?_
  rintro e w2 ⟨B, rfl, hB, hr2, hz2, ⟨xs, ho2⟩, hb2⟩
  have h2 := H.out.two
  have NX : Hid (Nx F w2 B w0.heap.size len z) := by
    have hbel : Below w0.heap.size w0 w2 := hb1.trans (hb2.mono (by omega))
    refine ⟨by rw [hbel.tape]; exact H.out.ans, H.out.short, ⟨fun c hc => (hbel.cell (p := ⟨0, c, none⟩) (by show 0 < w0.heap.size; omega)).trans (H.out.tabs.1 c hc), fun i hi => ⟨(hbel.cell (p := ⟨1, 2 * i, none⟩) h2).trans (H.out.tabs.2 i hi).1, (hbel.cell (p := ⟨1, 2 * i + 1, none⟩) h2).trans (H.out.tabs.2 i hi).2⟩⟩,
      fun j hj => (hb2.cell (p := ⟨w0.heap.size, j, none⟩) hs1).trans (hd1 j hj), H.out.zl, H.out.wf, hle, by omega, by omega⟩
  have hsz2 := hb2.size
  go_wp2_with fail
  refine (arr7_bad (bp := w1.heap.size) NX.out (by exact hr2) ho2 hz2 hd H.out.hp (by omega) (by omega) hs1 (by omega) h93).mono ?_
  rintro e w3 ⟨v, rfl, g3, c3, hr3, hp3, hb3⟩
  have FR : Hid (Below w0.heap.size w0 w3) := hb1.trans ((hb2.trans hb3).mono (by omega))
  have hd3 : Dat w3 w0.heap.size z := fun j hj => (hb3.cell (p := ⟨w0.heap.size, j, none⟩) hs1).trans (NX.out.dat j hj)
  have ZL : Hid (z.length = len) := H.out.zl
  have hJl : pos + 1 + Pl.scL (z.drop (pos + 1)) ≤ len := by
    have a := Pl.scL_le (z.drop (pos + 1))
    have e := H.out.zl
    have e' := H.out.hp
    simp only [List.length_drop] at a
    omega
  have hCl : Pl.scC (z.drop (pos + 1)) ≤ len := by
    have a := Pl.scC_le (z.drop (pos + 1))
    omega
  generalize hJ : pos + 1 + Pl.scL (z.drop (pos + 1)) = J at h93 hr3 hJl
  generalize hCM : Pl.scC (z.drop (pos + 1)) = CM at hp3 hCl
  have HCM : Hid (0 + Pl.scC (z.drop (pos + 1)) = CM) := by show 0 + _ = CM; omega
  have HJ : Hid (pos + 1 + Pl.scL (z.drop (pos + 1)) = J) := hJ
  clear hr2 hz2 ho2 hb2 hd1 NX hb3 hJ hCM hb1
  go_wp2_with fail
  refine (pos_any hr3).mono ?_
  rintro e w4 ⟨rfl, hw4⟩
  subst hw4
  go_wp2_with fail
  refine (depth_any hr3).mono ?_
  rintro e w5 ⟨rfl, hw5⟩
  subst hw5
  go_wp2_with fail
  refine (count_any hr3).mono ?_
  rintro e w6 ⟨rfl, hw6⟩
  subst hw6
  go_wp2_with fail
  refine (more_any hr3).mono ?_
  rintro e w7 ⟨rfl, hw7⟩
  subst hw7
  go_wp2_with fail
  go_loopg [11, 12] len (fun k jv cv wr => ∃ p x : Nat, len ≤ p + k ∧ jv = .int .i64 p ∧ cv = .int .i64 x ∧ p + Pl.scL (z.drop p) = J ∧ x + Pl.scC (z.drop p) = CM ∧ wr = w7)
  case atStart => exact ⟨pos + 1, 0, by omega, by go_num, rfl, HJ.out, HCM.out, rfl⟩
  case round =>
    obtain ⟨p, x, hk, rfl, rfl, hJp, hCp, hwr⟩ := hrel
    subst hwr
    have HP : Hid (p + Pl.scL (z.drop p) = J) := hJp
    have HC : Hid (x + Pl.scC (z.drop p) = CM) := hCp
    have hxp : x ≤ 1048576 := by omega
    have hpJl : p ≤ J := by omega
    clear hJp HJ hCp HCM
    have hz3 := hp3.zs
    have m0 := hp3.l0
    have m1 := hp3.l1
    have m2 := hp3.l2
    by_cases hpl : p < len
    · have hpl' : (p : Int) < (len : Int) := by omega
      have hcp := hd3 p (by rw [ZL.out]; exact hpl)
      by_cases hs : Pl.isSc (z.getD p 0) = true
      · have NX : Hid (p + 1 + Pl.scL (z.drop (p + 1)) = J) := by
          have e := (Pl.sc_yes z p (by rw [ZL.out]; exact hpl) hs).1
          have e' := HP.out
          show p + 1 + Pl.scL (z.drop (p + 1)) = J
          omega
        have NC : Hid (x + (if z.getD p 0 == 44 then 1 else 0) + Pl.scC (z.drop (p + 1)) = CM) := by
          have e := (Pl.sc_yes z p (by rw [ZL.out]; exact hpl) hs).2
          have e' := HC.out
          show x + _ + Pl.scC (z.drop (p + 1)) = CM
          omega
        generalize z.getD p 0 = c at hs hcp NC
        clear HP HC m0 m1 m2 hz3
        by_cases h44 : c = 44
        · have e44 : (c == 44) = true := by simpa using h44
          rw [e44] at NC
          have NC' : Hid (x + 1 + Pl.scC (z.drop (p + 1)) = CM) := NC.out
          clear h44 NC
          go_wp2_with (go_at_call 13; refine (isSc_any c _).mono ?_; rintro e w8 ⟨rfl, rfl⟩)
          go_roundg (gk - 1)
          case measure => omega
          case rel => exact ⟨p + 1, x + 1, by omega, by go_num, by go_num, NX.out, NC'.out, rfl⟩
        · have e44 : (c == 44) = false := by simpa using h44
          rw [e44] at NC
          have NC' : Hid (x + Pl.scC (z.drop (p + 1)) = CM) := NC.out
          clear h44 NC
          go_wp2_with (go_at_call 13; refine (isSc_any c _).mono ?_; rintro e w8 ⟨rfl, rfl⟩)
          go_roundg (gk - 1)
          case measure => omega
          case rel => exact ⟨p + 1, x, by omega, by go_num, rfl, NX.out, NC'.out, rfl⟩
      · have hs' : Pl.isSc (z.getD p 0) = false := by simpa using hs
        have hno := Pl.sc_no z p (by rw [ZL.out]; exact hpl) hs'
        have hpJ : p = J := by
          have e' := HP.out
          omega
        have hxC : x = CM := by
          have e' := HC.out
          omega
        subst hpJ
        subst hxC
        have hne := h93 hpl
        generalize z.getD p 0 = c at hs' hcp hne
        have e93 : (c == 93) = false := by simpa using hne
        clear hs HP HC hno hne h93
        go_wp2_with (go_at_call 13; refine (isSc_any c _).mono ?_; rintro e w8 ⟨rfl, rfl⟩)
        refine (outer_any (d := d) hr3 (by omega) (by omega) hz3).mono ?_
        rintro e w9 ⟨rfl, hg9⟩
        have hr9 := hr3.grown hg9 (by simp)
        have n0 := hg9.cell m0 (by simp)
        have n1 := hg9.cell m1 (by simp)
        have n2 := hg9.cell m2 (by simp)
        clear m0 m1 m2 hz3 hd3 hcp
        go_wp2_with fail
        refine (step_any hr9 (i := d) (by omega) (by omega) n0 n1 n2).mono ?_
        rintro e w10 ⟨rfl, hg10⟩
        go_wp2
        go_ret
        exact ⟨rfl, FR.out.grown (grownBy_trans hg9 hg10) (by have := FR.out.size; omega) (fun k e => by cases e)⟩
    · have hno := Pl.sc_end z p (by rw [ZL.out]; omega)
      have hpJ : p = J := by
        have e' := HP.out
        omega
      have hxC : x = CM := by
        have e' := HC.out
        omega
      subst hpJ
      subst hxC
      have hge : decide (p < len) = false := by simp; omega
      have hge' : decide ((p : Int) < (len : Int)) = false := by simp; omega
      clear HP HC hno h93 hd3
      go_wp2_with fail
      refine (outer_any (d := d) hr3 (by omega) (by omega) hz3).mono ?_
      rintro e w9 ⟨rfl, hg9⟩
      have hr9 := hr3.grown hg9 (by simp)
      have n0 := hg9.cell m0 (by simp)
      have n1 := hg9.cell m1 (by simp)
      have n2 := hg9.cell m2 (by simp)
      clear m0 m1 m2 hz3
      go_wp2_with fail
      refine (step_any hr9 (i := d) (by omega) (by omega) n0 n1 n2).mono ?_
      rintro e w10 ⟨rfl, hg10⟩
      go_wp2
      go_ret
      exact ⟨rfl, FR.out.grown (grownBy_trans hg9 hg10) (by have := FR.out.size; omega) (fun k e => by cases e)⟩

end Go.Proofs.Qxb6612244aFmt
