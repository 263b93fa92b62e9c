/-
  THE WALK of (*textReader).next (20), at the bracket ']'.
-/
import Derived.Test.Qxb6612244aFmtWh
namespace Go.Proofs.Qxb6612244aFmt
open Go.RowKit Go.Extern.Stop Go.Stop Go.Extern

theorem tabs_grown {w w' : World} {B : Nat} (h : Lib.Utf8Tabs 0 1 w) (hg : w.grownBy w' (some B)) (hB : 1 < B) : Lib.Utf8Tabs 0 1 w' :=
  ⟨fun c hc => hg.cell (h.1 c hc) (by simp; omega), fun i hi => ⟨hg.cell (h.2 i hi).1 (by simp; omega), hg.cell (h.2 i hi).2 (by simp; omega)⟩⟩

attribute [local go_sem] Tryf.call21 Tryf.guard Tryf.fmt1 Tryf.fmt1r Tryf.op5_113

/-- What 'next' is told of the world. -/
structure Nx (F : Interp) (w : World) (B bd n : Nat) (z : List Int) : Prop where
  ans : F.answers w.tape
  short : Short F
  tabs : Lib.Utf8Tabs 0 1 w
  dat : Dat w bd z
  len : z.length = n
  wf : ∀ x ∈ z, 0 ≤ x ∧ x ≤ 255
  le : n ≤ 1048576
  ne : bd ≠ B
  gt : 1 < B

theorem Nx.grown {F : Interp} {w w' : World} {B bd n : Nat} {z : List Int} (h : Nx F w B bd n z) (hg : w.grownBy w' (some B)) : Nx F w' B bd n z :=
  ⟨by rw [hg.tape]; exact h.ans, h.short, tabs_grown h.tabs hg h.gt, h.dat.grown hg h.ne, h.len, h.wf, h.le, h.ne, h.gt⟩

set_option maxHeartbeats 2000000 in
theorem next_comma {w : World} {F : Interp} {B bd n pos : Nat} {pv : Value} {z : List Int} (hx : Nx F w B bd n z) (hr : Rd w B bd n pos pv) (hp : pos ≤ n)
    (hlt : pos + Pl.spLen (z.drop pos) < n) (hc : z.getD (pos + Pl.spLen (z.drop pos)) 0 = 44) :
    Calls Tryf.prog 20 #[.pointer (some ⟨B, 0, none⟩), .int .u8 93] w fun e w' => e = .returned (.tuple #[.bool false, .nilIface]) ∧ Rd w' B bd n ((pos + Pl.spLen (z.drop pos) + 1 : Nat) : Int) pv ∧ w.grownBy w' (some B) := by
  have HX : Hid (Nx F w B bd n z) := hx
  have hn := hx.le
  clear hx
  generalize hq : pos + Pl.spLen (z.drop pos) = q at hlt hc ⊢
  go_enter Tryf.func20, Tryf.ntmps20
  go_wp2_with fail
  refine (skip_any hr HX.out.dat HX.out.len hn hp HX.out.ne).mono ?_
  rintro e w1 ⟨rfl, hr1, hg1⟩
  rw [hq] at hr1
  have hd1 := (HX.out.grown hg1).dat q (by rw [HX.out.len]; exact hlt)
  rw [hc] at hd1
  have c0 := hr1.c0
  have c1 := hr1.c1
  have f1 := hr1.free 1
  have hlt' : (q : Int) < (n : Int) := by omega
  clear hq hc hr HX
  go_wp2_with fail
  go_quiet (fail)
  go_wp2
  go_ret2
  exact ⟨rfl, (hr1.drewN _).setPos _, grownBy_setCell (grownBy_drewN hg1 _) _ _⟩

set_option maxHeartbeats 2000000 in
theorem next_close {w : World} {F : Interp} {B bd n pos g k c : Nat} {z : List Int} (hx : Nx F w B bd n z) (hr : Rd w B bd n pos (.slice (some ⟨g, 0, none⟩) (k + 1) c)) (hp : pos ≤ n) (hkc : k + 1 ≤ c) (hcm : c ≤ maxLen)
    (hlt : pos + Pl.spLen (z.drop pos) < n) (hc : z.getD (pos + Pl.spLen (z.drop pos)) 0 = 93) :
    Calls Tryf.prog 20 #[.pointer (some ⟨B, 0, none⟩), .int .u8 93] w fun e w' => e = .returned (.tuple #[.bool true, .nilIface]) ∧ Rd w' B bd n ((pos + Pl.spLen (z.drop pos) + 1 : Nat) : Int) (.slice (some ⟨g, 0, none⟩) k c) ∧ w.grownBy w' (some B) := by
  have HX : Hid (Nx F w B bd n z) := hx
  have hn := hx.le
  clear hx
  generalize hq : pos + Pl.spLen (z.drop pos) = q at hlt hc ⊢
  go_enter Tryf.func20, Tryf.ntmps20
  go_wp2_with fail
  refine (skip_any hr HX.out.dat HX.out.len hn hp HX.out.ne).mono ?_
  rintro e w1 ⟨rfl, hr1, hg1⟩
  rw [hq] at hr1
  have hd1 := (HX.out.grown hg1).dat q (by rw [HX.out.len]; exact hlt)
  rw [hc] at hd1
  have c0 := hr1.c0
  have c1 := hr1.c1
  have hlt' : (q : Int) < (n : Int) := by omega
  clear hq hc hr HX
  go_wp2_with fail
  go_quiet (fail)
  go_wp2_with fail
  go_quiet (fail)
  go_wp2_with fail
  refine (close_any (pos := q) (a := ⟨g, 0, none⟩) (k := k) (c := c) (by exact hr1) (by omega) hkc hcm rfl).mono ?_
  rintro e w2 ⟨rfl, hr2, hg2⟩
  go_wp2
  go_ret2
  exact ⟨rfl, hr2, grownBy_trans (grownBy_trans hg1 (by exact grownBy_drewN (World.grownBy.refl _ _) _)) hg2⟩

set_option maxHeartbeats 2000000 in
theorem next_bad {w : World} {F : Interp} {B bd n pos : Nat} {pv : Value} {z : List Int} (hx : Nx F w B bd n z) (hr : Rd w B bd n pos pv) (hp : pos ≤ n)
    (hlt : pos + Pl.spLen (z.drop pos) < n) (hc1 : z.getD (pos + Pl.spLen (z.drop pos)) 0 ≠ 44) (hc2 : z.getD (pos + Pl.spLen (z.drop pos)) 0 ≠ 93) :
    Calls Tryf.prog 20 #[.pointer (some ⟨B, 0, none⟩), .int .u8 93] w fun e w' => ∃ v, e = .returned (.tuple #[.bool false, .iface 38 v]) ∧ Rd w' B bd n ((pos + Pl.spLen (z.drop pos) : Nat) : Int) pv ∧ w.grownBy w' (some B) := by
  have HX : Hid (Nx F w B bd n z) := hx
  have hn := hx.le
  clear hx
  generalize hq : pos + Pl.spLen (z.drop pos) = q at hlt hc1 hc2 ⊢
  go_enter Tryf.func20, Tryf.ntmps20
  go_wp2_with fail
  refine (skip_any hr HX.out.dat HX.out.len hn hp HX.out.ne).mono ?_
  rintro e w1 ⟨rfl, hr1, hg1⟩
  rw [hq] at hr1
  have hd1 := (HX.out.grown hg1).dat q (by rw [HX.out.len]; exact hlt)
  generalize z.getD q 0 = x at hc1 hc2 hd1
  have e1 : (x == 44) = false := by simpa using hc1
  have e2 : (x == 93) = false := by simpa using hc2
  have c0 := hr1.c0
  have c1 := hr1.c1
  have hlt' : (q : Int) < (n : Int) := by omega
  have HX1 : Hid (Nx F w1 B bd n z) := HX.out.grown hg1
  clear hq hc1 hc2 hr HX
  go_wp2_with fail
  go_quiet (fail)
  have hgA : w.grownBy (w1.drewN nq) (some B) := grownBy_drewN hg1 _
  have hrA : Rd (w1.drewN nq) B bd n q pv := hr1
  have HXA : Hid (Nx F (w1.drewN nq) B bd n z) := HX1.out.grown (grownBy_drewN (World.grownBy.refl _ _) _)
  have hdA : (w1.drewN nq).cell? ⟨bd, q, none⟩ = some (.int .u8 x) := hd1
  clear c0 c1 hd1
  generalize w1.drewN nq = wA at hgA hrA HXA hdA ⊢
  clear HX1 hr1 hg1
  clear nq
  clear w1
  have c0 := hrA.c0
  have c1 := hrA.c1
  go_wp2_with fail
  go_quiet (fail)
  have hgB : w.grownBy (wA.drewN nq) (some B) := grownBy_drewN hgA _
  have hrB : Rd (wA.drewN nq) B bd n q pv := hrA
  have HXB : Hid (Nx F (wA.drewN nq) B bd n z) := HXA.out.grown (grownBy_drewN (World.grownBy.refl _ _) _)
  clear c0 c1 hdA
  generalize wA.drewN nq = wB at hgB hrB HXB ⊢
  clear HXA hrA hgA
  clear nq
  clear wA
  have hFB := answers_open HXB.out.ans
  go_wp2_with fail
  have hgC : wB.grownBy (wB.alloc (.cells #[.iface 5 (.int .u8 93)] 20)).drew (some B) := grownBy_drew (World.grownBy_alloc _ _ _)
  have hrC := hrB.grown (r := none) (w' := (wB.alloc (.cells #[.iface 5 (.int .u8 93)] 20)).drew) (grownBy_drew (World.grownBy_alloc _ _ _)) (by simp)
  have HXC : Hid (Nx F (wB.alloc (.cells #[.iface 5 (.int .u8 93)] 20)).drew B bd n z) := HXB.out.grown hgC
  clear hFB
  refine (unexp_mid F HXC.out.ans HXC.out.short _ (by exact HXC.out.short.s1) hrC HXC.out.tabs HXC.out.dat HXC.out.len HXC.out.wf hlt hn).mono ?_
  rintro e w2 ⟨a, rfl, hg2⟩
  have hrD := hrC.grown hg2 (by simp)
  have hgD : w.grownBy w2 (some B) := grownBy_trans hgB (grownBy_trans hgC ⟨hg2.os, hg2.tape, hg2.output, hg2.size, fun k hk _ => hg2.block k hk (by simp)⟩)
  clear HXC HXB hgB hrB hgC hrC hg2
  go_wp2
  go_ret2
  exact ⟨_, rfl, hrD, hgD⟩

set_option maxHeartbeats 2000000 in
theorem next_end {w : World} {F : Interp} {B bd n pos : Nat} {pv : Value} {z : List Int} (hx : Nx F w B bd n z) (hr : Rd w B bd n pos pv) (hp : pos ≤ n)
    (hlt : pos + Pl.spLen (z.drop pos) = n) :
    Calls Tryf.prog 20 #[.pointer (some ⟨B, 0, none⟩), .int .u8 93] w fun e w' => ∃ v, e = .returned (.tuple #[.bool false, .iface 38 v]) ∧ Rd w' B bd n (n : Int) pv ∧ w.grownBy w' (some B) := by
  have HX : Hid (Nx F w B bd n z) := hx
  have hn := hx.le
  clear hx
  go_enter Tryf.func20, Tryf.ntmps20
  go_wp2_with fail
  refine (skip_any hr HX.out.dat HX.out.len hn hp HX.out.ne).mono ?_
  rintro e w1 ⟨rfl, hr1, hg1⟩
  rw [hlt] at hr1
  have c0 := hr1.c0
  have c1 := hr1.c1
  have hge : decide ((n : Int) < (n : Int)) = false := by simp
  have HX1 : Hid (Nx F w1 B bd n z) := HX.out.grown hg1
  clear hlt hr HX
  go_wp2_with fail
  go_quiet (fail)
  have hgA : w.grownBy (w1.drewN nq) (some B) := grownBy_drewN hg1 _
  have hrA : Rd (w1.drewN nq) B bd n n pv := hr1
  have HXA : Hid (Nx F (w1.drewN nq) B bd n z) := HX1.out.grown (grownBy_drewN (World.grownBy.refl _ _) _)
  clear c0 c1
  generalize w1.drewN nq = wA at hgA hrA HXA ⊢
  clear HX1 hr1 hg1
  clear nq
  clear w1
  have c0 := hrA.c0
  have c1 := hrA.c1
  go_wp2_with fail
  go_quiet (fail)
  have hgB : w.grownBy (wA.drewN nq) (some B) := grownBy_drewN hgA _
  have hrB : Rd (wA.drewN nq) B bd n n pv := hrA
  have HXB : Hid (Nx F (wA.drewN nq) B bd n z) := HXA.out.grown (grownBy_drewN (World.grownBy.refl _ _) _)
  clear c0 c1
  generalize wA.drewN nq = wB at hgB hrB HXB ⊢
  clear HXA hrA hgA
  clear nq
  clear wA
  have hFB := answers_open HXB.out.ans
  go_wp2_with fail
  have hgC : wB.grownBy (wB.alloc (.cells #[.iface 5 (.int .u8 93)] 20)).drew (some B) := grownBy_drew (World.grownBy_alloc _ _ _)
  have hrC := hrB.grown (r := none) (w' := (wB.alloc (.cells #[.iface 5 (.int .u8 93)] 20)).drew) (grownBy_drew (World.grownBy_alloc _ _ _)) (by simp)
  have HXC : Hid (Nx F (wB.alloc (.cells #[.iface 5 (.int .u8 93)] 20)).drew B bd n z) := HXB.out.grown hgC
  clear hFB
  refine (unexp_end F HXC.out.ans HXC.out.short _ (by exact HXC.out.short.s1) hrC).mono ?_
  rintro e w2 ⟨a, rfl, hg2⟩
  have hrD := hrC.grown hg2 (by simp)
  have hgD : w.grownBy w2 (some B) := grownBy_trans hgB (grownBy_trans hgC ⟨hg2.os, hg2.tape, hg2.output, hg2.size, fun k hk _ => hg2.block k hk (by simp)⟩)
  clear HXC HXB hgB hrB hgC hrC hg2
  go_wp2
  go_ret2
  exact ⟨_, rfl, hrD, hgD⟩

end Go.Proofs.Qxb6612244aFmt
