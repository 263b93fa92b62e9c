/-
  THE WALK of (*textReader).skipSpace (18): the place moves over the white bytes; nothing else turns.
-/
import Derived.Test.Qxb6612244aFmtWa
import Derived.Deep.LoopGhost
namespace Go.Proofs.Qxb6612244aFmt
open Go.RowKit

theorem grownBy_trans {a b c : World} {r : Option Nat} (h : a.grownBy b r) (k : b.grownBy c r) : a.grownBy c r :=
  ⟨k.os.trans h.os, k.tape.trans h.tape, k.output.trans h.output, Nat.le_trans h.size k.size, fun i hi hr => (k.block i (Nat.lt_of_lt_of_le hi h.size) hr).trans (h.block i hi hr)⟩

theorem grownBy_drewN {a b : World} {r : Option Nat} (h : a.grownBy b r) (n : Nat) : a.grownBy (b.drewN n) r :=
  ⟨h.os, h.tape, h.output, h.size, h.block⟩

theorem grownBy_drew {a b : World} {r : Option Nat} (h : a.grownBy b r) : a.grownBy b.drew r :=
  ⟨h.os, h.tape, h.output, h.size, h.block⟩

theorem grownBy_setCell {a b : World} {B : Nat} (h : a.grownBy b (some B)) (o : Nat) (v : Value) : a.grownBy (b.setCell ⟨B, o, none⟩ v) (some B) :=
  grownBy_trans h ⟨rfl, rfl, rfl, by simp [World.setCell], fun k _ hk => heap_setCell_other b ⟨B, o, none⟩ k v (fun e => hk (by rw [e]))⟩

theorem grownBy_alloc {a b : World} {r : Option Nat} (h : a.grownBy b r) (o : Obj) : a.grownBy (b.alloc o) r :=
  grownBy_trans h (World.grownBy_alloc b o r)

theorem Rd.drewN {w : World} {B bd n : Nat} {pos : Int} {pv : Value} (h : Rd w B bd n pos pv) (m : Nat) : Rd (w.drewN m) B bd n pos pv := h
theorem Rd.drew {w : World} {B bd n : Nat} {pos : Int} {pv : Value} (h : Rd w B bd n pos pv) : Rd w.drew B bd n pos pv := h
theorem Rd.alloc {w : World} {B bd n : Nat} {pos : Int} {pv : Value} (h : Rd w B bd n pos pv) (o : Obj) : Rd (w.alloc o) B bd n pos pv :=
  (heap_alloc_old w o h.lt).trans h

/-- THE DATA: the bytes lie in block bd. -/
def Dat (w : World) (bd : Nat) (z : List Int) : Prop := ∀ j, j < z.length → w.cell? ⟨bd, j, none⟩ = some (.int .u8 (z.getD j 0))

theorem Dat.grown {w w' : World} {bd B : Nat} {z : List Int} (h : Dat w bd z) (hg : w.grownBy w' (some B)) (hne : bd ≠ B) : Dat w' bd z :=
  fun j hj => hg.cell (h j hj) (by simpa using hne)

set_option maxHeartbeats 1000000 in
theorem skip_any {w : World} {B bd n : Nat} {pos : Nat} {pv : Value} {z : List Int} (hr : Rd w B bd n pos pv) (hd : Dat w bd z) (hz : z.length = n) (hn : n ≤ 1048576) (hp : pos ≤ n) (hne : bd ≠ B) :
    Calls Tryf.prog 18 #[.pointer (some ⟨B, 0, none⟩)] w fun e w' => e = .returned (.tuple #[]) ∧ Rd w' B bd n ((pos + Pl.spLen (z.drop pos) : Nat) : Int) pv ∧ w.grownBy w' (some B) := by
  go_enter Tryf.func18, Tryf.ntmps18
  go_wp2
  go_loopg [] n (fun k wr => ∃ p : Nat, p ≤ n ∧ n ≤ p + k ∧ p + Pl.spLen (z.drop p) = pos + Pl.spLen (z.drop pos) ∧ Rd wr B bd n p pv ∧ w.grownBy wr (some B))
  case atStart => exact ⟨pos, hp, by omega, rfl, hr, World.grownBy.refl _ _⟩
  case round =>
    obtain ⟨p, hpn, hk, hs, hR, hG⟩ := hrel
    have HS : Hid (p + Pl.spLen (z.drop p) = pos + Pl.spLen (z.drop pos)) := hs
    clear hs
    have c0 := hR.c0
    have c1 := hR.c1
    have f1 := hR.free 1
    by_cases hlt : p < n
    · have hc := (hd.grown hG hne) p (by omega)
      have hlt' : (p : Int) < (n : Int) := by omega
      obtain ⟨c, hcz⟩ : ∃ c, c = z.getD p 0 := ⟨_, rfl⟩
      rw [← hcz] at hc
      have yes : ∀ nq : Nat, Pl.isSp c = true → ∃ p' : Nat, p' ≤ n ∧ n ≤ p' + (gk - 1) ∧ p' + Pl.spLen (z.drop p') = pos + Pl.spLen (z.drop pos) ∧ Rd ((wr.drewN nq).setCell ⟨B, 1, none⟩ (.int .i64 ((p : Int) + 1))) B bd n p' pv ∧ w.grownBy ((wr.drewN nq).setCell ⟨B, 1, none⟩ (.int .i64 ((p : Int) + 1))) (some B) := by
        intro nq hs
        rw [hcz] at hs
        have h1 := Pl.spLen_yes z p (by omega) hs
        have h2 := HS.out
        exact ⟨p + 1, by omega, by omega, by omega, (hR.drewN nq).setPos _, grownBy_setCell (grownBy_drewN hG nq) _ _⟩
      have YES := yes
      have NO : Hid (Pl.isSp c = false → p + 0 = pos + Pl.spLen (z.drop pos)) := by
        intro hs
        rw [hcz] at hs
        have h1 := Pl.spLen_no z p (by omega) hs
        have h2 := HS.out
        omega
      clear hcz yes HS
      have HY : Hid (∀ nq : Nat, Pl.isSp c = true → ∃ p' : Nat, p' ≤ n ∧ n ≤ p' + (gk - 1) ∧ p' + Pl.spLen (z.drop p') = pos + Pl.spLen (z.drop pos) ∧ Rd ((wr.drewN nq).setCell ⟨B, 1, none⟩ (.int .i64 ((p : Int) + 1))) B bd n p' pv ∧ w.grownBy ((wr.drewN nq).setCell ⟨B, 1, none⟩ (.int .i64 ((p : Int) + 1))) (some B)) := YES
      clear YES
      go_wp2
      go_quiet (fail)
      go_wp2
      go_quiet (fail)
      go_wp2
      all_goals first
        | (refine bodyPost_ret (results_none rfl _ _ _) rfl ?_; have hs : Pl.isSp c = false := (by simp only [Pl.isSp, Bool.or_eq_false_iff]; exact ⟨⟨⟨‹(c == 32) = false›, ‹(c == 9) = false›⟩, ‹(c == 13) = false›⟩, ‹(c == 10) = false›⟩); have h3 := NO.out hs; rw [← h3]; exact ⟨rfl, hR, grownBy_drewN hG _⟩)
        | skip
      all_goals
        go_roundg (gk - 1)
        case measure => omega
        case rel => exact HY.out _ (by simp only [Pl.isSp, Bool.or_eq_true]; first | exact Or.inl (Or.inl (Or.inl ‹(c == 32) = true›)) | exact Or.inl (Or.inl (Or.inr ‹(c == 9) = true›)) | exact Or.inl (Or.inr ‹(c == 13) = true›) | exact Or.inr ‹(c == 10) = true›)
    · have hge : decide ((p : Int) < (n : Int)) = false := by simpa using hlt
      have h1 := Pl.spLen_end z p (by omega)
      have h3 : pos + Pl.spLen (z.drop pos) = p := by have := HS.out; omega
      have H3 : Hid (pos + Pl.spLen (z.drop pos) = p) := h3
      clear h1 h3 HS
      go_wp2
      go_quiet (fail)
      go_wp2
      go_end0
      rw [H3.out]
      exact ⟨rfl, hR, grownBy_drewN hG _⟩

end Go.Proofs.Qxb6612244aFmt
