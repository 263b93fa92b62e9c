/-
  THE WALK of splitFields (31).
-/
import Derived.Test.Qxb6613537aFmtWd
namespace Go.Proofs.Qxb6613537aFmt
open Go.RowKit
open Pl

theorem indexAny_any (w : World) (B off cap : Nat) (s : List UInt8) (m : Int) (hT : Lib.Utf8Tabs 8 9 w) (hm : w.cell? ⟨7, 0, none⟩ = some (.int .i64 m)) (hb : Hid (∀ j c, s[j]? = some c → w.cell? ⟨B, off + j, none⟩ = some (.int .u8 c.toNat))) (hB : B < w.heap.size) (hcap : s.length ≤ cap) (hcm : cap ≤ 16777216) :
    Calls Tryf.prog 38 #[.slice (some ⟨B, off, none⟩) s.length cap, .string ⟨#[32, 10]⟩] w fun e w' => e = .returned (.int .i64 (ia s)) ∧ Below w.heap.size w w' := by
  by_cases h8 : 8 < s.length
  · exact indexAny_long w B off cap s hb hB h8 (by omega)
  · by_cases h1 : s.length = 1
    · match s, h1 with
      | [c], _ => exact indexAny_one w B off cap c (hb.out 0 c rfl)
    · exact indexAny_short w B off cap s m hT hm hb hB (by omega) h1 hcap hcm

theorem below_drewN {B : Nat} {a w : World} (h : Below B a w) (n : Nat) : Below B a (w.drewN n) := ⟨h.os, h.tape, h.output, h.size, h.block⟩

def adv (X : List UInt8) (eof : Bool) : Nat := if idx X < X.length then idx X + 1 else if eof then X.length else 0

def tokV (B off cap n : Nat) : Value := if n = 0 then .slice none 0 0 else .slice (some ⟨B, off, none⟩) n cap

set_option maxHeartbeats 4000000 in
theorem splitFields_any (w : World) (B off cap : Nat) (X : List UInt8) (eof : Bool) (m : Int) (hT : Lib.Utf8Tabs 8 9 w) (hm : w.cell? ⟨7, 0, none⟩ = some (.int .i64 m)) (hb : Hid (∀ j c, X[j]? = some c → w.cell? ⟨B, off + j, none⟩ = some (.int .u8 c.toNat))) (hB : B < w.heap.size) (hcap : X.length ≤ cap) (hcm : cap ≤ 16777216) :
    Calls Tryf.prog 31 #[.slice (some ⟨B, off, none⟩) X.length cap, .bool eof] w fun e w' => e = .returned (.tuple #[.int .i64 (adv X eof), tokV B off cap (adv X eof), .nilIface]) ∧ Below w.heap.size w w' := by
  have IA : Hid (_) := indexAny_any w B off cap X m hT hm hb hB hcap hcm
  clear hT hm hb
  by_cases hi : idx X < X.length
  · have e1 : ia X = (idx X : Int) := by unfold ia; rw [if_pos hi]
    rw [e1] at IA
    have e2 : Hid (adv X eof = idx X + 1) := by show _ = _; unfold adv; rw [if_pos hi]
    have d1 : (0 : Int) ≤ (idx X : Int) := by omega
    have d2 : (idx X : Int) + 1 ≤ (X.length : Int) := by omega
    have d3 : (idx X : Int) + 1 ≤ (cap : Int) := by omega
    have d4 : idx X + 1 ≤ cap := by omega
    generalize idx X = ix at *
    go_enter Tryf.func31, Tryf.ntmps31
    go_wp2_with fail
    refine Calls.mono IA.out ?_
    rintro e w1 ⟨rfl, hb1⟩
    replace hb1 : Hid (_) := hb1
    go_wp2_with fail
    go_quiet (fail)
    go_wp2
    go_ret3
    exact ⟨by rw [e2.out]; simp [tokV], below_drewN hb1.out _⟩
  · have e1 : ia X = -1 := by unfold ia; rw [if_neg hi]
    rw [e1] at IA
    have e2 : Hid (adv X eof = if eof then X.length else 0) := by show _ = _; unfold adv; rw [if_neg hi]
    cases eof
    · go_enter Tryf.func31, Tryf.ntmps31
      go_wp2_with fail
      refine Calls.mono IA.out ?_
      rintro e w1 ⟨rfl, hb1⟩
      replace hb1 : Hid (_) := hb1
      go_wp2
      go_ret3
      exact ⟨by rw [e2.out]; rfl, hb1.out⟩
    · by_cases h0 : X.length = 0
      · obtain rfl : X = [] := List.eq_nil_of_length_eq_zero h0
        go_enter Tryf.func31, Tryf.ntmps31
        go_wp2_with fail
        refine Calls.mono IA.out ?_
        rintro e w1 ⟨rfl, hb1⟩
        replace hb1 : Hid (_) := hb1
        go_wp2
        go_ret3
        exact ⟨by rw [e2.out]; rfl, hb1.out⟩
      · have d1 : decide (0 < X.length) = true := by simp; omega
        have d2 : decide ((0 : Int) < (X.length : Int)) = true := by simp; omega
        have e3 : tokV B off cap X.length = .slice (some ⟨B, off, none⟩) X.length cap := by unfold tokV; rw [if_neg h0]
        replace e3 : Hid (_) := e3
        go_enter Tryf.func31, Tryf.ntmps31
        go_wp2_with fail
        refine Calls.mono IA.out ?_
        rintro e w1 ⟨rfl, hb1⟩
        replace hb1 : Hid (_) := hb1
        go_wp2
        go_ret3
        have e4 : adv X true = X.length := e2.out.trans rfl
        exact ⟨by rw [e4, e3.out]; rfl, hb1.out⟩

end Go.Proofs.Qxb6613537aFmt
