/-
  THE WALK of ZZarrayReadingNothing (7), and of the law itself (3): the short ways.
-/
import Derived.Test.Qxb6612244aFmtWj
import Derived.Test.Qxb6612244aFmtWg
namespace Go.Proofs.Qxb6612244aFmt
open Go.RowKit Go.Extern.Stop Go.Stop Go.Extern

set_option maxHeartbeats 1000000 in
theorem array_full {w : World} {B bd n : Nat} {pos : Int} {g c : Nat} (F : Interp) (hF : F.answers w.tape) (hr : Rd w B bd n pos (.slice (some ⟨g, 0, none⟩) 32 c)) (hz : Zs w g 32) :
    Calls Tryf.prog 15 #[.pointer (some ⟨B, 0, none⟩), .func (.func 16) #[] #[]] w fun e w' => ∃ v, e = .returned (.iface 38 v) ∧ w.grownBy w' none := by
  go_enter Tryf.func15, Tryf.ntmps15
  go_wp2_with fail
  refine (open_full F hF hr hz).mono ?_
  rintro e w1 ⟨v, rfl, hg⟩
  go_wp2
  go_ret
  exact ⟨v, rfl, hg⟩

set_option maxHeartbeats 1000000 in
theorem arr7_full {w : World} {B bd n : Nat} {pos : Int} {g c : Nat} (F : Interp) (hF : F.answers w.tape) (hr : Rd w B bd n pos (.slice (some ⟨g, 0, none⟩) 32 c)) (hz : Zs w g 32) :
    Calls Tryf.prog 7 #[.pointer (some ⟨B, 0, none⟩)] w fun e w' => ∃ v, e = .returned (.iface 38 v) ∧ w.grownBy w' none := by
  go_enter Tryf.func7, Tryf.ntmps7
  go_wp2_with fail
  refine (array_full F hF hr hz).mono ?_
  rintro e w1 ⟨v, rfl, hg⟩
  go_wp2
  go_ret
  exact ⟨v, rfl, hg⟩

/-- The two ends of array, each with the value it hands back. -/
def ArrOk (B bd n bp d j : Nat) (w w' : World) : Prop := ∃ g c, Rd w' B bd n ((j + 1 : Nat) : Int) (.slice (some ⟨g, 0, none⟩) d c) ∧ Zs w' g d ∧ Below bp w w'
def ArrBad (B bd n bp d j cm : Nat) (w w' : World) : Prop := ∃ g c, Rd w' B bd n (j : Int) (.slice (some ⟨g, 0, none⟩) (d + 1) c) ∧ Pth w' bp g d c cm ∧ Below bp w w'

set_option maxHeartbeats 1000000 in
theorem arr7_ok {w : World} {F : Interp} {B bd n bp d g c pos : Nat} {z : List Int} {xs : List Value} (hx : Nx F w B bd n z) (hr : Rd w B bd n pos (.slice (some ⟨g, 0, none⟩) d c)) (hown : w.ownsRow bp 44 3 (.slice (some ⟨g, 0, none⟩) d c) d xs) (hz : Zs w g d)
    (hd : d ≤ 31) (hp : pos < n) (hb : bp ≤ B) (hs : bp ≤ w.heap.size) (hbd : bd < bp) (h1 : 1 < bp) (hlt : pos + 1 + Pl.scL (z.drop (pos + 1)) < n) (hc : z.getD (pos + 1 + Pl.scL (z.drop (pos + 1))) 0 = 93) :
    Calls Tryf.prog 7 #[.pointer (some ⟨B, 0, none⟩)] w fun e w' => e = .returned .nilIface ∧ ArrOk B bd n bp d (pos + 1 + Pl.scL (z.drop (pos + 1))) w w' := by
  go_enter Tryf.func7, Tryf.ntmps7
  go_wp2_with fail
  refine (array_any hx hr hown hz hd hp hb hs hbd h1).mono ?_
  rintro e w1 (⟨_, _, rfl, h⟩ | ⟨h, _⟩)
  · have H : Hid (ArrOk B bd n bp d (pos + 1 + Pl.scL (z.drop (pos + 1))) w w1) := h
    clear hx hr hown hz h
    go_wp2
    go_ret
    exact ⟨rfl, H.out⟩
  · exact absurd hc (h hlt)

set_option maxHeartbeats 1000000 in
theorem arr7_bad {w : World} {F : Interp} {B bd n bp d g c pos : Nat} {z : List Int} {xs : List Value} (hx : Nx F w B bd n z) (hr : Rd w B bd n pos (.slice (some ⟨g, 0, none⟩) d c)) (hown : w.ownsRow bp 44 3 (.slice (some ⟨g, 0, none⟩) d c) d xs) (hz : Zs w g d)
    (hd : d ≤ 31) (hp : pos < n) (hb : bp ≤ B) (hs : bp ≤ w.heap.size) (hbd : bd < bp) (h1 : 1 < bp) (hc : pos + 1 + Pl.scL (z.drop (pos + 1)) < n → z.getD (pos + 1 + Pl.scL (z.drop (pos + 1))) 0 ≠ 93) :
    Calls Tryf.prog 7 #[.pointer (some ⟨B, 0, none⟩)] w fun e w' => ∃ v, e = .returned (.iface 38 v) ∧ ArrBad B bd n bp d (pos + 1 + Pl.scL (z.drop (pos + 1))) (Pl.scC (z.drop (pos + 1))) w w' := by
  go_enter Tryf.func7, Tryf.ntmps7
  go_wp2_with fail
  refine (array_any hx hr hown hz hd hp hb hs hbd h1).mono ?_
  rintro e w1 (⟨hlt, h93, _⟩ | ⟨_, v, rfl, h⟩)
  · exact absurd h93 (hc hlt)
  · have H : Hid (ArrBad B bd n bp d (pos + 1 + Pl.scL (z.drop (pos + 1))) (Pl.scC (z.drop (pos + 1))) w w1) := h
    clear hx hr hown hz h
    go_wp2
    go_ret
    exact ⟨v, rfl, H.out⟩

set_option maxHeartbeats 1000000 in
set_option maxRecDepth 100000 in
/-- Too long. -/
theorem main_long (ao : Option Addr) (len cap : Nat) (p d : Int) (w : World) (h : 1048576 < len) :
    Calls Tryf.prog 3 #[.slice ao len cap, .int .i64 p, .int .i64 d] w fun e w' => e = .returned (.bool true) ∧ Below w.heap.size w w' := by
  go_enter Tryf.func3, Tryf.ntmps3
  go_wp2_with fail
  refine (zzBytes_no ao len cap p d w h).mono ?_
  rintro e w1 ⟨rfl, rfl⟩
  go_wp2
  go_ret
  exact ⟨rfl, Below.refl _ _⟩

set_option maxHeartbeats 1000000 in
set_option maxRecDepth 100000 in
/-- A depth out of range. -/
theorem main_depth (ao : Option Addr) (len cap : Nat) (p d : Int) (w : World) (h : len ≤ 1048576) (hd : d < 0 ∨ 32 < d) :
    Calls Tryf.prog 3 #[.slice ao len cap, .int .i64 p, .int .i64 d] w fun e w' => e = .returned (.bool true) ∧ Below w.heap.size w w' := by
  rcases hd with hd | hd
  all_goals
    go_enter Tryf.func3, Tryf.ntmps3
    go_wp2_with fail
    refine (zzBytes_yes ao len cap p d w h).mono ?_
    rintro e w1 ⟨rfl, rfl⟩
    go_wp2
    go_ret
    exact ⟨rfl, Below.refl _ _⟩

set_option maxHeartbeats 1000000 in
set_option maxRecDepth 100000 in
/-- A place out of range. -/
theorem main_pos (ao : Option Addr) (len cap : Nat) (p d : Int) (w : World) (h : len ≤ 1048576) (hd0 : 0 ≤ d) (hd : d ≤ 32) (hp : p < 0 ∨ len ≤ p) :
    Calls Tryf.prog 3 #[.slice ao len cap, .int .i64 p, .int .i64 d] w fun e w' => e = .returned (.bool true) ∧ Below w.heap.size w w' := by
  rcases hp with hp | hp
  all_goals
    go_enter Tryf.func3, Tryf.ntmps3
    go_wp2_with fail
    refine (zzBytes_yes ao len cap p d w h).mono ?_
    rintro e w1 ⟨rfl, rfl⟩
    go_wp2
    go_ret
    exact ⟨rfl, Below.refl _ _⟩

set_option maxHeartbeats 1000000 in
set_option maxRecDepth 100000 in
/-- No bracket there. -/
theorem main_other (b off len cap pos d : Nat) (x : Int) (w : World) (h : len ≤ 1048576) (hd : d ≤ 32) (hp : pos < len) (hc : w.cell? ⟨b, off + pos, none⟩ = some (.int .u8 x)) (hx : x ≠ 91) :
    Calls Tryf.prog 3 #[.slice (some ⟨b, off, none⟩) len cap, .int .i64 pos, .int .i64 d] w fun e w' => e = .returned (.bool true) ∧ Below w.heap.size w w' := by
  have hx' : (x == 91) = false := by simpa using hx
  have hp' : (pos : Int) < (len : Int) := by omega
  clear hx
  go_enter Tryf.func3, Tryf.ntmps3
  go_wp2_with fail
  refine (zzBytes_yes _ len cap pos d w h).mono ?_
  rintro e w1 ⟨rfl, rfl⟩
  go_wp2
  go_ret
  exact ⟨rfl, Below.refl _ _⟩

end Go.Proofs.Qxb6612244aFmt
