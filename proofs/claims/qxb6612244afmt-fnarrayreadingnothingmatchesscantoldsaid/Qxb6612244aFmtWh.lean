/-
  THE WALKS of utf8.DecodeRune (27) at the data's rest, of notJSONText (26) and (*textReader).unexpected (23).
-/
import Derived.Test.Qxb6612244aFmtWe
import Derived.Test.Qxb6612244aFmtTx
import Derived.Test.Qxb6612244aFmtShelf
import Derived.Deep.RegionWith
namespace Go.Proofs.Qxb6612244aFmt
open Go.RowKit Go.Extern.Stop Go.Stop Go.Extern

theorem grown_of_below {w w' : World} (h : Below w.heap.size w w') (r : Option Nat) : w.grownBy w' r :=
  ⟨h.os, h.tape, h.output, h.size, fun k hk _ => h.block k hk⟩

def bytesOf (l : List Int) : ByteArray := ⟨(l.map fun x => UInt8.ofNat x.toNat).toArray⟩
theorem bytesOf_size (l : List Int) : (bytesOf l).size = l.length := by
  show (l.map fun x => UInt8.ofNat x.toNat).toArray.size = _
  simp
theorem bytesOf_get (l : List Int) (j : Nat) (hj : j < l.length) (hw : ∀ x ∈ l, 0 ≤ x ∧ x ≤ 255) : (((bytesOf l).get! j).toNat : Int) = l.getD j 0 := by
  have hm := hw (l.getD j 0) (by simp [List.getD, hj])
  have e : (bytesOf l).get! j = UInt8.ofNat (l.getD j 0).toNat := by
    show (l.map fun x => UInt8.ofNat x.toNat).toArray[j]! = _
    simp [hj, List.getD]
  rw [e, UInt8.toNat_ofNat']
  omega

theorem dec_any {w : World} {bd n pos : Nat} {z : List Int} (hT : Lib.Utf8Tabs 0 1 w) (hd : Dat w bd z) (hz : z.length = n) (hw : ∀ x ∈ z, 0 ≤ x ∧ x ≤ 255) (hlt : pos < n) :
    Calls Tryf.prog 27 #[.slice (some ⟨bd, pos, none⟩) (n - pos) (n - pos)] w fun e w' => ∃ c k : Int, e = .returned (.tuple #[.int .i32 c, .int .i64 k]) ∧ (0 ≤ c ∧ c ≤ 1114111) ∧ w.grownBy w' none := by
  have hs : (bytesOf (z.drop pos)).size = n - pos := by rw [bytesOf_size]; simp; omega
  have h := Any7.utf8_DecodeRune Tryf.lays32 (bytesOf (z.drop pos)) bd pos (n - pos) w hT (fun j hj => by
    rw [hs] at hj
    rw [hd (pos + j) (by omega), bytesOf_get _ j (by simp; omega) (fun x hx => hw x (List.mem_of_mem_drop hx))]
    simp [List.getD])
  rw [hs] at h
  refine Calls.mono h ?_
  rintro e w' ⟨rfl, hb⟩
  have hm := decode_max (bytesOf (z.drop pos)) 0
  refine ⟨_, _, rfl, ?_, grown_of_below hb none⟩
  unfold Lib.decodeGo
  split
  · simp
  · omega

set_option maxHeartbeats 400000 in
theorem notJSON_any (s : ByteArray) (w : World) (hs : s.size ≤ 3000) :
    Calls Tryf.prog 26 #[.string s] w fun e w' => ∃ a, e = .returned (.slice (some a) 1 1) ∧ w.grownBy w' none := by
  go_enter Tryf.func26, Tryf.ntmps26
  go_wp2
  go_ret
  exact ⟨_, rfl, World.grownBy_alloc _ _ _⟩

attribute [local go_sem] Tryf.call21 Tryf.guard Tryf.fmt2 Tryf.fmt2r Tryf.fmt3 Tryf.fmt3r Tryf.op3_100 Tryf.op9_115 Tryf.op21_113

set_option maxHeartbeats 1000000 in
theorem unexp_end {w : World} {B bd n : Nat} {pv : Value} (F : Interp) (hF : F.answers w.tape) (hS : Short F) (want : ByteArray) (hwant : want.size ≤ 1000) (hr : Rd w B bd n n pv) :
    Calls Tryf.prog 23 #[.pointer (some ⟨B, 0, none⟩), .string want] w fun e w' => ∃ a, e = .returned (.slice (some a) 1 1) ∧ w.grownBy w' none := by
  have hF' := answers_open hF
  have c0 := hr.c0
  have c1 := hr.c1
  have h2 := hS.s2 want hwant
  go_enter Tryf.func23, Tryf.ntmps23
  go_wp2_with fail
  go_quiet (fail)
  have hF2 : F.answers (w.drewN nq).tape := hF
  have hg0 : w.grownBy (w.drewN nq) none := grownBy_drewN (World.grownBy.refl _ _) _
  clear hF' c0 c1 hF hr
  generalize w.drewN nq = w2 at hF2 hg0 ⊢
  have hF2' := answers_open hF2
  go_wp2_with fail
  refine (notJSON_any _ _ h2).mono ?_
  rintro e w1 ⟨a, rfl, hg1⟩
  clear hF2 hF2' h2
  go_wp2
  go_ret
  exact ⟨a, rfl, grownBy_trans hg0 (grownBy_trans (grownBy_drew (World.grownBy_alloc _ _ _)) hg1)⟩

set_option maxHeartbeats 2000000 in
theorem unexp_mid {w : World} {B bd n pos : Nat} {pv : Value} {z : List Int} (F : Interp) (hF : F.answers w.tape) (hS : Short F) (want : ByteArray) (hwant : want.size ≤ 1000) (hr : Rd w B bd n pos pv)
    (hT : Lib.Utf8Tabs 0 1 w) (hd : Dat w bd z) (hz : z.length = n) (hw : ∀ x ∈ z, 0 ≤ x ∧ x ≤ 255) (hlt : pos < n) (hn : n ≤ 1048576) :
    Calls Tryf.prog 23 #[.pointer (some ⟨B, 0, none⟩), .string want] w fun e w' => ∃ a, e = .returned (.slice (some a) 1 1) ∧ w.grownBy w' none := by
  have c0 := hr.c0
  have c1 := hr.c1
  have hne : ((pos : Int) == (n : Int)) = false := by simp; omega
  have hlt' : (pos : Int) < (n : Int) := by omega
  have HT : Hid (Lib.Utf8Tabs 0 1 w) := hT
  clear hT
  go_enter Tryf.func23, Tryf.ntmps23
  go_wp2_with fail
  go_quiet (fail)
  go_wp2_with fail
  go_region_with (go_at_call 27; refine (dec_any (z := z) (by exact HT.out) (by exact hd) hz hw hlt).mono ?_; rintro e w1 ⟨c, k, rfl, hc, hg1⟩)
  all_goals
    have hgw : w.grownBy w1 none := grownBy_trans (by exact grownBy_drew (grownBy_drewN (World.grownBy.refl _ _) _)) hg1
    have hF2 : F.answers w1.tape := by rw [hgw.tape]; exact hF
    have hR2 := hr.grown hgw (by simp)
    have k1 := hR2.c1
    have h3 := hS.s3 c pos want hc.1 hc.2 (by omega) (by omega) hwant
    have hF2' := answers_open hF2
    clear hg1 c0 c1 HT hd hw hF hr hR2 hF2
    go_wp2_with fail
    refine (notJSON_any _ _ h3).mono ?_
    rintro e w2 ⟨a, rfl, hg2⟩
    clear hF2' h3 k1
    go_wp2
    go_ret
    exact ⟨a, rfl, grownBy_trans hgw (grownBy_trans (grownBy_drew (World.grownBy_alloc _ _ _)) hg2)⟩

end Go.Proofs.Qxb6612244aFmt
