/-
  THE WALKS of the law's own tests: zzmIsSep (24), zzmIsCtl (23), zzmFieldOK (22), zzmAllFieldsOK (9), zzmHasPrefix (12), zzmSameFields (16), zzmRebuild (11), zzBytes (17).
-/
import Derived.Test.Qxb6613537aFmtWe
import Derived.Test.Qxb6613537aFmtPl
import Derived.Laws.AppendOwn
import Derived.Lib.AppendStr
import Derived.Lib.SlBytesRow
namespace Go.Proofs.Qxb6613537aFmt
open Go.RowKit
open Pl

theorem isSep_any (c : UInt8) (w : World) : Calls Tryf.prog 24 #[.int .u8 c.toNat] w fun e w' => e = .returned (.bool (isSep c)) ∧ w' = w := by
  have H : Hid (isSep c = (((c.toNat : Int) == 32) || ((c.toNat : Int) == 10))) := by
    show _ = _
    unfold isSep
    rw [Bool.eq_iff_iff]
    simp [← UInt8.toNat_inj]
    omega
  rw [H.out]
  generalize (c.toNat : Int) = x
  by_cases h1 : x = 32
  · subst h1
    go_enter Tryf.func24, Tryf.ntmps24
    go_wp2
    go_ret
    exact ⟨rfl, rfl⟩
  · have e1 : (x == 32) = false := by simpa using h1
    rw [e1]
    go_enter Tryf.func24, Tryf.ntmps24
    go_wp2
    go_ret
    exact ⟨rfl, rfl⟩

theorem isCtl_any (c : UInt8) (w : World) : Calls Tryf.prog 23 #[.int .u8 c.toNat] w fun e w' => e = .returned (.bool (isCtl c)) ∧ w' = w := by
  have H : Hid (isCtl c = (decide ((c.toNat : Int) < 32) || ((c.toNat : Int) == 127))) := by
    show _ = _
    unfold isCtl
    rw [Bool.eq_iff_iff]
    simp [← UInt8.toNat_inj]
    omega
  rw [H.out]
  generalize (c.toNat : Int) = x
  by_cases h1 : x < 32
  · have e1 : decide (x < 32) = true := by simpa using h1
    rw [e1]
    go_enter Tryf.func23, Tryf.ntmps23
    go_wp2
    go_ret
    exact ⟨rfl, rfl⟩
  · have e1 : decide (x < 32) = false := by simpa using h1
    rw [e1]
    go_enter Tryf.func23, Tryf.ntmps23
    go_wp2
    go_ret
    exact ⟨rfl, rfl⟩

/-- A field that is clean is told so. -/
theorem fieldOK_yes (f : List UInt8) (w : World) (hl : f.length ≤ 2097152) (h0 : f ≠ []) (hc : Hid (∀ c ∈ f, isSep c = false ∧ isCtl c = false)) :
    Calls Tryf.prog 22 #[.string ⟨f.toArray⟩] w fun e w' => e = .returned (.bool true) ∧ w' = w := by
  have hsz : (⟨f.toArray⟩ : ByteArray).size = f.length := rfl
  have hf0 : ((f.length : Int) == 0) = false := by
    rw [beq_eq_false_iff_ne]
    intro h
    exact h0 (List.eq_nil_of_length_eq_zero (by omega))
  obtain ⟨b, hb⟩ : ∃ b : ByteArray, b = ⟨f.toArray⟩ := ⟨_, rfl⟩
  rw [← hb] at hsz ⊢
  have hbz : ((b.size : Int) == 0) = false := by rw [hsz]; exact hf0
  replace hb : Hid (_) := hb
  have hbl : b.size ≤ 2097152 := by rw [hsz]; exact hl
  clear hf0 h0 hsz
  go_enter Tryf.func22, Tryf.ntmps22
  go_wp2
  clear hbz
  go_loopg [3] b.size (fun q iv wr => ∃ k : Nat, k ≤ b.size ∧ b.size ≤ k + q ∧ iv = .int .i64 k ∧ wr = w)
  case atStart => exact ⟨0, by omega, by omega, rfl, rfl⟩
  case round =>
    obtain ⟨k, hk, hq, rfl, rfl⟩ := hrel
    by_cases hlt : k < b.size
    · obtain ⟨x, hx⟩ : ∃ x : UInt8, b[k]'hlt = x := ⟨_, rfl⟩
      have hxm : x ∈ f := by
        have h1 : b.data.toList[k]? = some x := by rw [← hx]; exact Lib.data_getElem? b k hlt
        rw [hb.out] at h1
        exact List.mem_of_getElem? h1
      obtain ⟨s1, s2⟩ := hc.out x hxm
      have I1 : Hid (_) := isSep_any x wr
      have I2 : Hid (_) := isCtl_any x wr
      rw [s1] at I1
      rw [s2] at I2
      have hlt' : (k : Int) < (b.size : Int) := by omega
      clear hxm s1 s2
      go_wp2_with fail
      refine Calls.mono I1.out ?_
      rintro e w1 ⟨rfl, rfl⟩
      go_wp2_with fail
      refine Calls.mono I2.out ?_
      rintro e w2 ⟨rfl, rfl⟩
      go_wp2
      go_roundg (gk - 1)
      case measure => omega
      case rel => exact ⟨k + 1, by omega, by omega, by go_num, rfl⟩
    · have hge : decide (k < b.size) = false := by simp; omega
      have hge' : decide ((k : Int) < (b.size : Int)) = false := by simp; omega
      go_wp2
      go_ret
      exact ⟨rfl, rfl⟩

/-- A slice that reads as a list. -/
def VRow {α : Type} (enc : α → Value) (w : World) (v : Value) (T : List α) : Prop :=
  (T = [] ∧ v = .slice none 0 0) ∨ ∃ g off cap, v = .slice (some ⟨g, off, none⟩) T.length cap ∧ T.length ≤ cap ∧ ∀ j f, T[j]? = some f → w.cell? ⟨g, off + j, none⟩ = some (enc f)

def encS (f : List UInt8) : Value := .string ⟨f.toArray⟩

theorem VRow.below {α : Type} {enc : α → Value} {w w' : World} {v : Value} {T : List α} (h : VRow enc w v T) (hb : Below w.heap.size w w') : VRow enc w' v T := by
  rcases h with h | ⟨g, off, cap, h1, h2, h3⟩
  · exact Or.inl h
  · exact Or.inr ⟨g, off, cap, h1, h2, fun j f hf => by rw [hb.cell (World.block_lt_of_cell? w _ (h3 j f hf))]; exact h3 j f hf⟩

set_option maxHeartbeats 2000000 in
theorem allOK_yes (w : World) (v : Value) (T : List (List UInt8)) (hv : VRow encS w v T) (hT : T.length ≤ 2097152) (hc : Hid (∀ f ∈ T, f ≠ [] ∧ f.length ≤ 2097152 ∧ ∀ c ∈ f, isSep c = false ∧ isCtl c = false)) :
    Calls Tryf.prog 9 #[v] w fun e w' => e = .returned (.bool true) ∧ w' = w := by
  rcases hv with ⟨rfl, rfl⟩ | ⟨g, off, cap, rfl, hcap, hcell⟩
  · go_enter Tryf.func9, Tryf.ntmps9
    go_wp2
    go_loopg [3] 1 (fun _ i wr => i = .int .i64 0 ∧ wr = w)
    case atStart => exact ⟨rfl, rfl⟩
    case round =>
      obtain ⟨rfl, rfl⟩ := hrel
      go_wp2
      go_ret
      exact ⟨rfl, rfl⟩
  · replace hcell : Hid (_) := hcell
    go_enter Tryf.func9, Tryf.ntmps9
    go_wp2
    go_loopg [3] T.length (fun q iv wr => ∃ k : Nat, k ≤ T.length ∧ T.length ≤ k + q ∧ iv = .int .i64 k ∧ wr = w)
    case atStart => exact ⟨0, by omega, by omega, rfl, rfl⟩
    case round =>
      obtain ⟨k, hk, hq, rfl, rfl⟩ := hrel
      by_cases hlt : k < T.length
      · obtain ⟨f, hf⟩ : ∃ f, T[k]? = some f := ⟨T[k], List.getElem?_eq_getElem hlt⟩
        have hcl := hcell.out k f hf
        obtain ⟨f1, f2, f3⟩ := hc.out f (List.mem_of_getElem? hf)
        have FO : Hid (_) := fieldOK_yes f wr f2 f1 f3
        have hlt' : (k : Int) < (T.length : Int) := by omega
        unfold encS at hcl
        clear hf f1 f2 f3
        go_wp2_with fail
        refine Calls.mono FO.out ?_
        rintro e w1 ⟨rfl, rfl⟩
        go_wp2
        go_roundg (gk - 1)
        case measure => omega
        case rel => exact ⟨k + 1, by omega, by omega, by go_num, rfl⟩
      · have hge : decide (k < T.length) = false := by simp; omega
        have hge' : decide ((k : Int) < (T.length : Int)) = false := by simp; omega
        go_wp2
        go_ret
        exact ⟨rfl, rfl⟩

set_option maxHeartbeats 2000000 in
theorem hasPrefix_yes (w : World) (s p : ByteArray) (hs : s.size ≤ 4194304) (hp : p.size ≤ s.size) (hpre : Hid (∀ k (h1 : k < p.size) (h2 : k < s.size), s[k]'h2 = p[k]'h1)) :
    Calls Tryf.prog 12 #[.string s, .string p] w fun e w' => e = .returned (.bool true) ∧ Below w.heap.size w w' := by
  have e0 : decide ((s.size : Int) < (p.size : Int)) = false := by simp; omega
  have e0' : decide (s.size < p.size) = false := by simp; omega
  go_enter Tryf.func12, Tryf.ntmps12
  go_wp2
  go_loopg [5] p.size (fun q iv wr => ∃ k : Nat, k ≤ p.size ∧ p.size ≤ k + q ∧ iv = .int .i64 k ∧ Hid (Below w.heap.size w wr))
  case atStart => exact ⟨0, by omega, by omega, rfl, Below.refl _ _⟩
  case round =>
    obtain ⟨k, hk, hq, rfl, HB⟩ := hrel
    by_cases hlt : k < p.size
    · have hls : k < s.size := by omega
      have hx := hpre.out k hlt hls
      obtain ⟨x, hx1⟩ : ∃ x : UInt8, p[k]'hlt = x := ⟨_, rfl⟩
      rw [hx1] at hx
      have hlt' : (k : Int) < (p.size : Int) := by omega
      have hls' : (k : Int) < (s.size : Int) := by omega
      go_wp2_with fail
      go_quiet (fail)
      have HB2 : Hid (Below w.heap.size w (wr.drewN nq)) := ⟨HB.out.os, HB.out.tape, HB.out.output, HB.out.size, HB.out.block⟩
      go_wp2
      go_roundg (gk - 1)
      case measure => omega
      case rel => exact ⟨k + 1, by omega, by omega, by go_num, HB2⟩
    · have hge : decide (k < p.size) = false := by simp; omega
      have hge' : decide ((k : Int) < (p.size : Int)) = false := by simp; omega
      go_wp2
      go_ret
      exact ⟨rfl, HB.out⟩

set_option maxHeartbeats 2000000 in
theorem zzBytes_any (a b : ByteArray) (w : World) (_ha : a.size ≤ maxLen) (_hb : b.size ≤ maxLen) :
    Calls Tryf.prog 17 #[.string a, .string b] w fun e w' => (∃ x : Bool, e = .returned (.bool x)) ∧ w' = w := by
  have hml : maxLen ≤ 9223372036854775807 := by unfold maxLen; omega
  by_cases h1 : a.size ≤ 1048576
  · by_cases h2 : b.size ≤ 1048576
    · go_enter Tryf.func17, Tryf.ntmps17
      go_wp2
      all_goals
        go_ret
        exact ⟨⟨_, rfl⟩, rfl⟩
    · go_enter Tryf.func17, Tryf.ntmps17
      go_wp2
      all_goals
        go_ret
        exact ⟨⟨_, rfl⟩, rfl⟩
  · go_enter Tryf.func17, Tryf.ntmps17
    go_wp2
    all_goals
      go_ret
      exact ⟨⟨_, rfl⟩, rfl⟩

set_option maxHeartbeats 4000000 in
theorem same_yes (w : World) (t1 e1 t2 e2 : Value) (T : List (List UInt8)) (E : List Bool) (h1 : VRow encS w t1 T) (h2 : VRow Value.bool w e1 E) (h3 : VRow encS w t2 T) (h4 : VRow Value.bool w e2 E) (hE : E.length = T.length) (hT : T.length ≤ 2097152) :
    Calls Tryf.prog 16 #[t1, e1, t2, e2] w fun e w' => e = .returned (.bool true) ∧ Below w.heap.size w w' := by
  by_cases h0 : T = []
  · subst h0
    have hE0 : E = [] := List.eq_nil_of_length_eq_zero (by simpa using hE)
    subst hE0
    have g1 : ∃ a c, t1 = .slice a 0 c := by rcases h1 with ⟨_, h⟩ | ⟨g, o, c, h, _⟩ <;> exact ⟨_, _, h⟩
    have g2 : ∃ a c, e1 = .slice a 0 c := by rcases h2 with ⟨_, h⟩ | ⟨g, o, c, h, _⟩ <;> exact ⟨_, _, h⟩
    have g3 : ∃ a c, t2 = .slice a 0 c := by rcases h3 with ⟨_, h⟩ | ⟨g, o, c, h, _⟩ <;> exact ⟨_, _, h⟩
    have g4 : ∃ a c, e2 = .slice a 0 c := by rcases h4 with ⟨_, h⟩ | ⟨g, o, c, h, _⟩ <;> exact ⟨_, _, h⟩
    obtain ⟨a1, c1, rfl⟩ := g1
    obtain ⟨a2, c2, rfl⟩ := g2
    obtain ⟨a3, c3, rfl⟩ := g3
    obtain ⟨a4, c4, rfl⟩ := g4
    clear h1 h2 h3 h4
    go_enter Tryf.func16, Tryf.ntmps16
    go_wp2
    go_loopg [9] 1 (fun _ i wr => i = .int .i64 0 ∧ wr = w)
    case atStart => exact ⟨rfl, rfl⟩
    case round =>
      obtain ⟨rfl, rfl⟩ := hrel
      go_wp2
      go_ret
      exact ⟨rfl, Below.refl _ _⟩
  · have hne : E ≠ [] := fun h => h0 (List.eq_nil_of_length_eq_zero (by rw [← hE, h]; rfl))
    obtain ⟨g1, o1, c1, rfl, p1, q1⟩ := h1.resolve_left (fun h => h0 h.1)
    obtain ⟨g2, o2, c2, rfl, p2, q2⟩ := h2.resolve_left (fun h => hne h.1)
    obtain ⟨g3, o3, c3, rfl, p3, q3⟩ := h3.resolve_left (fun h => h0 h.1)
    obtain ⟨g4, o4, c4, rfl, p4, q4⟩ := h4.resolve_left (fun h => hne h.1)
    clear h1 h2 h3 h4
    replace q1 : Hid (_) := q1
    replace q2 : Hid (_) := q2
    replace q3 : Hid (_) := q3
    replace q4 : Hid (_) := q4
    rw [hE] at p2 p4 ⊢
    go_enter Tryf.func16, Tryf.ntmps16
    go_wp2
    go_loopg [9] T.length (fun q iv wr => ∃ k : Nat, k ≤ T.length ∧ T.length ≤ k + q ∧ iv = .int .i64 k ∧ Hid (Below w.heap.size w wr))
    case atStart => exact ⟨0, by omega, by omega, rfl, Below.refl _ _⟩
    case round =>
      obtain ⟨k, hk, hq, rfl, HB⟩ := hrel
      by_cases hlt : k < T.length
      · obtain ⟨f, hf⟩ : ∃ f, T[k]? = some f := ⟨T[k], List.getElem?_eq_getElem hlt⟩
        obtain ⟨b, hb⟩ : ∃ b, E[k]? = some b := ⟨E[k], List.getElem?_eq_getElem (by omega)⟩
        have k1 : wr.cell? ⟨g1, o1 + k, none⟩ = some (.string ⟨f.toArray⟩) := by rw [HB.out.cell (World.block_lt_of_cell? w _ (q1.out k f hf))]; exact q1.out k f hf
        have k2 : wr.cell? ⟨g2, o2 + k, none⟩ = some (.bool b) := by rw [HB.out.cell (World.block_lt_of_cell? w _ (q2.out k b hb))]; exact q2.out k b hb
        have k3 : wr.cell? ⟨g3, o3 + k, none⟩ = some (.string ⟨f.toArray⟩) := by rw [HB.out.cell (World.block_lt_of_cell? w _ (q3.out k f hf))]; exact q3.out k f hf
        have k4 : wr.cell? ⟨g4, o4 + k, none⟩ = some (.bool b) := by rw [HB.out.cell (World.block_lt_of_cell? w _ (q4.out k b hb))]; exact q4.out k b hb
        have hlt' : (k : Int) < (T.length : Int) := by omega
        clear hf hb
        go_wp2_with fail
        go_quiet (fail)
        have HB2 : Hid (Below w.heap.size w (wr.drewN nq)) := ⟨HB.out.os, HB.out.tape, HB.out.output, HB.out.size, HB.out.block⟩
        go_wp2
        go_roundg (gk - 1)
        case measure => omega
        case rel => exact ⟨k + 1, by omega, by omega, by go_num, HB2⟩
      · have hge : decide (k < T.length) = false := by simp; omega
        have hge' : decide ((k : Int) < (T.length : Int)) = false := by simp; omega
        go_wp2
        go_ret
        exact ⟨rfl, HB.out⟩

end Go.Proofs.Qxb6613537aFmt
