/-
  THE WALKS of errors.New (35), fmt.Errorf (36).
-/
import Derived.Test.Qxb6613537aFmtWe
import Derived.Lib.SlBytesRow
import Derived.Stop.CallBack
import Derived.Stop.IfaceNil
import Derived.Stop.FmtTextKit
import Derived.Stop.FmtTextVerbs
import Derived.Stop.FmtTextWidths
import Derived.Stop.JoinedTold
namespace Go.Proofs.Qxb6613537aFmt
open Go.RowKit Go.Extern.Stop Go.Stop Go.Extern

theorem new_any (s : ByteArray) (w : World) : Calls Tryf.prog 35 #[.string s] w fun e w' => e = .returned (.iface 75 (.pointer (some ⟨w.heap.size, 0, none⟩))) ∧ Below w.heap.size w w' := by
  go_enter Tryf.func35, Tryf.ntmps35
  go_wp2
  go_ret
  exact ⟨rfl, (Below.refl _ w).alloc (Nat.le_refl _) _⟩

theorem Tryf.call39 (args : Array Value) (w : World) : (callFunc 39 args).run Tryf.prog w = ((FmtStop.errorf #[9, 78] #[36] args).run Tryf.prog w).andThen fun v w' => .ok (.value v) w' :=
  run_callFunc_extern Tryf.func39 (by kernel_rfl) (by kernel_rfl) (by kernel_rfl) (by kernel_rfl) args w
theorem Tryf.guard (name : String) (w : World) : (FmtStop.guard name).run Tryf.prog w = .ok () w := by kernel_rfl
def fmC : ByteArray := ⟨#[99, 111, 110, 116, 114, 111, 108, 32, 99, 104, 97, 114, 97, 99, 116, 101, 114, 32, 48, 120, 37, 48, 50, 120, 32, 105, 110, 32, 116, 104, 101, 32, 108, 105, 110, 101]⟩
theorem Tryf.fmt0 : FmtStop.printed? ⟨#[99, 111, 110, 116, 114, 111, 108, 32, 99, 104, 97, 114, 97, 99, 116, 101, 114, 32, 48, 120, 37, 48, 50, 120, 32, 105, 110, 32, 116, 104, 101, 32, 108, 105, 110, 101]⟩ 1 = some [(0, 120, false)] := by kernel_rfl
theorem Tryf.fmt0r (w : World) : (FmtDoors.printed ⟨#[99, 111, 110, 116, 114, 111, 108, 32, 99, 104, 97, 114, 97, 99, 116, 101, 114, 32, 48, 120, 37, 48, 50, 120, 32, 105, 110, 32, 116, 104, 101, 32, 108, 105, 110, 101]⟩ 1).run Tryf.prog w = .ok [(0, 120, false)] w := by kernel_rfl
def Tryf.shape5 : List UInt8 := [6, 5, 0, 0, 0, 0, 0, 0, 0, 117, 105, 110, 116, 56]
theorem Tryf.op5_120 (name : String) (x : Int) (w : World) : (FmtStop.operand name true 120 false (.iface 5 (.int .u8 x))).run Tryf.prog w = .ok (Tryf.shape5, Go.Extern.Stop.digits 8 (x % 2 ^ 64).toNat) w := by kernel_rfl

theorem Tryf.ptrES (w : World) : (FmtStop.ptrTo "errors.errorString").run Tryf.prog w = .ok 75 w := by kernel_rfl
theorem Tryf.elem75 (w : World) : (elemOf 75).run Tryf.prog w = .ok 77 w := by kernel_rfl

attribute [local go_sem] Tryf.ptrES Tryf.elem75 Tryf.call39 Tryf.guard Tryf.fmt0 Tryf.fmt0r Tryf.op5_120

set_option maxHeartbeats 2000000 in
set_option maxRecDepth 1000000 in
theorem errorf_any (x : Int) (g : Nat) (w : World) (hc : w.cell? ⟨g, 0, none⟩ = some (.iface 5 (.int .u8 x))) :
    Calls Tryf.prog 36 #[.string ⟨#[99, 111, 110, 116, 114, 111, 108, 32, 99, 104, 97, 114, 97, 99, 116, 101, 114, 32, 48, 120, 37, 48, 50, 120, 32, 105, 110, 32, 116, 104, 101, 32, 108, 105, 110, 101]⟩, .slice (some ⟨g, 0, none⟩) 1 1] w fun e w' => (∃ t v, e = .returned (.iface t v)) ∧ Below w.heap.size w w' := by
  go_enter Tryf.func36, Tryf.ntmps36
  go_wp2
  go_ret
  exact ⟨⟨_, _, rfl⟩, ((Below.refl _ w).drew).alloc (Nat.le_refl _) _⟩

open Pl

/-- What 'field' answers. -/
def FieldEnd (f : List UInt8) (eb : Bool) (e : Ending) : Prop :=
  (okF f = true ∧ e = .returned (.tuple #[.string ⟨f.toArray⟩, .bool eb, .nilIface])) ∨ (okF f = false ∧ ∃ t v, e = .returned (.tuple #[.string ⟨#[]⟩, .bool false, .iface t v]))

theorem heap_cell_new (w : World) (v : Value) : (w.alloc (.cells #[v] 20)).cell? ⟨w.heap.size, 0, none⟩ = some v := by
  rw [cell_of_row _ _ 0 _ 20 (0, 0) (heap_alloc_new w _)]; rfl

theorem bytes_of {w : World} {B st : Nat} {f : List UInt8} (h : ∀ j x, f[j]? = some x → w.cell? ⟨B, st + j, none⟩ = some (.int .u8 x.toNat)) : Lib.Bytes w B st ⟨f.toArray⟩ := by
  intro j hj
  have hj' : j < f.length := hj
  have := h j f[j] (List.getElem?_eq_getElem hj')
  rw [this]
  rfl

theorem ctl_int (c : UInt8) : isCtl c = (decide ((c.toNat : Int) < 32) || ((c.toNat : Int) == 127)) := by
  unfold isCtl
  rw [Bool.eq_iff_iff]
  simp [← UInt8.toNat_inj]
  omega

set_option maxHeartbeats 8000000 in
set_option maxRecDepth 1000000 in
theorem field_any (M S B st c : Nat) (f : List UInt8) (tl : List UInt8) (eb : Bool) (w : World) (hM : w.cell? ⟨M, 0, none⟩ = some (.pointer (some ⟨S, 0, none⟩))) (h3 : w.cell? ⟨S, 3, none⟩ = some (.slice (some ⟨B, st, none⟩) (f.length + tl.length) c)) (hc : f.length + tl.length ≤ c) (hcm : c ≤ 2097152)
    (hb : Hid (∀ j x, (f ++ tl)[j]? = some x → w.cell? ⟨B, st + j, none⟩ = some (.int .u8 x.toNat))) (htl : (tl = [] ∧ f ≠ [] ∧ (∀ x ∈ f, isSep x = false) ∧ eb = false) ∨ (tl = [32] ∧ eb = false) ∨ (tl = [10] ∧ eb = true)) :
    Calls Tryf.prog 27 #[.pointer (some ⟨M, 0, none⟩)] w fun e w' => FieldEnd f eb e ∧ Below w.heap.size w w' := by
  have BY : Hid (_) := bytes_any S w _ ⟨_, _, _, rfl⟩ h3
  obtain ⟨L, hL⟩ : ∃ L, L = f.length + tl.length := ⟨_, rfl⟩
  rw [← hL] at BY hc
  have hL0 : 0 < L := by
    rcases htl with ⟨rfl, h, _⟩ | ⟨rfl, _⟩ | ⟨rfl, _⟩
    · have := List.length_pos_iff.2 h
      simp at hL; omega
    · simp at hL; omega
    · simp at hL; omega
  have hlast : ∃ y : UInt8, (f ++ tl)[L - 1]? = some y ∧ ((tl = [] ∧ isSep y = false) ∨ tl = [y]) := by
    rcases htl with ⟨rfl, h, hs, _⟩ | ⟨rfl, _⟩ | ⟨rfl, _⟩
    · have hlt : L - 1 < f.length := by simp at hL; omega
      exact ⟨f[L - 1], by simp [hlt], Or.inl ⟨rfl, hs _ (List.getElem_mem hlt)⟩⟩
    · exact ⟨32, by simp at hL; simp [hL], Or.inr rfl⟩
    · exact ⟨10, by simp at hL; simp [hL], Or.inr rfl⟩
  obtain ⟨y, hy, hyt⟩ := hlast
  have hyc := hb.out _ _ hy
  have k1 : (L : Int) - 1 = ((L - 1 : Nat) : Int) := by omega
  have hcb : Hid (∀ j x, f[j]? = some x → w.cell? ⟨B, st + j, none⟩ = some (.int .u8 x.toNat)) := fun j x hj => hb.out j x (by
    rw [List.getElem?_append_left (List.getElem?_eq_some_iff.1 hj).1]; exact hj)
  clear hb hy h3
  obtain ⟨p, hp⟩ : ∃ p, L = p + 1 := ⟨L - 1, by omega⟩
  subst hp
  rw [Nat.add_sub_cancel] at hyc
  have hsp : isSep y = (((y.toNat : Int) == 32) || ((y.toNat : Int) == 10)) := by
    unfold isSep
    rw [Bool.eq_iff_iff]
    simp [← UInt8.toNat_inj]
    omega
  by_cases hf0 : f = []
  · -- an empty field: refused
    subst hf0
    have hok : okF [] = false := rfl
    have hp0 : p = 0 := by
      rcases htl with ⟨_, h, _⟩ | ⟨rfl, _⟩ | ⟨rfl, _⟩
      · exact absurd rfl h
      · simpa using hL
      · simpa using hL
    subst hp0
    rw [Nat.add_zero] at hyc
    have hyt2 : isSep y = true := by
      rcases htl with ⟨_, h, _⟩ | ⟨rfl, _⟩ | ⟨rfl, _⟩
      · exact absurd rfl h
      · rcases hyt with ⟨h, _⟩ | h
        · cases h
        · cases h; rfl
      · rcases hyt with ⟨h, _⟩ | h
        · cases h
        · cases h; rfl
    rw [hsp] at hyt2
    have hq : ((y.toNat : Int) == 32) = true ∨ (((y.toNat : Int) == 32) = false ∧ ((y.toNat : Int) == 10) = true) := by
      cases h : ((y.toNat : Int) == 32)
      · rw [h] at hyt2; exact Or.inr ⟨rfl, by simpa using hyt2⟩
      · exact Or.inl rfl
    clear hyt2 hsp hyt htl hL
    have hc1 : (1 : Int) ≤ (c : Int) := by omega
    rcases hq with q1 | ⟨q1, q2⟩
    all_goals
      go_enter Tryf.func27, Tryf.ntmps27
      go_wp2_with fail
      refine Calls.mono BY.out ?_
      rintro e w1 ⟨rfl, rfl⟩
      go_wp2_with fail
      refine (new_any _ _).mono ?_
      rintro e w2 ⟨rfl, hb2⟩
      replace hb2 : Hid (_) := hb2
      go_wp2
      go_ret3
      exact ⟨Or.inr ⟨hok, _, _, rfl⟩, hb2.out⟩
  · have hfl : 0 < f.length := List.length_pos_iff.2 hf0
    rcases htl with ⟨rfl, _, hs, rfl⟩ | ⟨rfl, rfl⟩ | ⟨rfl, rfl⟩
    · have hpf : f.length = p + 1 := by simpa using hL.symm
      have hys : isSep y = false := by
        rcases hyt with ⟨_, h⟩ | h
        · exact h
        · cases h
      rw [hsp] at hys
      have q1 : ((y.toNat : Int) == 32) = false := by
        cases h : ((y.toNat : Int) == 32)
        · rfl
        · rw [h] at hys; simp at hys
      have q2 : ((y.toNat : Int) == 10) = false := by
        cases h : ((y.toNat : Int) == 10)
        · rfl
        · rw [h] at hys; simp at hys
      have q3 : ((f.length : Int) == 0) = false := by rw [beq_eq_false_iff_ne]; omega
      clear hys hsp hyt hs hL
      rw [← hpf] at BY
      have k2 : (f.length : Int) - 1 = (p : Int) := by omega
      have hpl : (p : Int) < (f.length : Int) := by omega
      have hfc : f.length ≤ c := by omega
      clear hpf hc k1
      go_enter Tryf.func27, Tryf.ntmps27
      go_wp2_with fail
      refine Calls.mono BY.out ?_
      rintro e w1 ⟨rfl, rfl⟩
      go_wp2
      go_loopg [39] f.length (fun q iv wr => ∃ k : Nat, k ≤ f.length ∧ f.length ≤ k + q ∧ iv = .int .i64 k ∧ Hid (∀ j x, j < k → f[j]? = some x → isCtl x = false) ∧ wr = w1)
      case atStart => exact ⟨0, by omega, by omega, rfl, fun j x h => by omega, rfl⟩
      case round =>
        obtain ⟨k, hk, hq, rfl, HC, rfl⟩ := hrel
        by_cases hlt : k < f.length
        · obtain ⟨x, hx⟩ : ∃ x, f[k]? = some x := ⟨f[k], List.getElem?_eq_getElem hlt⟩
          have hxc := hcb.out k x hx
          have hlt' : (k : Int) < (f.length : Int) := by omega
          have hci := ctl_int x
          cases hct : isCtl x
          · rw [hct] at hci
            have d1 : decide ((x.toNat : Int) < 32) = false := by
              cases h : decide ((x.toNat : Int) < 32)
              · rfl
              · rw [h] at hci; simp at hci
            have d2 : ((x.toNat : Int) == 127) = false := by
              cases h : ((x.toNat : Int) == 127)
              · rfl
              · rw [h] at hci; simp at hci
            have N : Hid (∀ j z, j < k + 1 → f[j]? = some z → isCtl z = false) := fun j z hj hz => by
              rcases Nat.lt_or_ge j k with h | h
              · exact HC.out j z h hz
              · obtain rfl : j = k := by omega
                rw [hx] at hz
                obtain rfl := Option.some.inj hz
                exact hct
            clear hci hx hct HC
            go_wp2
            go_roundg (gk - 1)
            case measure => omega
            case rel => exact ⟨k + 1, by omega, by omega, by go_num, N, rfl⟩
          · have hok : Hid (okF f = false) := by
              show okF f = false
              unfold okF
              have : f.all (fun c => !isCtl c) = false := by
                rw [List.all_eq_false]
                exact ⟨x, List.mem_of_getElem? hx, by simp [hct]⟩
              rw [this]; simp
            rw [hct] at hci
            have dd : decide ((x.toNat : Int) < 32) = true ∨ (decide ((x.toNat : Int) < 32) = false ∧ ((x.toNat : Int) == 127) = true) := by
              cases h : decide ((x.toNat : Int) < 32)
              · rw [h] at hci; exact Or.inr ⟨rfl, by simpa using hci.symm⟩
              · exact Or.inl rfl
            clear hci hx hct HC
            rcases dd with d1 | ⟨d1, d2⟩
            all_goals
              go_wp2_with fail
              refine (errorf_any _ _ _ (heap_cell_new _ _)).mono ?_
              rintro e w2 ⟨⟨t2, v2, rfl⟩, hb2⟩
              replace hb2 : Hid (_) := hb2
              go_wp2
              go_ret3
              exact ⟨Or.inr ⟨hok.out, _, _, rfl⟩, ((Below.refl _ _).alloc (Nat.le_refl _) _).trans (hb2.out.mono (by simp))⟩
        · obtain rfl : k = f.length := by omega
          have hok : Hid (okF f = true) := by
            show okF f = true
            unfold okF
            have h1 : f.all (fun c => !isCtl c) = true := by
              rw [List.all_eq_true]
              intro x hx
              obtain ⟨j, hj, rfl⟩ := List.getElem_of_mem hx
              rw [HC.out j _ hj (List.getElem?_eq_getElem hj)]; rfl
            rw [h1]
            cases f with
            | nil => exact absurd rfl hf0
            | cons => rfl
          have hge : decide (f.length < f.length) = false := by simp
          have hconv : (convert 43 9 (.slice (some ⟨B, st, none⟩) f.length c)).run Tryf.prog wr = .ok (.string ⟨f.toArray⟩) wr :=
            Lib.run_convert_whole (P := Tryf.prog) wr 43 5 9 Tryf.underlying43 Tryf.underlying5 Tryf.underlying9 B st ⟨f.toArray⟩ (bytes_of hcb.out) c
          go_wp2
          go_ret3
          exact ⟨Or.inl ⟨hok.out, rfl⟩, Below.refl _ _⟩
    · have hpf : p = f.length := by simpa using hL
      subst hpf
      obtain rfl : y = 32 := by
        rcases hyt with ⟨h, _⟩ | h
        · cases h
        · cases h; rfl
      have q3 : ((f.length : Int) == 0) = false := by rw [beq_eq_false_iff_ne]; omega
      clear hsp hyt hL
      have hpl : (f.length : Int) ≤ (f.length : Int) + 1 := by omega
      have hpc : (f.length : Int) ≤ (c : Int) := by omega
      rw [show ((32 : UInt8).toNat : Int) = 32 from rfl] at hyc
      go_enter Tryf.func27, Tryf.ntmps27
      go_wp2_with fail
      refine Calls.mono BY.out ?_
      rintro e w1 ⟨rfl, rfl⟩
      go_wp2
      go_loopg [39] f.length (fun q iv wr => ∃ k : Nat, k ≤ f.length ∧ f.length ≤ k + q ∧ iv = .int .i64 k ∧ Hid (∀ j x, j < k → f[j]? = some x → isCtl x = false) ∧ wr = w1)
      case atStart => exact ⟨0, by omega, by omega, rfl, fun j x h => by omega, rfl⟩
      case round =>
        obtain ⟨k, hk, hq, rfl, HC, rfl⟩ := hrel
        by_cases hlt : k < f.length
        · obtain ⟨x, hx⟩ : ∃ x, f[k]? = some x := ⟨f[k], List.getElem?_eq_getElem hlt⟩
          have hxc := hcb.out k x hx
          have hlt' : (k : Int) < (f.length : Int) := by omega
          have hci := ctl_int x
          cases hct : isCtl x
          · rw [hct] at hci
            have d1 : decide ((x.toNat : Int) < 32) = false := by
              cases h : decide ((x.toNat : Int) < 32)
              · rfl
              · rw [h] at hci; simp at hci
            have d2 : ((x.toNat : Int) == 127) = false := by
              cases h : ((x.toNat : Int) == 127)
              · rfl
              · rw [h] at hci; simp at hci
            have N : Hid (∀ j z, j < k + 1 → f[j]? = some z → isCtl z = false) := fun j z hj hz => by
              rcases Nat.lt_or_ge j k with h | h
              · exact HC.out j z h hz
              · obtain rfl : j = k := by omega
                rw [hx] at hz
                obtain rfl := Option.some.inj hz
                exact hct
            clear hci hx hct HC
            go_wp2
            go_roundg (gk - 1)
            case measure => omega
            case rel => exact ⟨k + 1, by omega, by omega, by go_num, N, rfl⟩
          · have hok : Hid (okF f = false) := by
              show okF f = false
              unfold okF
              have : f.all (fun c => !isCtl c) = false := by
                rw [List.all_eq_false]
                exact ⟨x, List.mem_of_getElem? hx, by simp [hct]⟩
              rw [this]; simp
            rw [hct] at hci
            have dd : decide ((x.toNat : Int) < 32) = true ∨ (decide ((x.toNat : Int) < 32) = false ∧ ((x.toNat : Int) == 127) = true) := by
              cases h : decide ((x.toNat : Int) < 32)
              · rw [h] at hci; exact Or.inr ⟨rfl, by simpa using hci.symm⟩
              · exact Or.inl rfl
            clear hci hx hct HC
            rcases dd with d1 | ⟨d1, d2⟩
            all_goals
              go_wp2_with fail
              refine (errorf_any _ _ _ (heap_cell_new _ _)).mono ?_
              rintro e w2 ⟨⟨t2, v2, rfl⟩, hb2⟩
              replace hb2 : Hid (_) := hb2
              go_wp2
              go_ret3
              exact ⟨Or.inr ⟨hok.out, _, _, rfl⟩, ((Below.refl _ _).alloc (Nat.le_refl _) _).trans (hb2.out.mono (by simp))⟩
        · obtain rfl : k = f.length := by omega
          have hok : Hid (okF f = true) := by
            show okF f = true
            unfold okF
            have h1 : f.all (fun c => !isCtl c) = true := by
              rw [List.all_eq_true]
              intro x hx
              obtain ⟨j, hj, rfl⟩ := List.getElem_of_mem hx
              rw [HC.out j _ hj (List.getElem?_eq_getElem hj)]; rfl
            rw [h1]
            cases f with
            | nil => exact absurd rfl hf0
            | cons => rfl
          have hge : decide (f.length < f.length) = false := by simp
          have hconv : (convert 43 9 (.slice (some ⟨B, st, none⟩) f.length c)).run Tryf.prog wr = .ok (.string ⟨f.toArray⟩) wr :=
            Lib.run_convert_whole (P := Tryf.prog) wr 43 5 9 Tryf.underlying43 Tryf.underlying5 Tryf.underlying9 B st ⟨f.toArray⟩ (bytes_of hcb.out) c
          go_wp2
          go_ret3
          exact ⟨Or.inl ⟨hok.out, rfl⟩, Below.refl _ _⟩
    · have hpf : p = f.length := by simpa using hL
      subst hpf
      obtain rfl : y = 10 := by
        rcases hyt with ⟨h, _⟩ | h
        · cases h
        · cases h; rfl
      have q3 : ((f.length : Int) == 0) = false := by rw [beq_eq_false_iff_ne]; omega
      clear hsp hyt hL
      have hpl : (f.length : Int) ≤ (f.length : Int) + 1 := by omega
      have hpc : (f.length : Int) ≤ (c : Int) := by omega
      rw [show ((10 : UInt8).toNat : Int) = 10 from rfl] at hyc
      go_enter Tryf.func27, Tryf.ntmps27
      go_wp2_with fail
      refine Calls.mono BY.out ?_
      rintro e w1 ⟨rfl, rfl⟩
      go_wp2
      go_loopg [39] f.length (fun q iv wr => ∃ k : Nat, k ≤ f.length ∧ f.length ≤ k + q ∧ iv = .int .i64 k ∧ Hid (∀ j x, j < k → f[j]? = some x → isCtl x = false) ∧ wr = w1)
      case atStart => exact ⟨0, by omega, by omega, rfl, fun j x h => by omega, rfl⟩
      case round =>
        obtain ⟨k, hk, hq, rfl, HC, rfl⟩ := hrel
        by_cases hlt : k < f.length
        · obtain ⟨x, hx⟩ : ∃ x, f[k]? = some x := ⟨f[k], List.getElem?_eq_getElem hlt⟩
          have hxc := hcb.out k x hx
          have hlt' : (k : Int) < (f.length : Int) := by omega
          have hci := ctl_int x
          cases hct : isCtl x
          · rw [hct] at hci
            have d1 : decide ((x.toNat : Int) < 32) = false := by
              cases h : decide ((x.toNat : Int) < 32)
              · rfl
              · rw [h] at hci; simp at hci
            have d2 : ((x.toNat : Int) == 127) = false := by
              cases h : ((x.toNat : Int) == 127)
              · rfl
              · rw [h] at hci; simp at hci
            have N : Hid (∀ j z, j < k + 1 → f[j]? = some z → isCtl z = false) := fun j z hj hz => by
              rcases Nat.lt_or_ge j k with h | h
              · exact HC.out j z h hz
              · obtain rfl : j = k := by omega
                rw [hx] at hz
                obtain rfl := Option.some.inj hz
                exact hct
            clear hci hx hct HC
            go_wp2
            go_roundg (gk - 1)
            case measure => omega
            case rel => exact ⟨k + 1, by omega, by omega, by go_num, N, rfl⟩
          · have hok : Hid (okF f = false) := by
              show okF f = false
              unfold okF
              have : f.all (fun c => !isCtl c) = false := by
                rw [List.all_eq_false]
                exact ⟨x, List.mem_of_getElem? hx, by simp [hct]⟩
              rw [this]; simp
            rw [hct] at hci
            have dd : decide ((x.toNat : Int) < 32) = true ∨ (decide ((x.toNat : Int) < 32) = false ∧ ((x.toNat : Int) == 127) = true) := by
              cases h : decide ((x.toNat : Int) < 32)
              · rw [h] at hci; exact Or.inr ⟨rfl, by simpa using hci.symm⟩
              · exact Or.inl rfl
            clear hci hx hct HC
            rcases dd with d1 | ⟨d1, d2⟩
            all_goals
              go_wp2_with fail
              refine (errorf_any _ _ _ (heap_cell_new _ _)).mono ?_
              rintro e w2 ⟨⟨t2, v2, rfl⟩, hb2⟩
              replace hb2 : Hid (_) := hb2
              go_wp2
              go_ret3
              exact ⟨Or.inr ⟨hok.out, _, _, rfl⟩, ((Below.refl _ _).alloc (Nat.le_refl _) _).trans (hb2.out.mono (by simp))⟩
        · obtain rfl : k = f.length := by omega
          have hok : Hid (okF f = true) := by
            show okF f = true
            unfold okF
            have h1 : f.all (fun c => !isCtl c) = true := by
              rw [List.all_eq_true]
              intro x hx
              obtain ⟨j, hj, rfl⟩ := List.getElem_of_mem hx
              rw [HC.out j _ hj (List.getElem?_eq_getElem hj)]; rfl
            rw [h1]
            cases f with
            | nil => exact absurd rfl hf0
            | cons => rfl
          have hge : decide (f.length < f.length) = false := by simp
          have hconv : (convert 43 9 (.slice (some ⟨B, st, none⟩) f.length c)).run Tryf.prog wr = .ok (.string ⟨f.toArray⟩) wr :=
            Lib.run_convert_whole (P := Tryf.prog) wr 43 5 9 Tryf.underlying43 Tryf.underlying5 Tryf.underlying9 B st ⟨f.toArray⟩ (bytes_of hcb.out) c
          go_wp2
          go_ret3
          exact ⟨Or.inl ⟨hok.out, rfl⟩, Below.refl _ _⟩

end Go.Proofs.Qxb6613537aFmt
