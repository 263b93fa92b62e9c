/-
  THE WALK of bytes.IndexAny (38), chars " \n".
-/
import Derived.Test.Qxb6613537aFmtWc
import Derived.Test.Qxb6613537aFmtPl
import Derived.Test.Qxb6613537aFmtShelf
import Derived.Lib.Bytealg
import Derived.Lib.IndexEntry
import Derived.Lib.OthersKept
import Derived.Laws.RangeAny
namespace Go.Proofs.Qxb6613537aFmt
open Go.RowKit
open Pl

theorem idx_at (s : List UInt8) (k : Nat) (c : UInt8) (h : s[k]? = some c) : idx (s.drop k) = if isSep c then 0 else 1 + idx (s.drop (k + 1)) := by
  obtain ⟨hk, hc⟩ := List.getElem?_eq_some_iff.1 h
  rw [List.drop_eq_getElem_cons hk, hc]
  unfold idx fld
  rw [List.takeWhile_cons]
  cases isSep c <;> simp
  omega

theorem idx_start (s : List UInt8) : 0 + idx (s.drop 0) = idx s := by simp

theorem idx_end (s : List UInt8) (k : Nat) (h : s.length ≤ k) : idx (s.drop k) = 0 := by
  rw [List.drop_eq_nil_of_le h]; rfl

/-- What IndexAny answers. -/
def ia (s : List UInt8) : Int := if idx s < s.length then (idx s : Int) else -1

theorem ia_some (s : List UInt8) (k : Nat) (hk : k < s.length) (h : k + idx (s.drop k) = idx s) (c : UInt8) (hc : s[k]? = some c) (hs : isSep c = true) : ia s = k := by
  rw [idx_at s k c hc, hs] at h
  simp at h
  unfold ia
  rw [← h, if_pos hk]

theorem ia_none (s : List UInt8) (k : Nat) (hk : s.length ≤ k) (h : k + idx (s.drop k) = idx s) : ia s = -1 := by
  unfold ia
  rw [if_neg (by have := idx_le s; omega)]

def sepChars : ByteArray := ⟨#[32, 10]⟩

theorem sep_contains (c : UInt8) : ([32, 10] : List UInt8).contains c = isSep c := by
  unfold isSep
  simp only [List.contains_cons, List.contains_nil, Bool.or_false]

set_option maxHeartbeats 4000000 in
set_option maxRecDepth 1000000 in
theorem indexAny_long (w : World) (B off cap : Nat) (s : List UInt8) (hb : Hid (∀ j c, s[j]? = some c → w.cell? ⟨B, off + j, none⟩ = some (.int .u8 c.toNat))) (hB : B < w.heap.size) (h8 : 8 < s.length) (hlen : s.length ≤ 16777216) :
    Calls Tryf.prog 38 #[.slice (some ⟨B, off, none⟩) s.length cap, .string ⟨#[32, 10]⟩] w fun e w' => e = .returned (.int .i64 (ia s)) ∧ Below w.heap.size w w' := by
  obtain ⟨hv85, hi85⟩ := zero_of_info info85
  have h1 : ((s.length : Int) == 1) = false := by rw [beq_eq_false_iff_ne]; omega
  have h2 : decide (8 < s.length) = true := by simp; omega
  have h2' : decide ((8 : Int) < (s.length : Int)) = true := by simp; omega
  have MS : Hid (_) := makeSet_any ⟨#[32, 10]⟩ w (by decide) (fun j b hj => by
    have : b ∈ ([32, 10] : List UInt8) := List.mem_of_getElem? hj
    simp at this
    rcases this with rfl | rfl <;> decide)
  have hsz := Lib.setCells_size ([32, 10] : List UInt8)
  go_enter Tryf.func38, Tryf.ntmps38
  go_wp2_with fail
  refine (shouldUse_any s.length w).mono ?_
  rintro e w1 ⟨rfl, rfl⟩
  go_wp2_with fail
  refine Calls.mono MS.out ?_
  rintro e w2 ⟨rfl, hw2⟩
  have hsc : Hid (_) := run_storeCells_new (P := Tryf.prog) w2 85 (Array.replicate 256 (.bool false)) (Lib.setCells ([32, 10] : List UInt8)) (by rw [hsz]; exact hi85) (by rw [hsz]; simp) (Lib.setCells_one _)
  have hb2 : Hid (Below w1.heap.size w1 w2) := by
    show Below _ _ _
    rw [hw2]; exact (Below.refl _ _).alloc (Nat.le_refl _) _
  have hs2 : w1.heap.size ≤ w2.heap.size := hb2.out.size
  clear hw2
  go_wp2_with fail
  simp only [Result.andThen, hsc.out]
  rw [Oper.upon_skip]
  obtain ⟨w3, hw3⟩ : ∃ w3, w3 = w2.alloc (.cells (Lib.setCells ([32, 10] : List UInt8)) 85) := ⟨_, rfl⟩
  rw [← hw3]
  have hA3 : Hid (∀ c : UInt8, w3.cell? ⟨w2.heap.size, c.toNat, none⟩ = some (.bool (isSep c))) := fun c => by
    rw [hw3, cell_of_row _ _ _ _ 85 (0, 0) (heap_alloc_new w2 _), Lib.setCells_at, sep_contains]
  have hb3 : Hid (Below w1.heap.size w1 w3) := by
    show Below _ _ _
    rw [hw3]; exact hb2.out.alloc hs2 _
  clear hsc hw3
  go_wp2
  go_loopg [62] s.length (fun q iv wr => ∃ k : Nat, k ≤ s.length ∧ s.length ≤ k + q ∧ iv = .int .i64 k ∧ Hid (k + idx (s.drop k) = idx s) ∧ wr = w3)
  case atStart => exact ⟨0, by omega, by omega, rfl, idx_start s, rfl⟩
  case round =>
    obtain ⟨k, hk, hq, rfl, HI, rfl⟩ := hrel
    by_cases hlt : k < s.length
    · obtain ⟨c, hc⟩ : ∃ c, s[k]? = some c := ⟨s[k], List.getElem?_eq_getElem hlt⟩
      have hcell : wr.cell? ⟨B, off + k, none⟩ = some (.int .u8 c.toNat) := by
        rw [hb3.out.cell (by exact hB)]; exact hb.out k c hc
      have hlt' : (k : Int) < (s.length : Int) := by omega
      have hia : Hid (isSep c = true → ia s = k) := fun h => ia_some s k hlt HI.out c hc h
      have hnx : Hid (isSep c = false → k + 1 + idx (s.drop (k + 1)) = idx s) := fun h => by
        have h1 := HI.out
        rw [idx_at s k c hc, h] at h1
        simp at h1
        omega
      have CT : Hid (_) := contains_any w2.heap.size c (isSep c) wr (hA3.out c)
      clear hc HI
      go_wp2_with fail
      refine Calls.mono CT.out ?_
      rintro e w4 ⟨rfl, rfl⟩
      cases hsp : isSep c
      · have N := hnx.out hsp
        replace N : Hid (_) := N
        go_wp2
        go_roundg (gk - 1)
        case measure => omega
        case rel => exact ⟨k + 1, by omega, by omega, by go_num, N, rfl⟩
      · have N : Hid (_) := hia.out hsp
        go_wp2
        go_ret
        exact ⟨by rw [N.out]; rfl, hb3.out⟩
    · have hge : decide (k < s.length) = false := by simp; omega
      have hge' : decide ((k : Int) < (s.length : Int)) = false := by simp; omega
      have N : Hid (_) := ia_none s k (by omega) HI.out
      go_wp2
      go_ret
      exact ⟨by rw [N.out]; rfl, hb3.out⟩

theorem ib_sep (c : UInt8) : decide (0 ≤ Lib.indexByte [32, 10] c) = isSep c := by
  unfold isSep
  by_cases h1 : c = 32
  · subst h1; decide
  · by_cases h2 : c = 10
    · subst h2; decide
    · have e1 : ((32 : UInt8) == c) = false := by simpa using fun h => h1 h.symm
      have e2 : ((10 : UInt8) == c) = false := by simpa using fun h => h2 h.symm
      simp [Lib.indexByte, h1, h2, e1, e2]

theorem toU8 (c : UInt8) : ((c.toNat : Int)).toNat.toUInt8 = c := by simp

theorem sep_low (c : UInt8) (h : 128 ≤ c.toNat) : isSep c = false := by
  unfold isSep
  cases h1 : (c == 32 || c == 10) with
  | false => rfl
  | true =>
    simp only [Bool.or_eq_true, beq_iff_eq] at h1
    rcases h1 with rfl | rfl
    · exact absurd h (by decide)
    · exact absurd h (by decide)

set_option maxHeartbeats 4000000 in
set_option maxRecDepth 1000000 in
theorem indexAny_one (w : World) (B off cap : Nat) (c : UInt8) (hb : w.cell? ⟨B, off, none⟩ = some (.int .u8 c.toNat)) :
    Calls Tryf.prog 38 #[.slice (some ⟨B, off, none⟩) 1 cap, .string ⟨#[32, 10]⟩] w fun e w' => e = .returned (.int .i64 (ia [c])) ∧ Below w.heap.size w w' := by
  have hia : Hid (ia [c] = if isSep c then 0 else -1) := by
    show _ = _
    unfold ia idx fld
    cases h : isSep c <;> simp [h]
  have hc256 : c.toNat < 256 := UInt8.toNat_lt c
  by_cases hlo : c.toNat < 128
  · have e1 : decide ((128 : Int) ≤ (c.toNat : Int)) = false := by simp; omega
    have e1' : decide (128 ≤ c.toNat) = false := by simp; omega
    have hib := ib_sep c
    obtain ⟨r, hr⟩ : ∃ r, Lib.indexByte [32, 10] c = r := ⟨_, rfl⟩
    rw [hr] at hib
    cases hs : isSep c
    · rw [hs] at hib hia
      go_enter Tryf.func38, Tryf.ntmps38
      go_wp2_with fail
      rw [run_callFunc_extern Tryf.func42 (by kernel_rfl) (by kernel_rfl) (by kernel_rfl) (e := Extern.BytealgIndexByte.indexByte) (by kernel_rfl), Lib.run_indexByteString, toU8]
      simp only [Result.andThen]
      rw [Oper.upon_value, hr]
      go_wp2
      go_ret
      exact ⟨by rw [hia.out]; rfl, Below.refl _ _⟩
    · rw [hs] at hib hia
      go_enter Tryf.func38, Tryf.ntmps38
      go_wp2_with fail
      rw [run_callFunc_extern Tryf.func42 (by kernel_rfl) (by kernel_rfl) (by kernel_rfl) (e := Extern.BytealgIndexByte.indexByte) (by kernel_rfl), Lib.run_indexByteString, toU8]
      simp only [Result.andThen]
      rw [Oper.upon_value, hr]
      go_wp2
      go_ret
      exact ⟨by rw [hia.out]; rfl, Below.refl _ _⟩
  · have e1 : decide ((128 : Int) ≤ (c.toNat : Int)) = true := by simp; omega
    have e1' : decide (128 ≤ c.toNat) = true := by simp; omega
    rw [sep_low c (by omega)] at hia
    go_enter Tryf.func38, Tryf.ntmps38
    go_wp2
    go_loopg [5] 2 (fun q _ wr => ∃ pos : Nat, pos ≤ 2 ∧ 2 ≤ pos + q ∧ wr = w.iter ⟨#[32, 10]⟩ pos)
    case atStart => exact ⟨0, by omega, by omega, rfl⟩
    case round =>
      obtain ⟨pos, hp, hq, rfl⟩ := hrel
      obtain rfl | rfl | rfl : pos = 0 ∨ pos = 1 ∨ pos = 2 := by omega
      · have hnx := fun ty => run_next_ascii (P := Tryf.prog) w ⟨#[32, 10]⟩ 0 ty (by decide) (by decide)
        go_wp2
        go_roundg (gk - 1)
        case measure => omega
        case rel => exact ⟨1, by omega, by omega, rfl⟩
      · have hnx := fun ty => run_next_ascii (P := Tryf.prog) w ⟨#[32, 10]⟩ 1 ty (by decide) (by decide)
        go_wp2
        go_roundg (gk - 1)
        case measure => omega
        case rel => exact ⟨2, by omega, by omega, rfl⟩
      · have hnx := fun ty => run_next_end (P := Tryf.prog) w ⟨#[32, 10]⟩ 2 ty (by decide)
        go_wp2
        go_ret
        exact ⟨by rw [hia.out]; rfl, (Below.refl _ w).alloc (Nat.le_refl _) _⟩

theorem dec_facts (n b0 b1 b2 b3 : Nat) (hn : 1 ≤ n) (h0 : 128 ≤ b0) (h0' : b0 < 256) :
    128 ≤ (Lib.decodeN n b0 b1 b2 b3).1 ∧ (Lib.decodeN n b0 b1 b2 b3).1 ≤ 2097151 ∧ 1 ≤ (Lib.decodeN n b0 b1 b2 b3).2 ∧ (Lib.decodeN n b0 b1 b2 b3).2 ≤ 4 ∧ (Lib.decodeN n b0 b1 b2 b3).2 ≤ n ∧
    (2 ≤ (Lib.decodeN n b0 b1 b2 b3).2 → b1 / 64 = 2) ∧ (3 ≤ (Lib.decodeN n b0 b1 b2 b3).2 → b2 / 64 = 2) ∧ (4 ≤ (Lib.decodeN n b0 b1 b2 b3).2 → b3 / 64 = 2) ∧
    ((Lib.decodeN n b0 b1 b2 b3).1 ≠ 65533 → ((Lib.decodeN n b0 b1 b2 b3).2 = 2 ∧ (Lib.decodeN n b0 b1 b2 b3).1 < 2048) ∨ ((Lib.decodeN n b0 b1 b2 b3).2 = 3 ∧ 2048 ≤ (Lib.decodeN n b0 b1 b2 b3).1 ∧ (Lib.decodeN n b0 b1 b2 b3).1 < 65536 ∧ ((Lib.decodeN n b0 b1 b2 b3).1 < 55296 ∨ 57344 ≤ (Lib.decodeN n b0 b1 b2 b3).1)) ∨ ((Lib.decodeN n b0 b1 b2 b3).2 = 4 ∧ 65536 ≤ (Lib.decodeN n b0 b1 b2 b3).1 ∧ (Lib.decodeN n b0 b1 b2 b3).1 ≤ 1114111)) := by
  unfold Lib.decodeN
  rw [if_neg (by omega)]
  repeat' split
  all_goals
    simp only
    refine ⟨by omega, by omega, by omega, by omega, by omega, fun _ => by omega, fun _ => by omega, fun _ => by omega, fun hne => ?_⟩
    first
      | exact absurd rfl hne
      | exact Or.inl ⟨by decide, by omega⟩
      | exact Or.inr (Or.inl ⟨by decide, by omega, by omega, by omega⟩)
      | exact Or.inr (Or.inr ⟨by decide, by omega, by omega⟩)

theorem idx_skip (s : List UInt8) : ∀ (K k : Nat), (∀ j, j < K → ∃ c, s[k + j]? = some c ∧ 128 ≤ c.toNat) → idx (s.drop k) = K + idx (s.drop (k + K))
  | 0, k, _ => by simp
  | K + 1, k, h => by
    obtain ⟨c, hc, h128⟩ := h 0 (by omega)
    rw [Nat.add_zero] at hc
    rw [idx_at s k c hc, sep_low c h128]
    have := idx_skip s K (k + 1) (fun j hj => by
      obtain ⟨d, hd, h'⟩ := h (j + 1) (by omega)
      exact ⟨d, by rw [show k + 1 + j = k + (j + 1) from by omega]; exact hd, h'⟩)
    rw [if_neg (by simp), this, show k + 1 + K = k + (K + 1) from by omega]
    omega

theorem u8_of (n : Nat) (h : n < 256) : (UInt8.ofNat n).toNat = n := by
  rw [UInt8.toNat_ofNat']
  exact Nat.mod_eq_of_lt h

theorem enc_head (r : Nat) (h : 128 ≤ r) : ∃ x t, (Utf8.encode r).data.toList = x :: t ∧ 128 ≤ x.toNat := by
  unfold Utf8.encode
  have hc : 128 ≤ (if Utf8.valid (r : Int) = true then ((r : Int)).toNat else Utf8.runeError) ∧ (if Utf8.valid (r : Int) = true then ((r : Int)).toNat else Utf8.runeError) ≤ 1114111 := by
    split
    · rename_i hv
      simp only [Utf8.valid, Bool.and_eq_true, Bool.or_eq_true, decide_eq_true_eq] at hv
      omega
    · decide
  generalize (if Utf8.valid (r : Int) = true then ((r : Int)).toNat else Utf8.runeError) = c at hc
  simp only
  rw [if_neg (by omega)]
  split
  · exact ⟨_, _, rfl, by rw [u8_of _ (by omega)]; omega⟩
  · split
    · exact ⟨_, _, rfl, by rw [u8_of _ (by omega)]; omega⟩
    · exact ⟨_, _, rfl, by rw [u8_of _ (by omega)]; omega⟩

theorem enc_ne (r : Nat) (h : 128 ≤ r) : (Utf8.encode r).data.toList ≠ [32, 10] := by
  obtain ⟨x, t, e, hx⟩ := enc_head r h
  rw [e]
  intro h'
  simp only [List.cons.injEq] at h'
  rw [h'.1] at hx
  exact absurd hx (by decide)

theorem enc_size (r K : Nat) (h : (K = 2 ∧ r < 2048) ∨ (K = 3 ∧ 2048 ≤ r ∧ r < 65536 ∧ (r < 55296 ∨ 57344 ≤ r)) ∨ (K = 4 ∧ 65536 ≤ r ∧ r ≤ 1114111)) (h1 : 128 ≤ r) : (Utf8.encode r).size = K := by
  have hv : Utf8.valid (r : Int) = true := by
    simp only [Utf8.valid, Bool.and_eq_true, Bool.or_eq_true, decide_eq_true_eq]
    omega
  unfold Utf8.encode
  rw [hv]
  simp only [if_true, Int.toNat_natCast]
  rw [if_neg (by omega)]
  rcases h with ⟨rfl, h⟩ | ⟨rfl, h, h', _⟩ | ⟨rfl, h, _⟩
  · rw [if_pos (by omega)]; rfl
  · rw [if_neg (by omega), if_pos (by omega)]; rfl
  · rw [if_neg (by omega), if_neg (by omega)]; rfl

/-- What DecodeRune says of bytes that begin with no ASCII one. -/
structure DecOK (D : List UInt8) (r K : Nat) : Prop where
  r1 : 128 ≤ r
  r2 : r ≤ 2097151
  k1 : 1 ≤ K
  k2 : K ≤ 4
  k3 : K ≤ D.length
  hi : ∀ j, j < K → ∃ c, D[j]? = some c ∧ 128 ≤ c.toNat
  cls : r ≠ 65533 → (K = 2 ∧ r < 2048) ∨ (K = 3 ∧ 2048 ≤ r ∧ r < 65536 ∧ (r < 55296 ∨ 57344 ≤ r)) ∨ (K = 4 ∧ 65536 ≤ r ∧ r ≤ 1114111)

theorem get_at (D : List UInt8) (j : Nat) (c : UInt8) (h : D[j]? = some c) : (⟨D.toArray⟩ : ByteArray).get! j = c := by
  show D.toArray[j]! = c
  simp [h]

theorem tabs_below {w w' : World} (h : Lib.Utf8Tabs 8 9 w) (hb : Below w.heap.size w w') : Lib.Utf8Tabs 8 9 w' :=
  ⟨fun c hc => by rw [hb.cell (World.block_lt_of_cell? w _ (h.1 c hc))]; exact h.1 c hc, fun i hi => ⟨by rw [hb.cell (World.block_lt_of_cell? w _ (h.2 i hi).1)]; exact (h.2 i hi).1, by rw [hb.cell (World.block_lt_of_cell? w _ (h.2 i hi).2)]; exact (h.2 i hi).2⟩⟩

theorem dec_at (w : World) (B off cap : Nat) (D : List UInt8) (hT : Lib.Utf8Tabs 8 9 w) (hb : ∀ j c, D[j]? = some c → w.cell? ⟨B, off + j, none⟩ = some (.int .u8 c.toNat)) (c : UInt8) (h0 : D[0]? = some c) (h128 : 128 ≤ c.toNat) :
    Calls Tryf.prog 47 #[.slice (some ⟨B, off, none⟩) D.length cap] w fun e w' => ∃ r K : Nat, DecOK D r K ∧ e = .returned (.tuple #[.int .i32 r, .int .i64 K]) ∧ Below w.heap.size w w' := by
  have hlen : 0 < D.length := by
    cases D with
    | nil => simp at h0
    | cons => simp
  have h := Any7.utf8_DecodeRune Tryf.lays32 ⟨D.toArray⟩ B off cap w hT (fun j hj => by
    have hj' : j < D.length := hj
    rw [get_at D j _ (List.getElem?_eq_getElem hj')]
    exact hb j _ (List.getElem?_eq_getElem hj'))
  refine Calls.mono h ?_
  rintro e w' ⟨rfl, hbl⟩
  refine ⟨_, _, ?_, rfl, hbl⟩
  have hsz : (⟨D.toArray⟩ : ByteArray).size = D.length := rfl
  have hdg : Lib.decodeGo ⟨D.toArray⟩ = Lib.decodeN D.length c.toNat ((⟨D.toArray⟩ : ByteArray).get! 1).toNat ((⟨D.toArray⟩ : ByteArray).get! 2).toNat ((⟨D.toArray⟩ : ByteArray).get! 3).toNat := by
    unfold Lib.decodeGo
    rw [if_neg (by rw [hsz]; omega), Lib.decode_at, get_at D 0 c h0]
    rfl
  rw [hdg]
  obtain ⟨f1, f2, f3, f4, f5, f6, f7, f8, f9⟩ := dec_facts D.length c.toNat ((⟨D.toArray⟩ : ByteArray).get! 1).toNat ((⟨D.toArray⟩ : ByteArray).get! 2).toNat ((⟨D.toArray⟩ : ByteArray).get! 3).toNat hlen h128 (UInt8.toNat_lt c)
  refine ⟨f1, f2, f3, f4, f5, fun j hj => ?_, f9⟩
  generalize Lib.decodeN D.length c.toNat _ _ _ = p at *
  have hj4 : j < 4 := by omega
  have hjl : j < D.length := by omega
  have e := get_at D j _ (List.getElem?_eq_getElem hjl)
  refine ⟨D[j], List.getElem?_eq_getElem hjl, ?_⟩
  rw [← e]
  obtain rfl | rfl | rfl | rfl : j = 0 ∨ j = 1 ∨ j = 2 ∨ j = 3 := by omega
  · rw [get_at D 0 c h0]; exact h128
  · have := f6 (by omega); omega
  · have := f7 (by omega); omega
  · have := f8 (by omega); omega

set_option maxHeartbeats 4000000 in
set_option maxRecDepth 1000000 in
theorem indexAny_short (w : World) (B off cap : Nat) (s : List UInt8) (m : Int) (hT : Lib.Utf8Tabs 8 9 w) (hm : w.cell? ⟨7, 0, none⟩ = some (.int .i64 m)) (hb : Hid (∀ j c, s[j]? = some c → w.cell? ⟨B, off + j, none⟩ = some (.int .u8 c.toNat))) (hB : B < w.heap.size) (h8 : s.length ≤ 8) (h1n : s.length ≠ 1) (hcap : s.length ≤ cap) (hcm : cap ≤ 16777216) :
    Calls Tryf.prog 38 #[.slice (some ⟨B, off, none⟩) s.length cap, .string ⟨#[32, 10]⟩] w fun e w' => e = .returned (.int .i64 (ia s)) ∧ Below w.heap.size w w' := by
  have h1 : ((s.length : Int) == 1) = false := by rw [beq_eq_false_iff_ne]; omega
  have h2 : decide (8 < s.length) = false := by simp; omega
  have h2' : decide ((8 : Int) < (s.length : Int)) = false := by simp; omega
  replace hT : Hid (_) := hT
  go_enter Tryf.func38, Tryf.ntmps38
  go_wp2_with fail
  refine (shouldUse_any s.length w).mono ?_
  rintro e w1 ⟨rfl, rfl⟩
  go_wp2
  go_loopg [12] s.length (fun q iv wr => ∃ k : Nat, k ≤ s.length ∧ s.length ≤ k + q ∧ iv = .int .i64 k ∧ Hid (k + idx (s.drop k) = idx s) ∧ Hid (Below w1.heap.size w1 wr))
  case atStart => exact ⟨0, by omega, by omega, rfl, idx_start s, Below.refl _ _⟩
  case round =>
    obtain ⟨k, hk, hq, rfl, HI, HB⟩ := hrel
    by_cases hlt : k < s.length
    · obtain ⟨c, hc⟩ : ∃ c, s[k]? = some c := ⟨s[k], List.getElem?_eq_getElem hlt⟩
      have hcell : wr.cell? ⟨B, off + k, none⟩ = some (.int .u8 c.toNat) := by
        rw [HB.out.cell (by exact hB)]; exact hb.out k c hc
      have hlt' : (k : Int) < (s.length : Int) := by omega
      have hc256 : c.toNat < 256 := UInt8.toNat_lt c
      have hws := HB.out.size
      by_cases hlo : c.toNat < 128
      · have e1 : decide ((c.toNat : Int) < 128) = true := by simp; omega
        have e1' : decide (c.toNat < 128) = true := by simp; omega
        have hib := ib_sep c
        obtain ⟨r, hr⟩ : ∃ r, Lib.indexByte [32, 10] c = r := ⟨_, rfl⟩
        rw [hr] at hib
        have hia : Hid (isSep c = true → ia s = k) := fun h => ia_some s k hlt HI.out c hc h
        have hnx : Hid (isSep c = false → k + 1 + idx (s.drop (k + 1)) = idx s) := fun h => by
          have h1 := HI.out
          rw [idx_at s k c hc, h] at h1
          simp at h1
          omega
        cases hs : isSep c
        · rw [hs] at hib
          have N : Hid (_) := hnx.out hs
          go_wp2_with fail
          rw [run_callFunc_extern Tryf.func42 (by kernel_rfl) (by kernel_rfl) (by kernel_rfl) (e := Extern.BytealgIndexByte.indexByte) (by kernel_rfl), Lib.run_indexByteString, toU8]
          simp only [Result.andThen]
          rw [Oper.upon_value, hr]
          go_wp2
          go_roundg (gk - 1)
          case measure => omega
          case rel => exact ⟨k + 1, by omega, by omega, by go_num, N, HB⟩
        · rw [hs] at hib
          have N : Hid (_) := hia.out hs
          go_wp2_with fail
          rw [run_callFunc_extern Tryf.func42 (by kernel_rfl) (by kernel_rfl) (by kernel_rfl) (e := Extern.BytealgIndexByte.indexByte) (by kernel_rfl), Lib.run_indexByteString, toU8]
          simp only [Result.andThen]
          rw [Oper.upon_value, hr]
          go_wp2
          go_ret
          exact ⟨by rw [N.out]; rfl, HB.out⟩
      · have e1 : decide ((c.toNat : Int) < 128) = false := by simp; omega
        have e1' : decide (c.toNat < 128) = false := by simp; omega
        have hck : (cap == k) = false := by rw [beq_eq_false_iff_ne]; omega
        have hck2 : ¬ cap = k := by omega
        have hkn : (k : Int) ≤ (s.length : Int) := by omega
        have DR : Hid (_) := dec_at wr B (off + k) (cap - k) (s.drop k) (tabs_below hT.out HB.out) (fun j d hj => by
          rw [List.getElem?_drop] at hj
          rw [Nat.add_assoc, HB.out.cell (by exact hB)]
          exact hb.out (k + j) d hj) c (by rw [List.getElem?_drop]; exact hc) (by omega)
        rw [List.length_drop] at DR
        go_wp2_with fail
        refine Calls.mono DR.out ?_
        rintro e w2 ⟨r, K, hd, rfl, hb2⟩
        have hr1 := hd.r1
        have hr2 := hd.r2
        have hk1 := hd.k1
        have hk2 := hd.k2
        have hk3 := hd.k3
        rw [List.length_drop] at hk3
        have N : Hid (k + K + idx (s.drop (k + K)) = idx s) := by
          show _ = _
          rw [← HI.out, idx_skip s K k (fun j hj => by
            obtain ⟨d, h1, h2⟩ := hd.hi j hj
            rw [List.getElem?_drop] at h1
            exact ⟨d, h1, h2⟩)]
          omega
        have hcls : Hid (_) := hd.cls
        have HB2 : Hid (Below w1.heap.size w1 w2) := HB.out.trans (hb2.mono hws)
        have hm2 : w2.cell? ⟨7, 0, none⟩ = some (.int .i64 m) := by
          rw [HB2.out.cell (World.block_lt_of_cell? w1 _ hm)]; exact hm
        have hws2 := HB2.out.size
        clear DR hd hb2
        have q1 : ((r : Int) == 32) = false := by rw [beq_eq_false_iff_ne]; omega
        have q2 : ((r : Int) == 10) = false := by rw [beq_eq_false_iff_ne]; omega
        have q3 : (r == 32) = false := by rw [beq_eq_false_iff_ne]; omega
        have q4 : (r == 10) = false := by rw [beq_eq_false_iff_ne]; omega
        have hrne : Hid ((Utf8.encode r).data.toList ≠ [32, 10]) := enc_ne r hr1
        by_cases hre : r = 65533
        · subst hre
          obtain ⟨G, rfl⟩ : ∃ G, G = gk := ⟨gk, rfl⟩
          go_wp2
          go_loopg [15] 2 (fun q _ wr2 => ∃ pos : Nat, pos ≤ 2 ∧ 2 ≤ pos + q ∧ wr2 = w2.iter ⟨#[32, 10]⟩ pos)
          case atStart => exact ⟨0, by omega, by omega, rfl⟩
          case round =>
            obtain ⟨pos, hp, hq2, rfl⟩ := hrel
            obtain rfl | rfl | rfl : pos = 0 ∨ pos = 1 ∨ pos = 2 := by omega
            · have hnx := fun ty => run_next_ascii (P := Tryf.prog) w2 ⟨#[32, 10]⟩ 0 ty (by decide) (by decide)
              have hv0 : ((⟨#[32, 10]⟩ : ByteArray)[0]'(by decide)).toNat = 32 := by decide
              rw [hv0] at hnx
              go_wp2
              go_roundg (gk - 1)
              case measure => omega
              case rel => exact ⟨1, by omega, by omega, rfl⟩
            · have hnx := fun ty => run_next_ascii (P := Tryf.prog) w2 ⟨#[32, 10]⟩ 1 ty (by decide) (by decide)
              have hv0 : ((⟨#[32, 10]⟩ : ByteArray)[1]'(by decide)).toNat = 10 := by decide
              rw [hv0] at hnx
              go_wp2
              go_roundg (gk - 1)
              case measure => omega
              case rel => exact ⟨2, by omega, by omega, rfl⟩
            · have hnx := fun ty => run_next_end (P := Tryf.prog) w2 ⟨#[32, 10]⟩ 2 ty (by decide)
              have HB3 : Hid (Below w1.heap.size w1 (w2.iter ⟨#[32, 10]⟩ 2)) := HB2.out.alloc hws2 _
              go_wp2
              go_roundg (G - 1)
              case measure => omega
              case rel => exact ⟨k + K, by omega, by omega, by go_num, N, HB3⟩
        · have hre1 : ((r : Int) == 65533) = false := by rw [beq_eq_false_iff_ne]; omega
          have hre2 : ((r : Int) != 65533) = true := by rw [bne_iff_ne]; omega
          have hes : Hid (_) := enc_size r K (hcls.out hre) hr1
          by_cases hK2 : K = 2
          · subst hK2
            have hcmp : (([32, 10] : List UInt8) == (Utf8.encode (r : Int)).toList) = false := by
              rw [Lib.toList_data, beq_eq_false_iff_ne]
              exact Ne.symm hrne.out
            go_wp2
            go_roundg (gk - 1)
            case measure => omega
            case rel => exact ⟨k + 2, by omega, by omega, by go_num, N, HB2⟩
          · have hK3 : ((2 : Int) == (K : Int)) = false := by rw [beq_eq_false_iff_ne]; omega
            have hK34 : 3 ≤ K := by rcases hcls.out hre with h | h | h <;> omega
            by_cases hmK : (K : Int) ≤ m
            · have hmK' : decide ((K : Int) ≤ m) = true := by simpa using hmK
              have hix : Hid (Lib.index ([32, 10] : List UInt8) (Utf8.encode (r : Int)).data.toList = -1) := by
                show _ = _
                refine Lib.index_long ?_ hrne.out
                rw [← Lib.size_eq, hes.out]
                show 2 ≤ K
                omega
              go_wp2_with fail
              rw [run_callFunc_extern Tryf.func48 (by kernel_rfl) (by kernel_rfl) (by kernel_rfl) (e := Extern.BytealgIndex.index) (by kernel_rfl),
                Lib.run_indexString ⟨#[32, 10]⟩ (Utf8.encode (r : Int)) _ 7 m (by kernel_rfl) hm2 (by rw [hes.out]; omega) (by rw [hes.out]; exact hmK) (by decide), hix.out]
              simp only [Result.andThen]
              rw [Oper.upon_value]
              go_wp2
              go_roundg (gk - 1)
              case measure => omega
              case rel => exact ⟨k + K, by omega, by omega, by go_num, N, HB2⟩
            · have hmK' : decide ((K : Int) ≤ m) = false := by simpa using hmK
              obtain ⟨G, rfl⟩ : ∃ G, G = gk := ⟨gk, rfl⟩
              go_wp2
              go_loopg [15] 2 (fun q _ wr2 => ∃ pos : Nat, pos ≤ 2 ∧ 2 ≤ pos + q ∧ wr2 = w2.iter ⟨#[32, 10]⟩ pos)
              case atStart => exact ⟨0, by omega, by omega, rfl⟩
              case round =>
                obtain ⟨pos, hp, hq2, rfl⟩ := hrel
                obtain rfl | rfl | rfl : pos = 0 ∨ pos = 1 ∨ pos = 2 := by omega
                · have hnx := fun ty => run_next_ascii (P := Tryf.prog) w2 ⟨#[32, 10]⟩ 0 ty (by decide) (by decide)
                  have hv0 : ((⟨#[32, 10]⟩ : ByteArray)[0]'(by decide)).toNat = 32 := by decide
                  rw [hv0] at hnx
                  go_wp2
                  go_roundg (gk - 1)
                  case measure => omega
                  case rel => exact ⟨1, by omega, by omega, rfl⟩
                · have hnx := fun ty => run_next_ascii (P := Tryf.prog) w2 ⟨#[32, 10]⟩ 1 ty (by decide) (by decide)
                  have hv0 : ((⟨#[32, 10]⟩ : ByteArray)[1]'(by decide)).toNat = 10 := by decide
                  rw [hv0] at hnx
                  go_wp2
                  go_roundg (gk - 1)
                  case measure => omega
                  case rel => exact ⟨2, by omega, by omega, rfl⟩
                · have hnx := fun ty => run_next_end (P := Tryf.prog) w2 ⟨#[32, 10]⟩ 2 ty (by decide)
                  have HB3 : Hid (Below w1.heap.size w1 (w2.iter ⟨#[32, 10]⟩ 2)) := HB2.out.alloc hws2 _
                  go_wp2
                  go_roundg (G - 1)
                  case measure => omega
                  case rel => exact ⟨k + K, by omega, by omega, by go_num, N, HB3⟩
    · have hge : decide (k < s.length) = false := by simp; omega
      have hge' : decide ((k : Int) < (s.length : Int)) = false := by simp; omega
      have N : Hid (_) := ia_none s k (by omega) HI.out
      go_wp2
      go_ret
      exact ⟨by rw [N.out]; rfl, HB.out⟩

end Go.Proofs.Qxb6613537aFmt
