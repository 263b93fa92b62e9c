/-
  A ROW OF TOKENS IN MEMORY, and the walks that read it: At (26), From (27), Is (16).
-/
import Derived.Test.Qxb6613163aDoorWp
import Derived.Handy
namespace Go.Proofs.Qxb6613163aDoor
open Go.RowKit

def tokCells (t : Lx.Tok) : List Value := [.int .u8 t.kind.toNat, .string ⟨t.text.toArray⟩, .bool t.quoted, .int .i64 t.lo, .int .i64 t.hi]

/-- The slice v reads as the tokens T. -/
def Reads (w : World) (v : Value) (T : List Lx.Tok) : Prop :=
  (T = [] ∧ v = .slice none 0 0) ∨ ∃ g off cap cur, v = .slice (some ⟨g, off, none⟩) T.length cap ∧ T.length ≤ cap ∧ w.heap[g]? = some (.cells cur 37 (0, 0)) ∧ off + 5 * cap ≤ cur.size ∧ (cur.toList.drop off).take (5 * T.length) = T.flatMap tokCells

theorem flat_len (T : List Lx.Tok) : (T.flatMap tokCells).length = 5 * T.length := by
  induction T with
  | nil => rfl
  | cons t T ih => simp [List.flatMap_cons, ih, tokCells]; omega

theorem flat_at (T : List Lx.Tok) (i j : Nat) (t : Lx.Tok) (h : T[i]? = some t) (hj : j < 5) : (T.flatMap tokCells)[5 * i + j]? = (tokCells t)[j]? := by
  induction T generalizing i with
  | nil => simp at h
  | cons u T ih =>
    rw [List.flatMap_cons]
    cases i with
    | zero =>
      simp at h
      subst h
      rw [Nat.mul_zero, Nat.zero_add, List.getElem?_append_left (by simp [tokCells]; omega)]
    | succ i =>
      rw [List.getElem?_append_right (by simp [tokCells]; omega)]
      have : 5 * (i + 1) + j - (tokCells u).length = 5 * i + j := by simp [tokCells]; omega
      rw [this]
      exact ih i (by simpa using h)

/-- The cells of one token of a row. -/
theorem row_cells {w : World} {g off : Nat} {cur : Array Value} {T : List Lx.Tok} (hg : w.heap[g]? = some (.cells cur 37 (0, 0))) (hc : (cur.toList.drop off).take (5 * T.length) = T.flatMap tokCells) (i : Nat) (t : Lx.Tok) (h : T[i]? = some t) (j : Nat) (hj : j < 5) :
    w.cell? ⟨g, off + i * 5 + j, none⟩ = (tokCells t)[j]? := by
  have hi : i < T.length := by
    rcases Nat.lt_or_ge i T.length with h' | h'
    · exact h'
    · rw [List.getElem?_eq_none h'] at h; cases h
  rw [Nat.mul_comm i 5, cell_of_row w g _ _ 37 (0, 0) hg, ← flat_at T i j t h hj, ← hc, List.getElem?_take_of_lt (by omega), List.getElem?_drop]
  simp [Nat.add_assoc]

def zeroTok : Lx.Tok := ⟨0, [], false, 0, 0⟩

set_option maxHeartbeats 1000000 in
theorem at_in (w : World) (v : Value) (T : List Lx.Tok) (i : Nat) (t : Lx.Tok) (hv : Reads w v T) (h : T[i]? = some t) (hT : T.length ≤ 1073741824) :
    Calls Tryd.prog 26 #[v, .int .i64 i] w fun e w' => e = .returned (tokVal t) ∧ Below w.heap.size w w' := by
  have hi : i < T.length := by
    rcases Nat.lt_or_ge i T.length with h' | h'
    · exact h'
    · rw [List.getElem?_eq_none h'] at h; cases h
  rcases hv with ⟨rfl, _⟩ | ⟨g, off, cap, cur, rfl, hcap, hg, hsz, hc⟩
  · simp at h
  have k0 := row_cells hg hc i t h 0 (by omega)
  have k1 := row_cells hg hc i t h 1 (by omega)
  have k2 := row_cells hg hc i t h 2 (by omega)
  have k3 := row_cells hg hc i t h 3 (by omega)
  have k4 := row_cells hg hc i t h 4 (by omega)
  have hi' : (i : Int) < (T.length : Int) := by omega
  have hgl : g < w.heap.size := lt_of_block hg
  simp only [tokCells, List.getElem?_cons_zero, List.getElem?_cons_succ, Nat.add_zero] at k0 k1 k2 k3 k4
  clear hc h hg hsz
  have e1 : decide ((i : Int) < 0) = false := by simp
  have e2 : decide (T.length ≤ i) = false := by simp; omega
  go_enter Tryd.func26, Tryd.ntmps26
  go_wp2
  go_returns
  exact ⟨rfl, (Below.refl _ w).alloc (Nat.le_refl _) _⟩

set_option maxHeartbeats 1000000 in
theorem at_out (w : World) (v : Value) (T : List Lx.Tok) (i : Nat) (hv : Reads w v T) (h : T.length ≤ i) :
    Calls Tryd.prog 26 #[v, .int .i64 i] w fun e w' => e = .returned (tokVal zeroTok) ∧ Below w.heap.size w w' := by
  have e1 : decide ((i : Int) < 0) = false := by simp
  rcases hv with ⟨rfl, rfl⟩ | ⟨g, off, cap, cur, rfl, hcap, hg, hsz, hc⟩
  · go_enter Tryd.func26, Tryd.ntmps26
    go_wp2
    go_returns
    exact ⟨rfl, (Below.refl _ w).alloc (Nat.le_refl _) _⟩
  · have e2 : decide (T.length ≤ i) = true := by simp; omega
    go_enter Tryd.func26, Tryd.ntmps26
    go_wp2
    go_returns
    exact ⟨rfl, (Below.refl _ w).alloc (Nat.le_refl _) _⟩

/-- What 'v[lo:hi]' is, of a slice in memory. -/
def subV (g off cap lo n : Nat) : Value := if cap = lo then .slice (some ⟨g, off, none⟩) n 0 else .slice (some ⟨g, off + lo * 5, none⟩) n (cap - lo)

theorem reads_sub {w : World} {g off cap : Nat} {cur : Array Value} {T : List Lx.Tok} (hcap : T.length ≤ cap) (hg : w.heap[g]? = some (.cells cur 37 (0, 0))) (hsz : off + 5 * cap ≤ cur.size) (hc : (cur.toList.drop off).take (5 * T.length) = T.flatMap tokCells) (lo hi : Nat) (h1 : lo ≤ hi) (h2 : hi ≤ T.length) :
    Reads w (subV g off cap lo (hi - lo)) ((T.drop lo).take (hi - lo)) := by
  have hl : ((T.drop lo).take (hi - lo)).length = hi - lo := by rw [List.length_take, List.length_drop]; omega
  right
  unfold subV
  have flat : ∀ (a b : Nat), ((T.flatMap tokCells).drop (5 * a)).take (5 * b) = ((T.drop a).take b).flatMap tokCells := by
    intro a b
    have dr : ∀ (a : Nat) (T : List Lx.Tok), (T.flatMap tokCells).drop (5 * a) = (T.drop a).flatMap tokCells := by
      intro a
      induction a with
      | zero => simp
      | succ a ih =>
        intro T
        cases T with
        | nil => simp
        | cons t T =>
          rw [List.flatMap_cons, List.drop_succ_cons, ← ih T, show 5 * (a + 1) = (tokCells t).length + 5 * a from by simp [tokCells]; omega, List.drop_length_add_append]
    have tk : ∀ (b : Nat) (T : List Lx.Tok), (T.flatMap tokCells).take (5 * b) = (T.take b).flatMap tokCells := by
      intro b
      induction b with
      | zero => simp
      | succ b ih =>
        intro T
        cases T with
        | nil => simp
        | cons t T =>
          rw [List.flatMap_cons, List.take_succ_cons, List.flatMap_cons, ← ih T, show 5 * (b + 1) = (tokCells t).length + 5 * b from by simp [tokCells]; omega, List.take_length_add_append]
    rw [dr, tk]
  split
  · rename_i he
    refine ⟨g, off, 0, cur, ?_, ?_, hg, by omega, ?_⟩
    · rw [hl]
    · rw [hl]; omega
    · rw [hl, ← flat, show hi - lo = 0 from by omega]; simp
  · refine ⟨g, off + lo * 5, cap - lo, cur, ?_, ?_, hg, by omega, ?_⟩
    · rw [hl]
    · rw [hl]; omega
    · rw [hl, ← flat, ← hc, List.drop_take, List.drop_drop, List.take_take]
      congr 1
      · omega
      · rw [Nat.mul_comm lo 5]

/-- From: inside a row. -/
theorem from_in (w : World) (v : Value) (T : List Lx.Tok) (i : Nat) (hv : Reads w v T) (h : i ≤ T.length) (hT : T.length ≤ 1073741824) :
    Calls Tryd.prog 27 #[v, .int .i64 i] w fun e w' => (∃ v', e = .returned v' ∧ Reads w v' (T.drop i)) ∧ w' = w := by
  rcases hv with ⟨rfl, rfl⟩ | ⟨g, off, cap, cur, rfl, hcap, hg, hsz, hc⟩
  · have hi : i = 0 := by simpa using h
    subst hi
    go_enter Tryd.func27, Tryd.ntmps27
    go_wp2
    go_ret
    exact ⟨⟨_, rfl, Or.inl ⟨rfl, rfl⟩⟩, rfl⟩
  · have R : Hid (Reads w (subV g off cap i (T.length - i)) (T.drop i)) := by
      have := reads_sub hcap hg hsz hc i T.length h (Nat.le_refl _)
      rwa [List.take_of_length_le (by rw [List.length_drop]; omega)] at this
    have e2 : decide (T.length < i) = false := by simp; omega
    have e3 : (i : Int) ≤ (T.length : Int) := by omega
    clear hg hc
    by_cases he : cap = i
    · have R2 : Hid (Reads w (.slice (some ⟨g, off, none⟩) 0 0) (T.drop i)) := by
        have := R.out
        unfold subV at this
        rwa [if_pos he, show T.length - i = 0 from by omega] at this
      subst he
      go_enter Tryd.func27, Tryd.ntmps27
      go_wp2
      go_ret
      exact ⟨⟨_, rfl, R2.out⟩, rfl⟩
    · have R2 : Hid (Reads w (.slice (some ⟨g, off + i * 5, none⟩) (T.length - i) (cap - i)) (T.drop i)) := by
        have := R.out
        unfold subV at this
        rwa [if_neg he] at this
      have he' : (cap == i) = false := by simpa using he
      go_enter Tryd.func27, Tryd.ntmps27
      go_wp2
      go_ret
      exact ⟨⟨_, rfl, R2.out⟩, rfl⟩

def isKw (t : Lx.Tok) (kw : List UInt8) : Bool := t.kind == 119 && !t.quoted && Lib.equalFold t.text kw

set_option maxHeartbeats 1000000 in
theorem is_any (t : Lx.Tok) (kw : List UInt8) (w : World) (hs : t.text.length < 4294967281) (ht : ∀ (j : Nat) b, t.text[j]? = some b → b.toNat < 128) (hk : ∀ (j : Nat) b, kw[j]? = some b → b.toNat < 128) :
    Calls Tryd.prog 16 #[tokVal t, .string ⟨kw.toArray⟩] w fun e w' => e = .returned (.bool (isKw t kw)) ∧ w' = w.alloc (.cells #[.int .u8 t.kind.toNat, .string ⟨t.text.toArray⟩, .bool t.quoted, .int .i64 t.lo, .int .i64 t.hi] 37) := by
  have H : Hid (isKw t kw = (decide ((t.kind.toNat : Int) = 119) && !t.quoted && Lib.equalFold t.text kw)) := by
    show isKw t kw = _
    unfold isKw
    rw [eq_int]
    rfl
  have E : ∀ w : World, Calls Tryd.prog 21 #[.string ⟨t.text.toArray⟩, .string ⟨kw.toArray⟩] w fun e w' => e = .returned (.bool (Lib.equalFold t.text kw)) ∧ w' = w := fun w =>
    Tryd.strings_EqualFold ⟨t.text.toArray⟩ ⟨kw.toArray⟩ w (by simpa [ByteArray.size] using hs) (by simpa using ht) (by simpa using hk)
  replace E : Hid (_) := E
  generalize Lib.equalFold t.text kw = b at H E
  obtain ⟨kd, tx, qd, lo, hi⟩ := t
  simp only [tokVal] at H E ⊢
  clear hs ht hk
  generalize (kd.toNat : Int) = x at H
  by_cases h1 : x = 119
  · subst h1
    cases qd
    · go_enter Tryd.func16, Tryd.ntmps16
      go_wp2_with (go_at_call 21; refine (E.out _).mono ?_; rintro e w1 ⟨rfl, rfl⟩)
      go_ret
      exact ⟨by rw [H.out]; rfl, rfl⟩
    · go_enter Tryd.func16, Tryd.ntmps16
      go_wp2
      go_ret
      exact ⟨by rw [H.out]; rfl, rfl⟩
  · have e1 : (x == 119) = false := by simpa using h1
    have H2 : Hid ((decide (x = 119) && !qd && b) = false) := by
      show _ = false
      simp [h1]
    clear h1
    go_enter Tryd.func16, Tryd.ntmps16
    go_wp2
    go_ret
    exact ⟨by rw [H.out, H2.out]; rfl, rfl⟩

end Go.Proofs.Qxb6613163aDoor
