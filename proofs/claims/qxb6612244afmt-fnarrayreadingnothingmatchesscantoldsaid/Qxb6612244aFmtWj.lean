/-
  THE WALK of (*textReader).array (15) with the element reader that reads nothing (16), fewer than 32 deep.
-/
import Derived.Test.Qxb6612244aFmtWi
namespace Go.Proofs.Qxb6612244aFmt
open Go.RowKit Go.Extern.Stop Go.Stop Go.Extern

/-- WHAT array LEAVES: j: where the scan ends; cm: the commas scanned. -/
def ArrPost (B bd n bp d j cm : Nat) (z : List Int) (w : World) (e : Ending) (w' : World) : Prop :=
  (j < n ∧ z.getD j 0 = 93 ∧ e = .returned .nilIface ∧ ∃ g c, Rd w' B bd n ((j + 1 : Nat) : Int) (.slice (some ⟨g, 0, none⟩) d c) ∧ Zs w' g d ∧ Below bp w w') ∨
  ((j < n → z.getD j 0 ≠ 93) ∧ ∃ v, e = .returned (.iface 38 v) ∧ ∃ g c, Rd w' B bd n (j : Int) (.slice (some ⟨g, 0, none⟩) (d + 1) c) ∧ Pth w' bp g d c cm ∧ Below bp w w')

theorem below_grown {bp B : Nat} {w w' w'' : World} (h : Below bp w w') (hg : w'.grownBy w'' (some B)) (hb : bp ≤ B) (hs : bp ≤ w'.heap.size) : Below bp w w'' :=
  h.grown hg hs (fun k e => by injection e with e; omega)

/-- The state at the loop's head. -/
structure Hd (F : Interp) (B bd n bp d g c : Nat) (z : List Int) (j cm p x : Nat) (w wr : World) : Prop where
  nx : Nx F wr B bd n z
  rd : Rd wr B bd n p (.slice (some ⟨g, 0, none⟩) (d + 1) c)
  pth : Pth wr bp g d c x
  bel : Below bp w wr
  pn : p ≤ n
  jj : p + Pl.scL (z.drop p) = j
  cc : x + Pl.scC (z.drop p) = cm

theorem Hd.end_ok {F : Interp} {B bd n bp d g c : Nat} {z : List Int} {j cm p x : Nat} {w wr w' : World} (h : Hd F B bd n bp d g c z j cm p x w wr) (hb : bp ≤ B) (hs : bp ≤ w.heap.size)
    (hlt : p + Pl.spLen (z.drop p) < n) (hc : z.getD (p + Pl.spLen (z.drop p)) 0 = 93) (hr : Rd w' B bd n ((p + Pl.spLen (z.drop p) + 1 : Nat) : Int) (.slice (some ⟨g, 0, none⟩) d c)) (hg : wr.grownBy w' (some B)) :
    ArrPost B bd n bp d j cm z w (.returned .nilIface) w' := by
  obtain ⟨xs, ho⟩ := h.pth.own
  have hne := own_ne ho h.rd
  have hst := Pl.sc_there z p (fun _ => by rw [hc]; omega)
  have hj := h.jj
  have e : p + Pl.spLen (z.drop p) = j := by omega
  rw [e] at hlt hc hr
  exact Or.inl ⟨hlt, hc, rfl, g, c, hr, h.pth.zs.grown hg (by simpa using hne), below_grown h.bel hg hb (by have := h.bel.size; omega)⟩

theorem Hd.end_bad {F : Interp} {B bd n bp d g c : Nat} {z : List Int} {j cm p x : Nat} {w wr w' : World} {v : Value} (h : Hd F B bd n bp d g c z j cm p x w wr) (hb : bp ≤ B) (hs : bp ≤ w.heap.size)
    (hc1 : p + Pl.spLen (z.drop p) < n → z.getD (p + Pl.spLen (z.drop p)) 0 ≠ 44) (hc2 : p + Pl.spLen (z.drop p) < n → z.getD (p + Pl.spLen (z.drop p)) 0 ≠ 93)
    (hr : Rd w' B bd n ((p + Pl.spLen (z.drop p) : Nat) : Int) (.slice (some ⟨g, 0, none⟩) (d + 1) c)) (hg : wr.grownBy w' (some B)) :
    ArrPost B bd n bp d j cm z w (.returned (.iface 38 v)) w' := by
  obtain ⟨xs, ho⟩ := h.pth.own
  have hne := own_ne ho h.rd
  have hst := Pl.sc_there z p (fun hl => hc1 (by rw [← h.nx.len]; exact hl))
  have hj := h.jj
  have hcm := h.cc
  have e : p + Pl.spLen (z.drop p) = j := by omega
  have ex : x = cm := by omega
  rw [e] at hc2 hr
  refine Or.inr ⟨hc2, v, rfl, g, c, hr, ?_, below_grown h.bel hg hb (by have := h.bel.size; omega)⟩
  rw [← ex]
  exact h.pth.grown hg (by simpa using hne)

/-- A comma: the round's end. -/
theorem Hd.comma {F : Interp} {B bd n bp d g c : Nat} {z : List Int} {j cm p x : Nat} {w wr w' w'' : World} (h : Hd F B bd n bp d g c z j cm p x w wr) (hb : bp ≤ B) (hs : bp ≤ w.heap.size) (hbd : bd < bp) (h1 : 1 < bp)
    (hlt : p + Pl.spLen (z.drop p) < n) (hc : z.getD (p + Pl.spLen (z.drop p)) 0 = 44) (hr : Rd w' B bd n ((p + Pl.spLen (z.drop p) + 1 : Nat) : Int) (.slice (some ⟨g, 0, none⟩) (d + 1) c)) (hg : wr.grownBy w' (some B))
    (hw : w''.heap = (w'.setCell ⟨g, d * 3 + 2, none⟩ (.int .i64 ((x : Int) + 1))).heap) (ho : w''.os = w'.os) (ht : w''.tape = w'.tape) (hu : w''.output = w'.output) :
    Hd F B bd n bp d g c z j cm (p + Pl.spLen (z.drop p) + 1) (x + 1) w w'' := by
  obtain ⟨xs, hown⟩ := h.pth.own
  have hne := own_ne hown h.rd
  have hlen := h.nx.len
  have hp1 := h.pth.grown hg (by simpa using hne)
  obtain ⟨xs1, hown1⟩ := hp1.own
  have hst := hown1.stored (d * 3 + 2) (.int .i64 ((x : Int) + 1))
  have hbg := (own_facts hown1).1
  obtain ⟨_, _, _, cur, hcur⟩ := own_facts hown1
  have hgl : g < w'.heap.size := lt_of_block hcur
  -- the world behind the store, then behind the draws
  have hG : w'.grownBy w'' (some g) := ⟨ho, ht, hu, by rw [hw]; simp [World.setCell], fun k hk hk' => by rw [hw]; exact hst.2.block k hk hk'⟩
  have hcell : ∀ a : Addr, w''.cell? a = (w'.setCell ⟨g, d * 3 + 2, none⟩ (.int .i64 ((x : Int) + 1))).cell? a := fun a => by simp [World.cell?, hw]
  have hnx := h.nx.grown hg
  have hs1 := h.bel.size
  have hs2 := hg.size
  have hoth : ∀ q, q ≠ d * 3 + 2 → w''.cell? ⟨g, q, none⟩ = w'.cell? ⟨g, q, none⟩ := fun q hq => by
    rw [hcell, cell_of_row _ g q _ 44 (0, 0) (heap_setCell_same w' g (d * 3 + 2) cur 44 _ hcur), cell_of_row w' g q cur 44 (0, 0) hcur, Array.getElem?_setIfInBounds, if_neg (fun e => hq e.symm)]
  have hat := Pl.sc_at z p
  have hco := Pl.sc_comma z _ (by rw [hlen]; exact hlt) hc
  have hjj := h.jj
  have hcc := h.cc
  refine ⟨⟨by rw [ht]; exact hnx.ans, hnx.short, ?_, ?_, hnx.len, hnx.wf, hnx.le, hnx.ne, hnx.gt⟩, ?_, ⟨?_, ?_, ?_, ?_, ?_⟩, ?_, by omega, by omega, by omega⟩
  · exact tabs_grown hnx.tabs hG (by omega)
  · exact hnx.dat.grown hG (by omega)
  · exact hr.grown hG (by simpa using fun e => hne e.symm)
  · refine ⟨xs1.set (d * 3 + 2) (.int .i64 ((x : Int) + 1)), hst.1.1, ?_⟩
    rw [hw]
    exact hst.1.2
  · intro i hi
    rw [hoth _ (by omega), hoth _ (by omega), hoth _ (by omega)]
    exact hp1.zs i hi
  · rw [hoth _ (by omega)]; exact hp1.l0
  · rw [hoth _ (by omega)]; exact hp1.l1
  · rw [hcell, hst.1.cellAt _ (by omega)]
    have hl := hown1.1
    rw [List.getElem?_set_self (by omega)]
    rfl
  · exact (below_grown h.bel hg hb (by omega)).grown hG (by omega) (fun k e => by injection e with e; omega)

theorem nothing_any (w : World) : Calls Tryf.prog 16 #[] w fun e w' => e = .returned .nilIface ∧ w' = w := by
  go_enter Tryf.func16, Tryf.ntmps16
  go_wp2
  go_ret
  exact ⟨rfl, rfl⟩

theorem Nx.below {F : Interp} {w w' : World} {B bd n bp : Nat} {z : List Int} (h : Nx F w B bd n z) (hb : Below bp w w') (hbd : bd < bp) (h1 : 1 < bp) : Nx F w' B bd n z :=
  ⟨by rw [hb.tape]; exact h.ans, h.short, ⟨fun c hc => (hb.cell (p := ⟨0, c, none⟩) (by show 0 < bp; omega)).trans (h.tabs.1 c hc), fun i hi => ⟨(hb.cell (p := ⟨1, 2 * i, none⟩) h1).trans (h.tabs.2 i hi).1, (hb.cell (p := ⟨1, 2 * i + 1, none⟩) h1).trans (h.tabs.2 i hi).2⟩⟩,
    fun j hj => (hb.cell (p := ⟨bd, j, none⟩) hbd).trans (h.dat j hj), h.len, h.wf, h.le, h.ne, h.gt⟩

/-- Over white bytes, and draws: the head's state at the next byte. -/
theorem Hd.skip {F : Interp} {B bd n bp d g c : Nat} {z : List Int} {j cm p x : Nat} {w wr w' : World} (h : Hd F B bd n bp d g c z j cm p x w wr) (hb : bp ≤ B) (hs : bp ≤ w.heap.size)
    (hr : Rd w' B bd n ((p + Pl.spLen (z.drop p) : Nat) : Int) (.slice (some ⟨g, 0, none⟩) (d + 1) c)) (hg : wr.grownBy w' (some B)) :
    Hd F B bd n bp d g c z j cm (p + Pl.spLen (z.drop p)) x w w' := by
  obtain ⟨xs, ho⟩ := h.pth.own
  have hne := own_ne ho h.rd
  have hat := Pl.sc_at z p
  have hle := Pl.spLen_le (z.drop p)
  have hlen := h.nx.len
  have hpn := h.pn
  have hjj := h.jj
  have hcc := h.cc
  simp only [List.length_drop] at hle
  exact ⟨h.nx.grown hg, hr, h.pth.grown hg (by simpa using hne), below_grown h.bel hg hb (by have := h.bel.size; omega), by omega, by omega, by omega⟩

set_option maxHeartbeats 4000000 in
theorem array_any {w : World} {F : Interp} {B bd n bp d g c pos : Nat} {z : List Int} {xs : List Value} (hx : Nx F w B bd n z) (hr : Rd w B bd n pos (.slice (some ⟨g, 0, none⟩) d c)) (hown : w.ownsRow bp 44 3 (.slice (some ⟨g, 0, none⟩) d c) d xs) (hz : Zs w g d)
    (hd : d ≤ 31) (hp : pos < n) (hb : bp ≤ B) (hs : bp ≤ w.heap.size) (hbd : bd < bp) (h1 : 1 < bp) :
    Calls Tryf.prog 15 #[.pointer (some ⟨B, 0, none⟩), .func (.func 16) #[] #[]] w fun e w' => ArrPost B bd n bp d (pos + 1 + Pl.scL (z.drop (pos + 1))) (Pl.scC (z.drop (pos + 1))) z w e w' := by
  have hn := hx.le
  have hcn : Pl.scC (z.drop (pos + 1)) ≤ 1048576 := by
    have a := Pl.scC_le (z.drop (pos + 1))
    have b := Pl.scL_le (z.drop (pos + 1))
    have e := hx.len
    simp only [List.length_drop] at b
    omega
  generalize hj : pos + 1 + Pl.scL (z.drop (pos + 1)) = j
  generalize hcm : Pl.scC (z.drop (pos + 1)) = cm at hcn ⊢
  go_enter Tryf.func15, Tryf.ntmps15
  go_wp2_with fail
  refine (open_any hr hown hz hd (by omega) hb).mono ?_
  rintro e w1 ⟨rfl, g1, c1, hr1, hp1, hb1⟩
  have H1 : Hid (Hd F B bd n bp d g1 c1 z j cm (pos + 1) 0 w w1) := ⟨hx.below hb1 hbd h1, hr1, hp1, hb1, by omega, hj, by omega⟩
  clear hr1 hp1 hb1 hj hcm hr hown hz hx
  go_wp2_with fail
  refine (skip_any H1.out.rd H1.out.nx.dat H1.out.nx.len hn H1.out.pn H1.out.nx.ne).mono ?_
  rintro e w2 ⟨rfl, hr2, hg2⟩
  by_cases hA : pos + 1 + Pl.spLen (z.drop (pos + 1)) < n ∧ z.getD (pos + 1 + Pl.spLen (z.drop (pos + 1))) 0 = 93
  · have HA : Hid (pos + 1 + Pl.spLen (z.drop (pos + 1)) < n ∧ z.getD (pos + 1 + Pl.spLen (z.drop (pos + 1))) 0 = 93) := hA
    obtain ⟨hlt, hc⟩ := hA
    have hdq := (H1.out.nx.grown hg2).dat _ (by rw [H1.out.nx.len]; exact hlt)
    rw [hc] at hdq
    have HR : Hid (Rd w2 B bd n ((pos + 1 + Pl.spLen (z.drop (pos + 1)) : Nat) : Int) (.slice (some ⟨g1, 0, none⟩) (d + 1) c1)) := hr2
    have FIN : Hid (∀ w', Rd w' B bd n ((pos + 1 + Pl.spLen (z.drop (pos + 1)) + 1 : Nat) : Int) (.slice (some ⟨g1, 0, none⟩) d c1) → w1.grownBy w' (some B) → ArrPost B bd n bp d j cm z w (.returned .nilIface) w') := fun w' a b => H1.out.end_ok hb hs HA.out.1 HA.out.2 a b
    obtain ⟨xo, hown1⟩ := H1.out.pth.own
    have hof := own_facts hown1
    have hkc := hof.2.1
    have hcm1 := hof.2.2.1
    clear hof hown1 HA hr2 hc H1
    generalize hq : pos + 1 + Pl.spLen (z.drop (pos + 1)) = q at hlt hdq HR FIN
    clear hq
    have c0 := HR.out.c0
    have c1' := HR.out.c1
    have hlt' : (q : Int) < (n : Int) := by omega
    go_wp2_with fail
    go_quiet (fail)
    go_wp2_with fail
    refine (close_any (pos := q) (a := ⟨g1, 0, none⟩) (k := d) (c := c1) (by exact HR.out) (by omega) hkc hcm1 rfl).mono ?_
    rintro e w3 ⟨rfl, hr3, hg3⟩
    have FIN2 : Hid (ArrPost B bd n bp d j cm z w (.returned .nilIface) w3) := FIN.out w3 hr3 (grownBy_trans (grownBy_trans hg2 (by exact grownBy_drewN (World.grownBy.refl _ _) _)) hg3)
    clear hr3 hg3 c0 c1' hdq FIN HR hg2
    go_wp2
    go_ret
    exact FIN2.out
  · have H2 : Hid (∀ m, Hd F B bd n bp d g1 c1 z j cm (pos + 1 + Pl.spLen (z.drop (pos + 1))) 0 w (w2.drewN m)) := fun m => H1.out.skip hb hs (by exact hr2) (grownBy_drewN hg2 m)
    have hle : pos + 1 + Pl.spLen (z.drop (pos + 1)) ≤ n := (H2.out 0).pn
    have hdq : pos + 1 + Pl.spLen (z.drop (pos + 1)) < n → w2.cell? ⟨bd, pos + 1 + Pl.spLen (z.drop (pos + 1)), none⟩ = some (.int .u8 (z.getD (pos + 1 + Pl.spLen (z.drop (pos + 1))) 0)) := fun hlt => (H1.out.nx.grown hg2).dat _ (by rw [H1.out.nx.len]; exact hlt)
    have HR : Hid (Rd w2 B bd n ((pos + 1 + Pl.spLen (z.drop (pos + 1)) : Nat) : Int) (.slice (some ⟨g1, 0, none⟩) (d + 1) c1)) := hr2
    clear hr2 H1 hg2
    generalize hq : pos + 1 + Pl.spLen (z.drop (pos + 1)) = q at hA hle hdq HR H2
    clear hq
    have c0 := HR.out.c0
    have c1' := HR.out.c1
    by_cases hlt : q < n
    · have hdq' := hdq hlt
      have hne : z.getD q 0 ≠ 93 := fun h => hA ⟨hlt, h⟩
      generalize z.getD q 0 = b at hdq' hne
      have hne' : (b == 93) = false := by simpa using hne
      have hlt' : (q : Int) < (n : Int) := by omega
      clear hA hdq hne
      go_wp2_with fail
      go_quiet (fail)
      have H3 : Hid (Hd F B bd n bp d g1 c1 z j cm q 0 w (w2.drewN nq)) := H2.out nq
      clear c0 c1' HR hdq' H2
      generalize w2.drewN nq = w3 at H3 ⊢
      go_wp2_with fail
      go_loopg [] n (fun k wr => ∃ p x : Nat, n ≤ p + k ∧ Hd F B bd n bp d g1 c1 z j cm p x w wr)
      case atStart => exact ⟨q, 0, by omega, H3.out⟩
      case round =>
        obtain ⟨p, x, hk, hh⟩ := hrel
        have HH : Hid (Hd F B bd n bp d g1 c1 z j cm p x w wr) := hh
        have hpn := hh.pn
        clear hh H3
        go_wp2_with (go_at_call 16; refine (nothing_any _).mono ?_; rintro e w' ⟨rfl, rfl⟩)
        by_cases hl : p + Pl.spLen (z.drop p) < n
        · by_cases h44 : z.getD (p + Pl.spLen (z.drop p)) 0 = 44
          · refine (next_comma HH.out.nx HH.out.rd hpn hl h44).mono ?_
            rintro e w4 ⟨rfl, hr4, hg4⟩
            have hx2 : x ≤ 1048576 := by have h5 := HH.out.cc; omega
            obtain ⟨xo, hown4⟩ := HH.out.pth.own
            have hne4 := own_ne hown4 HH.out.rd
            have hp4 := HH.out.pth.grown hg4 (by simpa using hne4)
            obtain ⟨xo', hown5⟩ := hp4.own
            have k2 := hr4.c2
            have l2 := hp4.l2
            have f2 := hown5.frozenAt (d * 3 + 2)
            have NXT : Hid (∀ w'' : World, w''.heap = (w4.setCell ⟨g1, d * 3 + 2, none⟩ (.int .i64 ((x : Int) + 1))).heap → w''.os = w4.os → w''.tape = w4.tape → w''.output = w4.output → Hd F B bd n bp d g1 c1 z j cm (p + Pl.spLen (z.drop p) + 1) (x + 1) w w'') :=
              fun w'' a1 a2 a3 a4 => HH.out.comma hb hs hbd h1 hl h44 hr4 hg4 a1 a2 a3 a4
            clear hown4 hown5 hp4 hr4 hg4 h44 HH
            go_wp2
            go_region
            all_goals
              go_wp2
              go_roundg (gk - 1)
              case measure => omega
              case rel => exact ⟨p + Pl.spLen (z.drop p) + 1, x + 1, by omega, NXT.out _ rfl rfl rfl rfl⟩
          · by_cases h93 : z.getD (p + Pl.spLen (z.drop p)) 0 = 93
            · obtain ⟨xo, hown4⟩ := HH.out.pth.own
              have hof := own_facts hown4
              refine (next_close HH.out.nx HH.out.rd hpn hof.2.1 hof.2.2.1 hl h93).mono ?_
              rintro e w4 ⟨rfl, hr4, hg4⟩
              have FIN2 : Hid (ArrPost B bd n bp d j cm z w (.returned .nilIface) w4) := HH.out.end_ok hb hs hl h93 hr4 hg4
              clear hr4 hg4 hown4 hof h93 h44 HH
              go_wp2
              go_ret
              exact FIN2.out
            · refine (next_bad HH.out.nx HH.out.rd hpn hl h44 h93).mono ?_
              rintro e w4 ⟨v, rfl, hr4, hg4⟩
              have FIN2 : Hid (ArrPost B bd n bp d j cm z w (.returned (.iface 38 v)) w4) := HH.out.end_bad hb hs (fun _ => h44) (fun _ => h93) hr4 hg4
              clear hr4 hg4 h93 h44 HH
              go_wp2
              go_ret
              exact FIN2.out
        · have hln : p + Pl.spLen (z.drop p) = n := by
            have a := Pl.spLen_le (z.drop p)
            have b := HH.out.nx.len
            simp only [List.length_drop] at a
            omega
          refine (next_end HH.out.nx HH.out.rd hpn hln).mono ?_
          rintro e w4 ⟨v, rfl, hr4, hg4⟩
          have FIN2 : Hid (ArrPost B bd n bp d j cm z w (.returned (.iface 38 v)) w4) := HH.out.end_bad hb hs (fun h => absurd h hl) (fun h => absurd h hl) (by rw [hln]; exact hr4) hg4
          clear hr4 hg4 hln HH
          go_wp2
          go_ret
          exact FIN2.out
    · have hqn : q = n := by omega
      have hge : decide ((q : Int) < (n : Int)) = false := by simp; omega
      clear hA hdq
      go_wp2_with fail
      go_quiet (fail)
      have H3 : Hid (Hd F B bd n bp d g1 c1 z j cm q 0 w (w2.drewN nq)) := H2.out nq
      clear c0 c1' HR H2 hqn
      generalize w2.drewN nq = w3 at H3 ⊢
      go_wp2_with fail
      go_loopg [] n (fun k wr => ∃ p x : Nat, n ≤ p + k ∧ Hd F B bd n bp d g1 c1 z j cm p x w wr)
      case atStart => exact ⟨q, 0, by omega, H3.out⟩
      case round =>
        obtain ⟨p, x, hk, hh⟩ := hrel
        have HH : Hid (Hd F B bd n bp d g1 c1 z j cm p x w wr) := hh
        have hpn := hh.pn
        clear hh H3
        go_wp2_with (go_at_call 16; refine (nothing_any _).mono ?_; rintro e w' ⟨rfl, rfl⟩)
        by_cases hl : p + Pl.spLen (z.drop p) < n
        · by_cases h44 : z.getD (p + Pl.spLen (z.drop p)) 0 = 44
          · refine (next_comma HH.out.nx HH.out.rd hpn hl h44).mono ?_
            rintro e w4 ⟨rfl, hr4, hg4⟩
            have hx2 : x ≤ 1048576 := by have h5 := HH.out.cc; omega
            obtain ⟨xo, hown4⟩ := HH.out.pth.own
            have hne4 := own_ne hown4 HH.out.rd
            have hp4 := HH.out.pth.grown hg4 (by simpa using hne4)
            obtain ⟨xo', hown5⟩ := hp4.own
            have k2 := hr4.c2
            have l2 := hp4.l2
            have f2 := hown5.frozenAt (d * 3 + 2)
            have NXT : Hid (∀ w'' : World, w''.heap = (w4.setCell ⟨g1, d * 3 + 2, none⟩ (.int .i64 ((x : Int) + 1))).heap → w''.os = w4.os → w''.tape = w4.tape → w''.output = w4.output → Hd F B bd n bp d g1 c1 z j cm (p + Pl.spLen (z.drop p) + 1) (x + 1) w w'') :=
              fun w'' a1 a2 a3 a4 => HH.out.comma hb hs hbd h1 hl h44 hr4 hg4 a1 a2 a3 a4
            clear hown4 hown5 hp4 hr4 hg4 h44 HH
            go_wp2
            go_region
            all_goals
              go_wp2
              go_roundg (gk - 1)
              case measure => omega
              case rel => exact ⟨p + Pl.spLen (z.drop p) + 1, x + 1, by omega, NXT.out _ rfl rfl rfl rfl⟩
          · by_cases h93 : z.getD (p + Pl.spLen (z.drop p)) 0 = 93
            · obtain ⟨xo, hown4⟩ := HH.out.pth.own
              have hof := own_facts hown4
              refine (next_close HH.out.nx HH.out.rd hpn hof.2.1 hof.2.2.1 hl h93).mono ?_
              rintro e w4 ⟨rfl, hr4, hg4⟩
              have FIN2 : Hid (ArrPost B bd n bp d j cm z w (.returned .nilIface) w4) := HH.out.end_ok hb hs hl h93 hr4 hg4
              clear hr4 hg4 hown4 hof h93 h44 HH
              go_wp2
              go_ret
              exact FIN2.out
            · refine (next_bad HH.out.nx HH.out.rd hpn hl h44 h93).mono ?_
              rintro e w4 ⟨v, rfl, hr4, hg4⟩
              have FIN2 : Hid (ArrPost B bd n bp d j cm z w (.returned (.iface 38 v)) w4) := HH.out.end_bad hb hs (fun _ => h44) (fun _ => h93) hr4 hg4
              clear hr4 hg4 h93 h44 HH
              go_wp2
              go_ret
              exact FIN2.out
        · have hln : p + Pl.spLen (z.drop p) = n := by
            have a := Pl.spLen_le (z.drop p)
            have b := HH.out.nx.len
            simp only [List.length_drop] at a
            omega
          refine (next_end HH.out.nx HH.out.rd hpn hln).mono ?_
          rintro e w4 ⟨v, rfl, hr4, hg4⟩
          have FIN2 : Hid (ArrPost B bd n bp d j cm z w (.returned (.iface 38 v)) w4) := HH.out.end_bad hb hs (fun h => absurd h hl) (fun h => absurd h hl) (by rw [hln]; exact hr4) hg4
          clear hr4 hg4 hln HH
          go_wp2
          go_ret
          exact FIN2.out

end Go.Proofs.Qxb6612244aFmt
