/-
  A REGION THAT DRAWS ITS ORDER: reads, then ONE CALL that they all lead to, then moves of its results: one walk, in the text's order.
-/
import Derived.StillTailTactics
import Derived.Test.Qxb6613537aFmtRows
namespace Go.Proofs.Qxb6613537aFmt
open Go

section
variable {P : Program} {ops : Array Oper} {md : Region.Mode} {w : World}

/-- Each of the tail's operations but its first waits for one of the tail's. -/
def chainT (md : Region.Mode) (ops : Array Oper) (n : Nat) : Bool :=
  (List.range ops.size).all fun t => decide (t ≤ n) || (List.range t).any fun s => decide (n ≤ s) && Region.waitsFor md ops t s

theorem tail_waits' {n : Nat} {listed : Array Bool} (hs : Region.sinkB md ops n = true) (hc : chainT md ops n = true) (hn : n < ops.size) (inv : HeadInv md ops n listed) :
    ∀ (d i : Nat), n - i = d → i < n → listed.getD i true = false → ∀ t, n ≤ t → t ∉ Region.ready md ops listed := by
  intro d
  induction d using Nat.strongRecOn with
  | _ d ih =>
    intro i hd hi hun t ht hr
    obtain ⟨_, ot, hot, hall⟩ := mem_ready.1 hr
    have htlt : t < ops.size := (Array.getElem?_eq_some_iff.1 hot).1
    by_cases htn : t = n
    · subst htn
      have h1 := List.all_eq_true.1 hs i (List.mem_range.2 hi)
      obtain ⟨j, hj, hj2⟩ := List.any_eq_true.1 h1
      simp only [Bool.and_eq_true, decide_eq_true_eq] at hj2
      obtain ⟨oj, hoj, e, he, hb, hon⟩ := Region.waitsFor_spec hj2.2
      have hjle : j ≤ t := by have := List.mem_range.1 hj; omega
      by_cases hjt : j = t
      · subst hjt
        have : oj = ot := Option.some.inj (hoj.symm.trans hot)
        subst this
        have h2 := hall e he hb
        rw [hon, getD_both hun] at h2
        cases h2
      · cases hl : listed.getD j false with
        | true =>
          have h2 := inv.closed j oj hoj hl e he hb
          rw [hon, getD_both hun] at h2
          cases h2
        | false =>
          have hjs : j < listed.size := by rw [inv.size]; omega
          exact ih (t - j) (by omega) j rfl (by omega) (getD_in hjs hl) t (Nat.le_refl _) hr
    · have h1 := List.all_eq_true.1 hc t (List.mem_range.2 htlt)
      simp only [Bool.or_eq_true, decide_eq_true_eq, List.any_eq_true, List.mem_range, Bool.and_eq_true] at h1
      rcases h1 with h1 | ⟨s, hst, hns, h1⟩
      · omega
      · obtain ⟨o', ho', e, he, hb, hon⟩ := Region.waitsFor_spec h1
        have : o' = ot := Option.some.inj (ho'.symm.trans hot)
        subst this
        have h2 := hall e he hb
        rw [hon, getD_both (inv.tail s (by omega) (by omega))] at h2
        cases h2

theorem wpAnyL_first' {n i : Nat} {oi : Oper} {v : Value} {L : Array Bool → Act → Prop} (hi : ops[i]? = some oi) (hsel : ∀ (j : Nat) (o : Oper) cs b, ops[j]? = some o → o.op ≠ .select cs b)
    (hs : Region.sinkB md ops n = true) (hc : chainT md ops n = true) (hn : n < ops.size) (hin : i < n)
    (hdone : ∀ listed a, L listed a → ∀ j ∈ Region.ready md ops listed, n ≤ j) :
    ∀ (f : Nat) (listed : Array Bool) (a : Act), HeadInv md ops n listed →
      (∀ j oj, ops[j]? = some oj → j ≠ i → listed.getD j true = false → (∀ e ∈ oj.after, Region.binds md e = true → e.on ≠ i) → oi.apart ops oj = true) →
      i ∈ Region.ready md ops listed → YieldsAt P ops w oi v a →
      wpAnyL P md ops w n L f (listed.setIfInBounds i true) (a.put oi.dst v) → wpAnyL P md ops w n L (f + 1) listed a := by
  intro f
  induction f with
  | zero =>
    intro listed a inv _ hr hy H
    have hun := (mem_ready.1 hr).1
    refine ⟨fun h => (by rw [h] at hr; cases hr), fun j hj => ?_⟩
    have hjn : j < n := by
      rcases Nat.lt_or_ge j n with h | h
      · exact h
      · exact absurd hj (tail_waits' hs hc hn inv _ i rfl hin hun j h)
    refine ⟨hjn, ?_⟩
    by_cases hji : j = i
    · subst hji; exact hy.stOp hi H
    · have := hdone _ _ H j (ready_mono hj hji)
      omega
  | succ f ih =>
    intro listed a inv hfree hr hy H
    have hun := (mem_ready.1 hr).1
    refine ⟨fun h => (by rw [h] at hr; cases hr), fun j hj => ?_⟩
    have hjn : j < n := by
      rcases Nat.lt_or_ge j n with h | h
      · exact h
      · exact absurd hj (tail_waits' hs hc hn inv _ i rfl hin hun j h)
    refine ⟨hjn, ?_⟩
    by_cases hji : j = i
    · subst hji; exact hy.stOp hi H
    · have h1 := (H.2 j (ready_mono hj hji)).2
      obtain ⟨hjun, oj, hoj, hall⟩ := mem_ready.1 hj
      have hnot : ∀ e ∈ oj.after, Region.binds md e = true → e.on ≠ i := fun e he hb heq => by
        have h1 := hall e he hb
        rw [heq, getD_both hun] at h1
        cases h1
      have h2 := stOp_put hoj (hfree j oj hoj hji hjun hnot) (fun cs b => hsel i oi cs b hi) (fun cs b => hsel j oj cs b hoj) hy h1
      have hfree' : ∀ k ok, ops[k]? = some ok → k ≠ i → (listed.setIfInBounds j true).getD k true = false →
          (∀ e ∈ ok.after, Region.binds md e = true → e.on ≠ i) → oi.apart ops ok = true := fun k ok hk hki hun hno => by
        refine hfree k ok hk hki ?_ hno
        by_cases hjk : j = k
        · subst hjk; exact hjun
        · rw [getD_set_ne true hjk] at hun; exact hun
      refine stOp_mono (fun a' h3 => ih (listed.setIfInBounds j true) a' (inv.set hj hjn) hfree' (ready_mono hr (Ne.symm hji)) h3.1 ?_) h2
      rw [Array.setIfInBounds_comm _ _ hji]
      exact h3.2

def lexTo (md : Region.Mode) (ops : Array Oper) (L0 : Array Bool) : Nat → Nat → Array Bool → Bool
  | 0, _, listed => listed == L0
  | f + 1, k, listed => (Region.ready md ops listed).contains k && Region.free md ops listed k && lexTo md ops L0 f (k + 1) (listed.setIfInBounds k true)

theorem wpAnyL_to {n : Nat} {L0 : Array Bool} {Lq : Act → Prop} (hsel : Region.noSelect ops = true) (hs : Region.sinkB md ops n = true) (hc : chainT md ops n = true) (hn : n < ops.size) (hd : ∀ j ∈ Region.ready md ops L0, n ≤ j) :
    ∀ (l : List Oper) (k : Nat) (listed : Array Bool) (a : Act), (∀ j, j < l.length → l[j]? = ops[k + j]?) → k + l.length = n → HeadInv md ops n listed →
    lexTo md ops L0 l.length k listed = true → wpStill P ops w Lq l a →
    wpAnyL P md ops w n (fun listed' a' => listed' = L0 ∧ Lq a') l.length listed a
  | [], k, listed, a, _, _, _, hB, h => ⟨by simpa [lexTo] using hB, h⟩
  | o :: l, k, listed, a, hl, hk, inv, hB, h => by
    have h0 : ops[k]? = some o := by simpa using (hl 0 (by simp)).symm
    simp only [List.length_cons, lexTo, Bool.and_eq_true] at hB
    obtain ⟨⟨hr, hf⟩, hB'⟩ := hB
    have hkn : k < n := by simp only [List.length_cons] at hk; omega
    have hr' : k ∈ Region.ready md ops listed := by simpa using hr
    have hst : stOp P ops w k (wpStill P ops w Lq l) a := by unfold stOp; simp only [h0]; exact h
    obtain ⟨v, hy, hK⟩ := yieldsAt_of_stOp h0 hst
    exact wpAnyL_first' h0 (Region.noSelect_spec hsel) hs hc hn hkn (fun listed' a' hL => by obtain ⟨rfl, _⟩ := hL; exact hd) l.length listed a inv (Region.free_spec h0 hf) hr' hy
      (wpAnyL_to hsel hs hc hn hd l (k + 1) _ _ (fun j hj => by have := hl (j + 1) (by simp; omega); simpa [Nat.add_assoc, Nat.add_comm 1 j] using this) (by simp only [List.length_cons] at hk; omega) (inv.set hr' hkn) hB' hK)

def closedB (md : Region.Mode) (ops : Array Oper) (listed : Array Bool) : Bool :=
  (List.range ops.size).all fun j => match ops[j]? with
    | some oj => !listed.getD j false || oj.after.all fun e => !Region.binds md e || listed.getD e.on false
    | none => true

theorem closed_of {listed : Array Bool} (h : closedB md ops listed = true) : ∀ j oj, ops[j]? = some oj → listed.getD j false = true → ∀ e ∈ oj.after, Region.binds md e = true → listed.getD e.on false = true := by
  intro j oj hj hl e he hb
  have hjs : j < ops.size := (Array.getElem?_eq_some_iff.1 hj).1
  have := List.all_eq_true.1 h j (List.mem_range.2 hjs)
  rw [hj] at this
  simp only [hl, Bool.not_true, Bool.false_or] at this
  have := Array.all_eq_true'.1 this e he
  simpa [hb] using this

def plainOp (o : Oper) : Bool := o.guard.isNone && match o.op with
  | .move _ | .assign _ | .extract _ _ => true
  | _ => false

theorem still_of_wp {o : Oper} (ho : plainOp o = true) {a : Act} {K : Act → World → Prop} {Q : Exit → Act → World → Prop} (hlo : ¬ LetsOut Q) (h : o.wp P a w K Q ∨ (o.asks P a w ∧ LetsOut Q)) : o.still P a w (fun a' => K a' w) := by
  rcases h with h | h
  case inr => exact absurd h.2 hlo
  obtain ⟨dst, op, type, pos, after, guard⟩ := o
  cases op <;> simp [plainOp] at ho
  · simpa [Oper.wp, Oper.still, execOp, Oper.upon, Oper.stillUpon] using h
  · simpa [Oper.wp, Oper.still, execOp, Oper.upon, Oper.stillUpon] using h
  · rename_i tup idx
    simp [Oper.wp, Oper.still, execOp, Oper.upon, Oper.stillUpon] at h ⊢
    unfold Instr.extract at h ⊢
    cases hv : a.eval tup with
    | tuple vs =>
      rw [hv] at h
      cases hx : vs[idx]? with
      | none => simp [hx, Result.andThen] at h
      | some v =>
        simp [hx, Result.andThen] at h ⊢
        exact h
    | _ =>
      rw [hv] at h
      simp [Result.andThen] at h

theorem seq_still {Q : Exit → Act → World → Prop} (hlo : ¬ LetsOut Q) (t : List Oper) (w : World) : ∀ (mid : List Oper) (a : Act), mid.all plainOp = true → wpList P ops Q (mid ++ t) a w → wpStill P ops w (fun a3 => wpList P ops Q t a3 w) mid a
  | [], a, _, h => h
  | o :: mid, a, hp, h => by
    simp only [List.all_cons, Bool.and_eq_true] at hp
    rw [List.cons_append] at h
    unfold wpList at h
    unfold wpStill
    split
    · rename_i hw
      rw [if_pos hw] at h
      have h1 := still_of_wp hp.1 hlo h
      unfold Oper.still at h1 ⊢
      revert h1
      generalize (execOp a.eval o).run P w = r
      unfold Oper.stillUpon
      split
      · rintro ⟨e, h1⟩; exact ⟨e, seq_still hlo t w mid _ hp.2 h1⟩
      · rintro ⟨e, h1⟩; exact ⟨e, seq_still hlo t w mid _ hp.2 h1⟩
      · rintro ⟨e, v, hc, h1⟩; exact ⟨e, v, hc, seq_still hlo t w mid _ hp.2 h1⟩
      · exact fun h => h
    · rename_i hw
      rw [if_neg hw] at h
      exact seq_still hlo t w mid _ hp.2 h

def firstN (s n : Nat) : Array Bool := (Array.range s).map fun i => decide (i < n)

/-- The closed fact: n reads, one call, then moves of its results. -/
def callB (ops : Array Oper) (n : Nat) : Bool :=
  Region.noSelect ops && decide (n + 1 < ops.size) && Region.sinkB .any ops n && chainT .any ops n && lexTo .any ops (firstN ops.size n) n 0 (Array.replicate ops.size false) && decide (Region.ready .any ops (firstN ops.size n) = [n]) && ((firstN ops.size n).setIfInBounds n true == firstN ops.size (n + 1)) &&
  Region.sinkB .any ops (ops.size - 1) && Region.chainB .any ops (ops.size - 1) && closedB .any ops (firstN ops.size (n + 1)) && !(firstN ops.size (n + 1)).getD (ops.size - 1) true && Region.lexHead .any ops 1 (ops.size - 1 - (n + 1)) (n + 1) (firstN ops.size (n + 1)) && ((ops.toList.drop (n + 1)).take (ops.size - 1 - (n + 1))).all plainOp

theorem wp_region_call {id : Nat} {Q : Exit → Act → World → Prop} {a : Act} {w : World} {l : List Oper} (n : Nat) (hm : P.follows .mixedOrders = true) (hB : callB l.toArray n = true) (hlo : ¬ LetsOut Q)
    (h : wpStill P l.toArray w.drew (fun a' => wpList P l.toArray Q (l.drop n) a' w.drew) (l.take n) a) : (Code.region id l.toArray true).wp P Q a w := by
  simp only [callB, Bool.and_eq_true, decide_eq_true_eq, beq_iff_eq, Bool.not_eq_true'] at hB
  obtain ⟨⟨⟨⟨⟨⟨⟨⟨⟨⟨⟨⟨hsel, hn⟩, hs⟩, hc⟩, hlex⟩, hrd⟩, hL1⟩, hs2⟩, hc2⟩, hcl⟩, htl⟩, hlex2⟩, hpl⟩ := hB
  have hsz : l.toArray.size = l.length := by simp
  have hn' : n + 1 < l.length := by rw [← hsz]; exact hn
  have htl' : (l.take n).length = n := by simp; omega
  have inv0 : HeadInv .any l.toArray n (Array.replicate l.toArray.size false) :=
    ⟨by simp, fun j oj _ hl => (by rw [getD_replicate_false] at hl; cases hl), fun t _ ht => getD_in (by simpa using ht) (getD_replicate_false _ _)⟩
  have H := wpAnyL_to (P := P) (w := w.drew) (md := .any) (Lq := fun a' => wpList P l.toArray Q (l.drop n) a' w.drew) hsel hs hc (by omega) (by rw [hrd]; simp) (l.take n) 0 _ a (fun j hj => by
    have hj' : j < n := by rw [htl'] at hj; exact hj
    simp [hj']) (by simpa using htl') inv0 (by rw [htl']; exact hlex) h
  refine wp_region_any hm ?_
  have key := wpAny_of_head (Q' := Q) (g := l.toArray.size - n) (fun listed a' hL => by
    obtain ⟨rfl, hL⟩ := hL
    rw [show l.toArray.size - n = (l.length - n - 1) + 1 from by rw [hsz]; omega]
    refine ⟨fun h0 => (by rw [hrd] at h0; cases h0), fun i hi => ?_⟩
    rw [hrd] at hi
    obtain rfl : i = n := by simpa using hi
    have hget : l.toArray[i]? = some l[i] := by simp
    rw [List.drop_eq_getElem_cons (by omega)] at hL
    have hw : wpOp P l.toArray Q i (wpList P l.toArray Q (l.drop (i + 1))) a' w.drew := by unfold wpOp; simp only [hget]; exact hL
    refine wpOp_mono (fun a2 w2 h2 => ?_) hw
    rw [hL1]
    have hmid : (l.drop (i + 1)).take (l.length - 1 - (i + 1)) ++ [l[l.length - 1]'(by omega)] = l.drop (i + 1) := by
      have e1 : (l.drop (i + 1)).length = l.length - (i + 1) := List.length_drop
      have e2 := List.take_append_drop (l.length - 1 - (i + 1)) (l.drop (i + 1))
      have e3 : l.drop (l.length - 1) = [l[l.length - 1]'(by omega)] := by
        rw [List.drop_eq_getElem_cons (by omega : l.length - 1 < l.length)]
        congr 1
        exact List.drop_eq_nil_of_le (by omega)
      rw [List.drop_drop, show i + 1 + (l.length - 1 - (i + 1)) = l.length - 1 from by omega, e3] at e2
      exact e2
    rw [← hmid] at h2
    have hpl' : ((l.drop (i + 1)).take (l.length - 1 - (i + 1))).all plainOp = true := by rw [hsz] at hpl; exact hpl
    have hS := seq_still hlo _ w2 _ a2 hpl' h2
    have hml : ((l.drop (i + 1)).take (l.length - 1 - (i + 1))).length = l.length - 1 - (i + 1) := by simp; omega
    have inv1 : HeadInv .any l.toArray (l.toArray.size - 1) (firstN l.toArray.size (i + 1)) := by
      refine ⟨by simp [firstN], closed_of hcl, fun t ht ht' => ?_⟩
      obtain rfl : t = l.toArray.size - 1 := by omega
      exact htl
    have H2 := wpAnyL_lex (P := P) (w := w2) (md := .any) (g := 1) hsel hs2 hc2 (by omega) _ (i + 1) _ a2 (fun j hj => by
      rw [hml] at hj
      rw [List.getElem?_take_of_lt hj, List.getElem?_drop]; simp) (by rw [hml, hsz]; omega) inv1 (by rw [hml, ← hsz]; exact hlex2) hS
    have := wpAny_of_head (Q' := Q) (g := 1) (fun listed a' hL => by
      exact wpAny_of_seq (md := .any) (Q' := Q) [l[l.length - 1]'(by omega)] (l.toArray.size - 1) listed a' w2 (fun j => by
        rw [hsz]
        cases j with
        | zero => simp
        | succ j => simp; omega) hL.1 hL.2) _ _ _ H2
    rw [hml, show l.length - 1 - (i + 1) + 1 = l.length - i - 1 from by omega] at this
    exact this) _ _ _ H
  rw [htl', show n + (l.toArray.size - n) = l.toArray.size from by rw [hsz]; omega] at key
  exact key

end
end Go.Proofs.Qxb6613537aFmt
