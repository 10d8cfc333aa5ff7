/-
  A region that draws its order, whose head is quiet in a set of worlds (loads, addresses, arithmetic, calls that lay new blocks) and whose last operation (a store) waits for all the others: ONE walk of the head in the text's order, then the last operation.
-/
import Derived.StillTail
import Derived.Deep.Quiet
import Derived.Below
namespace Go.Proofs.Qxb6600852a
open Go.RowKit

section
variable {P : Program} {ops : Array Oper} {md : Region.Mode} {C : World → Prop}

/-- f operations of the head (numbers below n) are still to come, in whatever order; then L. -/
def HeadQ (P : Program) (md : Region.Mode) (ops : Array Oper) (C : World → Prop) (n : Nat) (L : Array Bool → Act → Prop) : Nat → Array Bool → Act → Prop
  | 0, listed, a => L listed a
  | f + 1, listed, a => (∃ i, i ∈ Region.ready md ops listed) ∧ ∀ i ∈ Region.ready md ops listed, i < n ∧ qOp P ops C i (HeadQ P md ops C n L f (listed.setIfInBounds i true)) a

theorem wpAny_of_headQ {n g : Nat} {L : Array Bool → Act → Prop} {Q' : Exit → Act → World → Prop} (hL : ∀ listed a w, C w → L listed a → wpAny P md ops Q' g listed a w) :
    ∀ (f : Nat) (listed : Array Bool) (a : Act) (w : World), C w → HeadQ P md ops C n L f listed a → wpAny P md ops Q' (f + g) listed a w
  | 0, listed, a, w, hw, h => by rw [Nat.zero_add]; exact hL _ _ _ hw h
  | f + 1, listed, a, w, hw, h => by
    rw [Nat.add_right_comm]
    refine ⟨fun h0 => ?_, fun i hi => wpOp_of_qOp hw (fun a' w' hw' h' => wpAny_of_headQ hL f _ a' w' hw' h') (h.2 i hi).2⟩
    obtain ⟨⟨i, hi⟩, _⟩ := h
    rw [h0] at hi
    cases hi

theorem HeadQ.first {n i : Nat} {oi : Oper} {v : Value} {L : Array Bool → Act → Prop} (hi : ops[i]? = some oi) (hsel : ∀ (j : Nat) (o : Oper) cs b, ops[j]? = some o → o.op ≠ .select cs b)
    (hs : Region.sinkB md ops n = true) (hc : Region.chainB md ops n = true) (hn : n < ops.size) (hin : i < n)
    (hdone : ∀ listed a, L listed a → ∀ j ∈ Region.ready md ops listed, n ≤ j) (f : Nat) :
    ∀ (listed : Array Bool) (a : Act), HeadInv md ops n listed →
      (∀ j oj, ops[j]? = some oj → j ≠ i → listed.getD j true = false → (∀ e ∈ oj.after, Region.binds md e = true → e.on ≠ i) → oi.apart ops oj = true) →
      i ∈ Region.ready md ops listed → YieldsIn P ops C oi v a →
      HeadQ P md ops C n L f (listed.setIfInBounds i true) (a.put oi.dst v) → HeadQ P md ops C n L (f + 1) listed a := by
  induction f with
  | zero =>
    intro listed a inv _ hr hy H
    refine ⟨⟨i, hr⟩, fun j hj => ?_⟩
    have hjn : j < n := Nat.lt_of_not_le fun h => tail_waits hs hc hn inv _ i rfl hin (mem_ready.1 hr).1 j h hj
    by_cases hji : j = i
    · subst hji; exact ⟨hjn, hy.qOp hi H⟩
    · exact absurd (hdone _ _ H j (ready_mono hj hji)) (Nat.not_le.2 hjn)
  | succ f ih =>
    intro listed a inv hfree hr hy H
    have hun := (mem_ready.1 hr).1
    refine ⟨⟨i, hr⟩, fun j hj => ?_⟩
    have hjn : j < n := Nat.lt_of_not_le fun h => tail_waits hs hc hn inv _ i rfl hin hun j h hj
    by_cases hji : j = i
    · subst hji; exact ⟨hjn, hy.qOp hi H⟩
    obtain ⟨hjun, oj, hoj, hall⟩ := mem_ready.1 hj
    have hnot : ∀ e ∈ oj.after, Region.binds md e = true → e.on ≠ i := fun e he hb heq => by
      have := hall e he hb
      rw [heq, getD_both hun] at this
      cases this
    have h2 := qOp_put hoj (hfree j oj hoj hji hjun hnot) (fun cs b => hsel i oi cs b hi) (fun cs b => hsel j oj cs b hoj) hy (H.2 j (ready_mono hj hji)).2
    refine ⟨hjn, qOp_mono (fun a' h3 => ih (listed.setIfInBounds j true) a' (inv.set hj hjn) (fun k ok hk hki hkun hno => ?_) (ready_mono hr (Ne.symm hji)) h3.1 ?_) h2⟩
    · refine hfree k ok hk hki ?_ hno
      by_cases hjk : j = k
      · subst hjk; exact hjun
      · rwa [getD_set_ne true hjk] at hkun
    · rw [Array.setIfInBounds_comm _ _ hji]
      exact h3.2

theorem HeadQ.lex {n g : Nat} {Lq : Act → Prop} (hsel : Region.noSelect ops = true) (hs : Region.sinkB md ops n = true) (hc : Region.chainB md ops n = true) (hn : n < ops.size) :
    ∀ (l : List Oper) (k : Nat) (listed : Array Bool) (a : Act), (∀ j, j < l.length → l[j]? = ops[k + j]?) → k + l.length = n → HeadInv md ops n listed →
    Region.lexHead md ops g l.length k listed = true → wpQuiet P ops C Lq l a →
    HeadQ P md ops C n (fun listed' a' => Region.seqB md ops g n listed' = true ∧ Lq a') l.length listed a
  | [], k, listed, a, _, hk, _, hB, h => by
    obtain rfl : k = n := hk
    exact ⟨hB, h⟩
  | o :: l, k, listed, a, hl, hk, inv, hB, h => by
    have h0 : ops[k]? = some o := (hl 0 (by simp)).symm
    rw [List.length_cons] at hk
    simp only [List.length_cons, Region.lexHead, Bool.and_eq_true] at hB
    have hr : k ∈ Region.ready md ops listed := by simpa using hB.1.1
    obtain ⟨v, hy, hK⟩ := yieldsIn_of_qOp (K := wpQuiet P ops C Lq l) h0 (by unfold qOp; simp only [h0]; exact h)
    refine HeadQ.first h0 (Region.noSelect_spec hsel) hs hc hn (by omega) (fun _ _ hL => seqB_ready hL.1) l.length listed a inv (Region.free_spec h0 hB.1.2) hr hy ?_
    refine HeadQ.lex hsel hs hc hn l (k + 1) _ _ (fun j hj => ?_) (by omega) (inv.set hr (by omega)) hB.2 hK
    have := hl (j + 1) (by simpa using hj)
    rw [Nat.add_assoc, Nat.add_comm 1 j]
    simpa using this

/-- **THE HEAD QUIET, THE TAIL IN ITS ORDER.** -/
theorem wp_region_quiet_tail {id : Nat} {Q : Exit → Act → World → Prop} {a : Act} {w : World} {l : List Oper} (n : Nat) (hm : P.follows .mixedOrders = true) (hB : Region.lexTailB .any l.toArray n = true) (hC : C { w with drawn := w.drawn + 1 })
    (h : wpQuiet P l.toArray C (fun a' => ∀ w', C w' → wpList P l.toArray Q (l.drop n) a' w') (l.take n) a) : (Code.region id l.toArray true).wp P Q a w := by
  simp only [Region.lexTailB, Bool.and_eq_true, decide_eq_true_eq] at hB
  obtain ⟨⟨⟨⟨hsel, hn⟩, hs⟩, hc⟩, hlex⟩ := hB
  have hn' : n < l.length := by simpa using hn
  have htl : (l.take n).length = n := by simp; omega
  have hdl : (l.drop n).length = l.toArray.size - n := by simp
  have inv0 : HeadInv .any l.toArray n (Array.replicate l.toArray.size false) :=
    ⟨by simp, fun j oj _ hl => (by rw [getD_replicate_false] at hl; cases hl), fun t _ ht => getD_in (by simpa using ht) (getD_replicate_false _ _)⟩
  have H := HeadQ.lex (md := .any) (g := l.toArray.size - n) hsel hs hc hn (l.take n) 0 _ a (fun j hj => by
    have hj' : j < n := by rw [htl] at hj; exact hj
    simp [hj']) (by rw [Nat.zero_add]; exact htl) inv0 (by rw [htl]; exact hlex) h
  have := wpAny_of_headQ (Q' := Q) (g := l.toArray.size - n) (fun listed a' w' hw' hL => by
    have := wpAny_of_seq (md := .any) (Q' := Q) (l.drop n) n listed a' w' (fun j => by simp [List.getElem?_drop]) (by rw [hdl]; exact hL.1) (hL.2 w' hw')
    rwa [hdl] at this) _ _ _ _ hC H
  rw [htl, show n + (l.toArray.size - n) = l.toArray.size by omega] at this
  exact wp_region_any hm this
end

/-- 'ov w1': w1 if it is w with new blocks (and draws); else w. -/
structure IsOv (w : World) (ov : World → World) : Prop where
  below : ∀ w1, Below w.heap.size w (ov w1)
  self : ∀ w1, Below w.heap.size w w1 → w1 = ov w1

theorem exists_ov (w : World) : ∃ ov, IsOv w ov := by
  classical
  refine ⟨fun w1 => if Below w.heap.size w w1 then w1 else w, ⟨fun w1 => ?_, fun w1 h => ?_⟩⟩
  · show Below w.heap.size w (if Below w.heap.size w w1 then w1 else w)
    split
    · assumption
    · exact Below.refl _ _
  · show w1 = if Below w.heap.size w w1 then w1 else w
    rw [if_pos h]

theorem IsOv.cell {w : World} {ov : World → World} (h : IsOv w ov) : ∀ (w1 : World) (b o : Nat), b < w.heap.size → (ov w1).cell? ⟨b, o, none⟩ = w.cell? ⟨b, o, none⟩ := fun w1 b o hb => (h.below w1).cell (p := ⟨b, o, none⟩) hb
theorem IsOv.frozen {w : World} {ov : World → World} (h : IsOv w ov) : ∀ (w1 : World) (b o : Nat), b < w.heap.size → (ov w1).frozen? ⟨b, o, none⟩ = w.frozen? ⟨b, o, none⟩ := fun w1 b o hb => (h.below w1).frozen (p := ⟨b, o, none⟩) hb

/-- The set of the worlds that are w with new blocks: the head quiet in it, the tail in its order. -/
theorem IsOv.tail {P : Program} {id : Nat} {Q : Exit → Act → World → Prop} {a : Act} {w : World} {ov : World → World} (hov : IsOv w ov) {l : List Oper} (n : Nat) (hm : P.follows .mixedOrders = true) (hB : Region.lexTailB .any l.toArray n = true)
    (h : wpQuiet P l.toArray (fun w' => ∃ w1, w' = ov w1) (fun a' => ∀ w', (∃ w1, w' = ov w1) → wpList P l.toArray Q (l.drop n) a' w') (l.take n) a) : (Code.region id l.toArray true).wp P Q a w :=
  wp_region_quiet_tail n hm hB ⟨w.drew, hov.self _ ((Below.refl _ _).drew)⟩ h

/-- The same where all of the region is quiet. -/
theorem IsOv.all {P : Program} {id : Nat} {Q : Exit → Act → World → Prop} {a : Act} {w : World} {ov : World → World} (hov : IsOv w ov) {l : List Oper} (hm : P.follows .mixedOrders = true) (hB : Region.lexB .any l.toArray = true)
    (h : wpQuiet P l.toArray (fun w' => ∃ w1, w' = ov w1) (fun a' => ∀ w', (∃ w1, w' = ov w1) → Q .normal a' w') l a) : (Code.region id l.toArray true).wp P Q a w :=
  wp_region_quiet (C := fun w' => ∃ w1, w' = ov w1) hm hB ⟨w.drew, hov.self _ ((Below.refl _ _).drew)⟩ (by simpa using h)

theorem IsOv.call {P : Program} {f : FuncId} {args : Array Value} {w w1 : World} {ov : World → World} (hov : IsOv w ov) {v : Value}
    (h : Calls P f args (ov w1) fun e w' => e = .returned v ∧ Below (ov w1).heap.size (ov w1) w') : Calls P f args (ov w1) fun e w'' => e = .returned v ∧ ∃ w2, w'' = ov w2 :=
  h.mono fun _ _ ⟨he, hb⟩ => ⟨he, _, hov.self _ ((hov.below w1).trans (hb.mono (hov.below w1).size))⟩

end Go.Proofs.Qxb6600852a
