import Derived.Test.Qxb6604791aLeaves
import Derived.Test.Qxb6604791aTail
namespace Go.Proofs.Qxb6604791a
open Go.ChangeShapes Go.WideShapes Go.ChangeAt Go.RowKit

/-- The rolling row of interleavesExact. -/
def dp0 (B R : Nat → HK) : Nat → Bool
  | 0 => true
  | j + 1 => dp0 B R j && eqK (B j) (R j)
def dpS (A B R : Nat → HK) (p : Nat → Bool) (i : Nat) : Nat → Bool
  | 0 => p 0 && eqK (A i) (R i)
  | j + 1 => (p (j + 1) && eqK (A i) (R (i + j + 1))) || (dpS A B R p i j && eqK (B j) (R (i + j + 1)))
def dp (A B R : Nat → HK) : Nat → Nat → Bool
  | 0 => dp0 B R
  | i + 1 => dpS A B R (dp A B R i) i

/-- A row of m + 1 bools of the call's own. -/
def BRow (w : World) (g m : Nat) (T : Nat → Bool) : Prop :=
  ∃ xs, w.ownsRow g 4 1 (.slice (some ⟨g, 0, none⟩) (m + 1) (m + 1)) (m + 1) xs ∧ ∀ t, t ≤ m → xs[t]? = some (.bool (T t))

theorem BRow.cell {w : World} {g m : Nat} {T : Nat → Bool} (h : BRow w g m T) {t : Nat} (ht : t ≤ m) : w.cell? ⟨g, t, none⟩ = some (.bool (T t)) := by
  obtain ⟨xs, ho, hx⟩ := h
  rw [ho.cellAt t (by omega), hx t ht]
theorem BRow.frozen {w : World} {g m : Nat} {T : Nat → Bool} (h : BRow w g m T) (t : Nat) : w.frozen? ⟨g, t, none⟩ = false := by
  obtain ⟨xs, ho, hx⟩ := h
  exact ho.frozenAt t
theorem BRow.lt {w : World} {g m : Nat} {T : Nat → Bool} (h : BRow w g m T) : g < w.heap.size := by
  obtain ⟨xs, ho, hx⟩ := h
  exact (ho.lt _ rfl).2
theorem BRow.set {w : World} {g m : Nat} {T T' : Nat → Bool} (h : BRow w g m T) (t : Nat) (v : Bool) (ht : T' t = v) (hT : ∀ s, s ≤ m → s ≠ t → T' s = T s) : BRow (w.setCell ⟨g, t, none⟩ (.bool v)) g m T' := by
  obtain ⟨xs, ho, hx⟩ := h
  refine ⟨_, (ho.stored t _).1, fun s hs => ?_⟩
  have hl := ho.1
  rw [List.getElem?_set]
  by_cases e : t = s
  · subst e
    rw [if_pos rfl, if_pos (by omega), ht]
  · rw [if_neg e, hx s hs, hT s hs (Ne.symm e)]
theorem BRow.of_block {w w1 : World} {g m : Nat} {T : Nat → Bool} (h : BRow w g m T) (hg : w1.heap[g]? = w.heap[g]?) : BRow w1 g m T := by
  obtain ⟨xs, ⟨hl, ho⟩, hx⟩ := h
  refine ⟨xs, ⟨hl, ?_⟩, hx⟩
  rcases ho with ⟨h1, _⟩ | ⟨g', cap, cur, h1, h2, h3, r⟩
  · cases h1
  · simp only [Value.slice.injEq, Option.some.injEq, Addr.mk.injEq] at h1
    obtain ⟨⟨rfl, _⟩, _, rfl⟩ := h1
    exact .inr ⟨_, _, cur, rfl, h2, by rw [hg]; exact h3, r⟩
theorem BRow.made {w : World} {g m : Nat} (h : w.ownsRow g 4 1 (.slice (some ⟨g, 0, none⟩) (m + 1) (m + 1)) (m + 1) (madeCells #[.bool false] (m + 1)).toList) : BRow w g m (fun _ => false) := by
  refine ⟨_, h, fun t ht => ?_⟩
  rw [toList_madeCells_one, List.getElem?_replicate, if_pos (by omega)]

/-- What behind a region and a store is known of the row and of all else. -/
theorem BRow.step {w wr w1 : World} {ov : World → World} {m : Nat} {T T' : Nat → Bool} (h : BRow wr w.heap.size m T) (hnx : Below w.heap.size w wr) (hov : IsOv wr ov) (t : Nat) (v : Bool) (ht : T' t = v) (hT : ∀ s, s ≤ m → s ≠ t → T' s = T s) :
    BRow ((ov w1).setCell ⟨w.heap.size, t, none⟩ (.bool v)) w.heap.size m T' ∧ Below w.heap.size w ((ov w1).setCell ⟨w.heap.size, t, none⟩ (.bool v)) :=
  ⟨(h.of_block ((hov.below w1).block _ h.lt)).set t v ht hT, (hnx.trans ((hov.below w1).mono (Nat.le_of_lt h.lt))).setCell (p := ⟨w.heap.size, t, none⟩) (Nat.le_refl _) _⟩

theorem eqHK_true {xa xc xv xl ya yc yv yl : ByteArray} (h : eqK ⟨xa, xc, xv, xl⟩ ⟨ya, yc, yv, yl⟩ = true) (w : World) :
    Calls Try.prog 21 #[.agg #[.string xa, .string xc, .string xv, .string xl], .agg #[.string ya, .string yc, .string yv, .string yl]] w
      fun e w' => e = .returned (.bool true) ∧ Below w.heap.size w w' := by
  rw [← h]; exact eqHK_any _ _ _ _ _ _ _ _ w
theorem eqHK_false {xa xc xv xl ya yc yv yl : ByteArray} (h : eqK ⟨xa, xc, xv, xl⟩ ⟨ya, yc, yv, yl⟩ = false) (w : World) :
    Calls Try.prog 21 #[.agg #[.string xa, .string xc, .string xv, .string xl], .agg #[.string ya, .string yc, .string yv, .string yl]] w
      fun e w' => e = .returned (.bool false) ∧ Below w.heap.size w w' := by
  rw [← h]; exact eqHK_any _ _ _ _ _ _ _ _ w

theorem Try.info4 : (Try.prog.info? 4).map (fun i => (i.zero, i.size, i.bytes)) = some (some (.bool false), 1, 1) := by kernel_rfl

end Go.Proofs.Qxb6604791a
