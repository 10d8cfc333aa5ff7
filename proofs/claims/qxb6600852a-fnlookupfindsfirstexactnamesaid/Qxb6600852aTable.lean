import Derived.Test.Qxb6600852aRow
namespace Go.Proofs.Qxb6600852a
open Go.ChangeShapes Go.WideShapes Go.ChangeAt Go.RowKit
set_option linter.unusedVariables false

/-- The cells of the scope at i. -/
def rowC (N T : Nat → ByteArray) (m i : Nat) : Nat → Value := scC (N i) (tt T m i) (itoaS i) ((i : Int) % 2 == 1)

/-- The first k of n scopes lie in block g. -/
structure TRow (w : World) (g n k : Nat) (N T : Nat → ByteArray) (m : Nat) : Prop where
  max : n ≤ maxLen
  lt : g < w.heap.size
  cells : ∀ j, j < n * 6 → ∃ v, w.cell? ⟨g, j, none⟩ = some v
  frozen : ∀ j, w.frozen? ⟨g, j, none⟩ = false
  rows : ∀ i, i < k → SixAt w g (i * 6) (rowC N T m i)

theorem TRow.start {w : World} {g n : Nat} {N T : Nat → ByteArray} {m : Nat} {xs : List Value} (h : w.ownsRow g 30 6 (.slice (some ⟨g, 0, none⟩) n n) n xs) : TRow w g n 0 N T m where
  max := by
    rcases h.2 with ⟨h1, _⟩ | ⟨g', cap, cur, h1, h2, h3, h4, h5, r⟩
    · cases h1
    · omega
  lt := (h.lt _ rfl).2
  cells := fun j hj => by
    have hl := h.1
    refine ⟨xs[j]'(by omega), ?_⟩
    rw [h.cellAt _ (by omega)]
    simp
  frozen := fun j => h.frozenAt j
  rows := fun i hi => absurd hi (Nat.not_lt_zero _)

theorem TRow.kept {w w' : World} {g n k : Nat} {N T : Nat → ByteArray} {m : Nat} (h : TRow w g n k N T m) (hb : Below w.heap.size w w') : TRow w' g n k N T m where
  max := h.max
  lt := Nat.lt_of_lt_of_le h.lt hb.size
  cells := fun j hj => by obtain ⟨v, hv⟩ := h.cells j hj; exact ⟨v, (hb.cell (p := ⟨g, j, none⟩) h.lt).trans hv⟩
  frozen := fun j => (hb.frozen (p := ⟨g, j, none⟩) h.lt).trans (h.frozen j)
  rows := fun i hi j hj => (hb.cell (p := ⟨g, i * 6 + j, none⟩) h.lt).trans (h.rows i hi j hj)

theorem lay6_size (w : World) (g o : Nat) (a t d : ByteArray) (od : Bool) : (lay6 w g o a t d od).heap.size = w.heap.size := by
  unfold lay6
  simp

theorem TRow.step0 {w : World} {g n k : Nat} {N T : Nat → ByteArray} {m : Nat} (a t d : ByteArray) (od : Bool) (he : rowC N T m k = scC a t d od) (h : TRow w g n k N T m) (hk : k < n) : TRow (lay6 w g (k * 6) a t d od) g n (k + 1) N T m := by
  refine ⟨h.max, by rw [lay6_size]; exact h.lt, fun j hj => ?_, fun j => (lay6_frozen (w := w) (g := g) (o := k * 6) ⟨g, j, none⟩).trans (h.frozen j), fun i hi => ?_⟩
  · by_cases hin : k * 6 ≤ j ∧ j < k * 6 + 6
    · have := lay6_at (w := w) (g := g) (o := k * 6) (a := a) (t := t) (d := d) (od := od) (fun j hj => h.cells _ (by omega)) (j - k * 6) (by omega)
      rw [show k * 6 + (j - k * 6) = j by omega] at this
      exact ⟨_, this⟩
    · obtain ⟨v, hv⟩ := h.cells j hj
      exact ⟨v, (lay6_other (by omega)).trans hv⟩
  · by_cases e : i = k
    · subst e
      rw [he]
      exact lay6_at (fun j hj => h.cells _ (by omega))
    · intro j hj
      exact (lay6_other (by omega)).trans (h.rows i (by omega) j hj)
theorem TRow.step {w : World} {g n k : Nat} {N T : Nat → ByteArray} {m : Nat} (h : TRow w g n k N T m) (hk : k < n) : TRow (lay6 w g (k * 6) (N k) (tt T m k) (itoaS k) ((k : Int) % 2 == 1)) g n (k + 1) N T m :=
  TRow.step0 _ _ _ _ rfl h hk

/-- It hands back a table of the scopes. -/
def RetT (n : Nat) (N T : Nat → ByteArray) (m : Nat) (e : Ending) (w' : World) : Prop := ∃ g, e = .returned (.slice (some ⟨g, 0, none⟩) n n) ∧ TRow w' g n n N T m

set_option maxRecDepth 100000 in
set_option maxHeartbeats 4000000 in
theorem table_any (no to : Option Addr) (n m ca cb : Nat) (N T : Nat → ByteArray) (w : World) (hN : IsStrs w no n N) (hT : IsStrs w to m T) (hn : n ≤ 65536) (hm : m ≤ 65536) :
    Calls Try.prog 11 #[.slice no n ca, .slice to m cb] w fun e w' => RetT n N T m e w' ∧ Below w.heap.size w w' := by
  obtain ⟨i0, hi, hz0, hz1, hz2⟩ := info_parts Try.info30
  go_enter Try.func11, Try.ntmps11
  go_wp2_with (at_make; refine wpList_make_full _ rfl _ _ 27 rfl w.heap.size 30 i0 _ 6 Try.underlying27 hi hz0 hz1 _ _ _ _ n rfl rfl rfl rfl ?b2 ?b3 (Nat.le_refl _) ?_)
  case b2 => rw [hz2]; omega
  case b3 => unfold maxLen; omega
  intro w0 hown0 hgrow0
  go_wp2
  go_loopw [6] (fun i wr => ∃ k : Nat, k ≤ n ∧ i = .int .i64 k ∧ TRow wr w.heap.size n k N T m ∧ Below w.heap.size w wr) (fun i _ => n - (intOf i).toNat)
  case atStart => exact ⟨0, Nat.zero_le _, rfl, TRow.start hown0, (Below.refl _ _).grown hgrow0 (Nat.le_refl _) (fun k h => by cases h)⟩
  case round =>
    obtain ⟨k, hk, rfl, hrow, hnx⟩ := hrel
    clear hown0 hgrow0
    by_cases hlt : k < n
    · go_wp2_with fail
      refine (row_any no to n m ca cb k N T wr (hN.kept hnx) (hT.kept hnx) hlt hn hm).mono ?_
      rintro e w1 ⟨rfl, hb1⟩
      have hrow1 := hrow.kept hb1
      have hnx1 := hnx.trans (hb1.mono hnx.size)
      obtain ⟨v0, q0⟩ := hrow1.cells (k * 6) (by omega)
      obtain ⟨v1, q1⟩ := hrow1.cells (k * 6 + 1) (by omega)
      obtain ⟨v2, q2⟩ := hrow1.cells (k * 6 + 2) (by omega)
      obtain ⟨v3, q3⟩ := hrow1.cells (k * 6 + 3) (by omega)
      obtain ⟨v4, q4⟩ := hrow1.cells (k * 6 + 4) (by omega)
      obtain ⟨v5, q5⟩ := hrow1.cells (k * 6 + 5) (by omega)
      have qf := hrow1.frozen
      have hstep := hrow1.step hlt
      have hbel := lay6_below (o := k * 6) (a := N k) (t := tt T m k) (d := itoaS k) (od := ((k : Int) % 2 == 1)) hnx1 (Nat.le_refl _)
      unfold lay6 at hstep hbel
      unfold rowV scV
      clear hrow hb1 hnx hrow1 hnx1
      go_wp2
      go_roundw
      case rel => exact ⟨k + 1, by omega, by go_num, hstep, hbel⟩
      case measure => simp [intOf]; omega
    · have e : k = n := by omega
      subst e
      go_wp2
      go_ret
      exact ⟨⟨_, rfl, hrow⟩, hnx⟩

end Go.Proofs.Qxb6600852a
