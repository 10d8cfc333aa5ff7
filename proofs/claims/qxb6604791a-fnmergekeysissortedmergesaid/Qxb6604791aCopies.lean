import Derived.Test.Qxb6604791aKeys
namespace Go.Proofs.Qxb6604791a
open Go.ChangeShapes Go.WideShapes Go.ChangeAt Go.RowKit

theorem Try.info37 : (Try.prog.info? 37).map (fun i => (i.zero, i.size, i.bytes)) = some (some (.agg #[.string ⟨#[]⟩, .string ⟨#[]⟩, .string ⟨#[]⟩, .string ⟨#[]⟩]), 4, 64) := by kernel_rfl
theorem Try.info32 : (Try.prog.info? 32).map (fun i => (i.zero, i.size, i.bytes)) = some (some (.agg #[.string ⟨#[]⟩, .string ⟨#[]⟩, .string ⟨#[]⟩, .string ⟨#[]⟩]), 4, 64) := by kernel_rfl

theorem bcell {W w1 : World} (hb : Below W.heap.size W w1) : (∀ b o, b < W.heap.size → w1.cell? ⟨b, o, none⟩ = W.cell? ⟨b, o, none⟩) ∧ (∀ b o, b < W.heap.size → w1.frozen? ⟨b, o, none⟩ = W.frozen? ⟨b, o, none⟩) :=
  ⟨fun b o h => hb.cell (p := ⟨b, o, none⟩) h, fun b o h => hb.frozen (p := ⟨b, o, none⟩) h⟩

/-- The first k of the n keys in the row of block g are K's. -/
def Row (w : World) (g : Nat) (e : TypeId) (n k : Nat) (K : Nat → HK) : Prop :=
  ∃ xs, w.ownsRow g e 4 (.slice (some ⟨g, 0, none⟩) n n) n xs ∧
    ∀ i, i < k → xs[i * 4]? = some (.string (K i).a) ∧ xs[i * 4 + 1]? = some (.string (K i).c) ∧ xs[i * 4 + 2]? = some (.string (K i).v) ∧ xs[i * 4 + 3]? = some (.string (K i).l)

theorem Row.cells {w : World} {g : Nat} {e : TypeId} {n k : Nat} {K : Nat → HK} (h : Row w g e n k K) {i : Nat} (hi : i < n) :
    (∃ v0 v1 v2 v3, w.cell? ⟨g, i * 4, none⟩ = some v0 ∧ w.cell? ⟨g, i * 4 + 1, none⟩ = some v1 ∧ w.cell? ⟨g, i * 4 + 2, none⟩ = some v2 ∧ w.cell? ⟨g, i * 4 + 3, none⟩ = some v3) ∧ ∀ j, w.frozen? ⟨g, j, none⟩ = false := by
  obtain ⟨xs, ho, _⟩ := h
  have hl := ho.1
  refine ⟨⟨xs[i * 4], xs[i * 4 + 1], xs[i * 4 + 2], xs[i * 4 + 3], ?_, ?_, ?_, ?_⟩, fun j => ho.frozenAt j⟩
  all_goals (rw [ho.cellAt _ (by omega)]; simp)

theorem far4 {w : World} {g b : Nat} (hne : ¬ b = g) (p0 p1 p2 p3 o : Nat) (x0 x1 x2 x3 : Value) :
    ((((w.setCell ⟨g, p0, none⟩ x0).setCell ⟨g, p1, none⟩ x1).setCell ⟨g, p2, none⟩ x2).setCell ⟨g, p3, none⟩ x3).cell? ⟨b, o, none⟩ = w.cell? ⟨b, o, none⟩ := by
  have h : ∀ (w : World) (p : Nat) (x : Value), (w.setCell ⟨g, p, none⟩ x).cell? ⟨b, o, none⟩ = w.cell? ⟨b, o, none⟩ := fun w p x =>
    World.cell?_of_block (w := w) (Below.heap_setCell w ⟨g, p, none⟩ x b hne)
  rw [h, h, h, h]

theorem Row.of_block {w w1 : World} {g : Nat} {e : TypeId} {n k : Nat} {K : Nat → HK} (h : Row w g e n k K) (hg : w1.heap[g]? = w.heap[g]?) : Row w1 g e n k K := by
  obtain ⟨xs, ⟨hl, ho⟩, hx⟩ := h
  refine ⟨xs, ⟨hl, ?_⟩, hx⟩
  rcases ho with ⟨h1, _⟩ | ⟨g', cap, cur, h1, h2, h3, r⟩
  · cases h1
  · simp only [Value.slice.injEq, Option.some.injEq, Addr.mk.injEq] at h1
    obtain ⟨⟨rfl, _⟩, _, rfl⟩ := h1
    exact .inr ⟨_, _, cur, rfl, h2, by rw [hg]; exact h3, r⟩

theorem Row.step {w : World} {g : Nat} {e : TypeId} {n k : Nat} {K : Nat → HK} (h : Row w g e n k K) (hlt : k < n) :
    Row ((((w.setCell ⟨g, k * 4, none⟩ (.string (K k).a)).setCell ⟨g, k * 4 + 1, none⟩ (.string (K k).c)).setCell ⟨g, k * 4 + 2, none⟩ (.string (K k).v)).setCell ⟨g, k * 4 + 3, none⟩ (.string (K k).l)) g e n (k + 1) K := by
  obtain ⟨xs, ho, hx⟩ := h
  have hl := ho.1
  refine ⟨_, ((((ho.stored (k * 4) _).1.stored (k * 4 + 1) _).1.stored (k * 4 + 2) _).1.stored (k * 4 + 3) _).1, fun i hi => ?_⟩
  by_cases hik : i = k
  · subst hik
    refine ⟨?_, ?_, ?_, ?_⟩
    all_goals (simp [List.getElem?_set]; try omega)
  · obtain ⟨x0, x1, x2, x3⟩ := hx i (by omega)
    refine ⟨?_, ?_, ?_, ?_⟩
    all_goals (simp only [List.getElem?_set]; repeat rw [if_neg (by omega)])
    all_goals assumption

theorem Row.isKeys {w : World} {g : Nat} {e : TypeId} {n : Nat} {K : Nat → HK} (h : Row w g e n n K) : n ≤ maxLen ∧ g < w.heap.size ∧ Seg w g 0 n K := by
  obtain ⟨xs, ho, hx⟩ := h
  refine ⟨?_, (ho.lt _ rfl).2, fun i hi => ?_⟩
  · rcases ho.2 with ⟨h1, _⟩ | ⟨g', cap, cur, h1, h2, h3, h4, h5, r⟩
    · cases h1
    · omega
  · obtain ⟨x0, x1, x2, x3⟩ := hx i hi
    rw [← x0, ← x1, ← x2, ← x3, Nat.zero_add]
    exact ⟨ho.cellAt _ (by omega), ho.cellAt _ (by omega), ho.cellAt _ (by omega), ho.cellAt _ (by omega)⟩

theorem below4 {B : Nat} {a w : World} (h : Below B a w) (p0 p1 p2 p3 : Nat) (x0 x1 x2 x3 : Value) {g : Nat} (hg : B ≤ g) :
    Below B a ((((w.setCell ⟨g, p0, none⟩ x0).setCell ⟨g, p1, none⟩ x1).setCell ⟨g, p2, none⟩ x2).setCell ⟨g, p3, none⟩ x3) :=
  (((h.setCell (p := ⟨g, p0, none⟩) hg x0).setCell (p := ⟨g, p1, none⟩) hg x1).setCell (p := ⟨g, p2, none⟩) hg x2).setCell (p := ⟨g, p3, none⟩) hg x3

theorem nil22 : ∀ (w : World) (a : Option Addr) (n c n' c' : Nat), (binOp .eql 22 (.slice a n c) (.slice none n' c')).run Try.prog w = .ok (.bool a.isNone) w := fun w a n c n' c' => Lib.run_eql_slice_nil w _ _ a n c n' c' Try.underlying22

set_option maxRecDepth 100000 in
set_option maxHeartbeats 4000000 in
theorem toKeys_some (b off n cap : Nat) (A : Nat → HK) (w : World) (hb : b < w.heap.size) (hs : Seg w b off n A) (hn : n ≤ 65536) :
    Calls Try.prog 15 #[.slice (some ⟨b, off, none⟩) n cap] w fun e w' => e = .returned (.slice (some ⟨w.heap.size, 0, none⟩) n n) ∧ Row w' w.heap.size 37 n n A ∧ Below w.heap.size w w' := by
  obtain ⟨i0, hi, hz0, hz1, hz2⟩ := info_parts Try.info37
  have hnil := nil22
  go_enter Try.func15, Try.ntmps15
  go_wp2_with (at_make; refine wpList_make_full _ rfl _ _ 26 rfl w.heap.size 37 i0 _ 4 Try.underlying26 hi hz0 hz1 _ _ _ _ n rfl rfl rfl rfl ?b2 ?b3 (Nat.le_refl _) ?_)
  case b2 => rw [hz2]; omega
  case b3 => unfold maxLen; omega
  intro w0 hown0 hgrow0
  go_wp2
  go_loopw [4] (fun i wr => ∃ k : Nat, k ≤ n ∧ i = .int .i64 k ∧ Row wr w.heap.size 37 n k A ∧ Below w.heap.size w wr) (fun i _ => n - (intOf i).toNat)
  case atStart => exact ⟨0, Nat.zero_le _, rfl, ⟨_, hown0, fun i hi => absurd hi (Nat.not_lt_zero _)⟩, (Below.refl _ _).grown hgrow0 (Nat.le_refl _) (fun k h => by cases h)⟩
  case round =>
    obtain ⟨k, hk, rfl, hrow, hnx⟩ := hrel
    by_cases hlt : k < n
    · have hg : w.heap.size < wr.heap.size := by obtain ⟨xs, ho, _⟩ := hrow; exact (ho.lt _ rfl).2
      obtain ⟨h0, h1, h2, h3⟩ := hs k hlt
      rw [← hnx.cell (p := ⟨b, off + k * 4, none⟩) hb] at h0
      rw [← hnx.cell (p := ⟨b, off + k * 4 + 1, none⟩) hb] at h1
      rw [← hnx.cell (p := ⟨b, off + k * 4 + 2, none⟩) hb] at h2
      rw [← hnx.cell (p := ⟨b, off + k * 4 + 3, none⟩) hb] at h3
      obtain ⟨⟨v0, v1, v2, v3, c0, c1, c2, c3⟩, hfr⟩ := hrow.cells hlt
      have hbw : b < wr.heap.size := by omega
      have hne : ¬ b = w.heap.size := by omega
      have hk0 : (0 : Int) ≤ (k : Int) := Int.natCast_nonneg _
      have hk1 : (k : Int) < (n : Int) := by omega
      clear hs hown0 hgrow0
      go_wp2_with fail
      go_region_held3 (fun w' => w'.cell? ⟨b, off + k * 4, none⟩ = some (.string (A k).a) ∧ w'.cell? ⟨b, off + k * 4 + 1, none⟩ = some (.string (A k).c) ∧ w'.cell? ⟨b, off + k * 4 + 2, none⟩ = some (.string (A k).v) ∧ w'.cell? ⟨b, off + k * 4 + 3, none⟩ = some (.string (A k).l))
        (first | go_keep | (refine ⟨?_, ?_, ?_, ?_⟩ <;> (rw [far4 hne]; assumption)))
        (first | (go_at_call 23; refine (make_any _ _ _ _ _).mono ?_; rintro e w1 ⟨rfl, hb1⟩; obtain ⟨q1, q2⟩ := bcell hb1; have k0 := (q1 b _ hbw).trans h0; have k1 := (q1 b _ hbw).trans h1; have k2 := (q1 b _ hbw).trans h2; have k3 := (q1 b _ hbw).trans h3; have d0 := (q1 _ _ hg).trans c0; have d1 := (q1 _ _ hg).trans c1; have d2 := (q1 _ _ hg).trans c2; have d3 := (q1 _ _ hg).trans c3; have f1 := fun j => (q2 _ j hg).trans (hfr j); clear q1 q2))
      go_wp2
      go_roundw
      case rel => exact ⟨k + 1, by omega, by go_num, (hrow.of_block (hb1.block _ hg)).step hlt, below4 (hnx.drew.trans (hb1.mono (by exact Nat.le_of_lt hg))) _ _ _ _ _ _ _ _ (Nat.le_refl _)⟩
      case measure => simp [intOf]; omega
    · go_wp2
      go_ret
      have e : k = n := by omega
      subst e
      exact ⟨rfl, hrow, hnx⟩

/-- What toKeys and fromKeys hand back: a slice of the same keys. -/
def RetKeys (n : Nat) (K : Nat → HK) (e : Ending) (w' : World) : Prop := ∃ ao, e = .returned (.slice ao n n) ∧ IsKeys w' ao n K

theorem toKeys_any (ao : Option Addr) (n cap : Nat) (A : Nat → HK) (w : World) (h : IsKeys w ao n A) (hn : n ≤ 65536) :
    Calls Try.prog 15 #[.slice ao n cap] w fun e w' => RetKeys n A e w' ∧ Below w.heap.size w w' := by
  obtain ⟨hm, h⟩ := h
  by_cases h0 : 0 < n
  · obtain ⟨b, off, rfl, hb, hs⟩ := h h0
    refine (toKeys_some b off n cap A w hb hs hn).mono ?_
    rintro e w' ⟨rfl, hr, hbl⟩
    exact ⟨⟨_, rfl, hm, fun _ => ⟨_, _, rfl, hr.isKeys.2.1, hr.isKeys.2.2⟩⟩, hbl⟩
  · obtain rfl : n = 0 := by omega
    cases ao with
    | none =>
      have hnil := nil22
      clear h
      go_enter Try.func15, Try.ntmps15
      go_wp2
      go_ret
      exact ⟨⟨none, rfl, hm, fun h => by cases h⟩, Below.refl _ _⟩
    | some ad =>
      have hnil := nil22
      clear h
      obtain ⟨i0, hi, hz0, hz1, hz2⟩ := info_parts Try.info37
      go_enter Try.func15, Try.ntmps15
      go_wp2_with (at_make; refine wpList_make_full _ rfl _ _ 26 rfl w.heap.size 37 i0 _ 4 Try.underlying26 hi hz0 hz1 _ _ _ _ 0 rfl rfl rfl rfl ?b2 ?b3 (Nat.le_refl _) ?_)
      case b2 => rw [hz2]; omega
      case b3 => exact hm
      intro w0 hown0 hgrow0
      go_wp2
      refine wp_loop_rounds 1 ?_
      rw [rounds_succ]
      go_wp2
      go_ret
      exact ⟨⟨_, rfl, hm, fun h => by cases h⟩, (Below.refl _ _).grown hgrow0 (Nat.le_refl _) (fun k h => by cases h)⟩

end Go.Proofs.Qxb6604791a
