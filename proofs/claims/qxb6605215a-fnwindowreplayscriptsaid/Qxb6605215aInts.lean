/-
  Slices of numbers: what the walks are told of them, the clones, the compare.
-/
import Derived.Test.Qxb6605215aLeaves
import Derived.Deep.RegionHeld3
namespace Go.Proofs.Qxb6605215a
open Go.ChangeShapes Go.WideShapes Go.ChangeAt Go.RowKit
set_option linter.unusedVariables false

/-- The slice's n numbers are S, and they lie in a block below B. -/
def IsI (k : IntKind) (w : World) (B : Nat) (ao : Option Addr) (n : Nat) (S : Nat → Int) : Prop :=
  n ≤ maxLen ∧ (0 < n → ∃ b off, ao = some ⟨b, off, none⟩ ∧ b < B ∧ ∀ i, i < n → w.cell? ⟨b, off + i, none⟩ = some (.int k (S i)))

theorem IsI.kept {k : IntKind} {w w' : World} {B : Nat} {ao : Option Addr} {n : Nat} {S : Nat → Int} (h : IsI k w B ao n S) (hb : Below B w w') : IsI k w' B ao n S := by
  refine ⟨h.1, fun h0 => ?_⟩
  obtain ⟨b, off, hao, hlt, hs⟩ := h.2 h0
  exact ⟨b, off, hao, hlt, fun i hi => (hb.cell (p := ⟨b, off + i, none⟩) hlt).trans (hs i hi)⟩
theorem IsI.up {k : IntKind} {w : World} {B B' : Nat} {ao : Option Addr} {n : Nat} {S : Nat → Int} (h : IsI k w B ao n S) (hb : B ≤ B') : IsI k w B' ao n S := by
  refine ⟨h.1, fun h0 => ?_⟩
  obtain ⟨b, off, hao, hlt, hs⟩ := h.2 h0
  exact ⟨b, off, hao, by omega, hs⟩

/-- The first k of n numbers in the row of block g. -/
def IRow (E : TypeId) (kd : IntKind) (w : World) (g n k : Nat) (S : Nat → Int) : Prop :=
  ∃ xs, w.ownsRow g E 1 (.slice (some ⟨g, 0, none⟩) n n) n xs ∧ ∀ i, i < k → xs[i]? = some (.int kd (S i))

section
variable {E : TypeId} {kd : IntKind} {w : World} {g n k : Nat} {S : Nat → Int}
theorem IRow.cells (h : IRow E kd w g n k S) {i : Nat} (hi : i < n) : (∃ v, w.cell? ⟨g, i, none⟩ = some v) ∧ ∀ j, w.frozen? ⟨g, j, none⟩ = false := by
  obtain ⟨xs, ho, _⟩ := h
  have hl := ho.1
  refine ⟨⟨xs[i], ?_⟩, fun j => ho.frozenAt j⟩
  rw [ho.cellAt _ (by omega)]
  simp
theorem IRow.step (h : IRow E kd w g n k S) (hlt : k < n) : IRow E kd (w.setCell ⟨g, k, none⟩ (.int kd (S k))) g n (k + 1) S := by
  obtain ⟨xs, ho, hx⟩ := h
  have hl := ho.1
  refine ⟨_, (ho.stored k _).1, fun i hi => ?_⟩
  rw [List.getElem?_set]
  by_cases e : k = i
  · subst e; rw [if_pos rfl, if_pos (by omega)]
  · rw [if_neg e]; exact hx i (by omega)
theorem IRow.isI (h : IRow E kd w g n n S) : IsI kd w w.heap.size (some ⟨g, 0, none⟩) n S := by
  obtain ⟨xs, ho, hx⟩ := h
  refine ⟨?_, fun h0 => ⟨g, 0, rfl, (ho.lt _ rfl).2, fun i hi => ?_⟩⟩
  · rcases ho.2 with ⟨h1, _⟩ | ⟨g', cap, cur, h1, h2, h3, h4, h5, r⟩
    · cases h1
    · omega
  · rw [Nat.zero_add, ho.cellAt _ (by omega), hx i hi]
end

/-- It hands back a slice of these numbers. -/
def RetInts (kd : IntKind) (n : Nat) (S : Nat → Int) (e : Ending) (w' : World) : Prop := ∃ ao, e = .returned (.slice ao n n) ∧ IsI kd w' w'.heap.size ao n S


theorem Try.info5 : (Try.prog.info? 5).map (fun i => (i.zero, i.size, i.bytes)) = some (some (.int .u8 0), 1, 1) := by kernel_rfl
theorem nil32 : ∀ (w : World) (a : Option Addr) (n c n' c' : Nat), (binOp .eql 32 (.slice a n c) (.slice none n' c')).run Try.prog w = .ok (.bool a.isNone) w := fun w a n c n' c' => Lib.run_eql_slice_nil w _ _ a n c n' c' Try.underlying32

set_option maxRecDepth 100000 in
set_option maxHeartbeats 4000000 in
theorem clone32_some (ad : Addr) (n cap : Nat) (S : Nat → Int) (w : World) (h : IsI .u8 w w.heap.size (some ad) n S) (hn : n ≤ 1048576) :
    Calls Try.prog 15 #[.slice (some ad) n cap] w fun e w' => RetInts .u8 n S e w' ∧ Below w.heap.size w w' := by
  obtain ⟨hm, h⟩ := h
  obtain ⟨i0, hi, hz0, hz1, hz2⟩ := info_parts Try.info5
  have hnil := nil32
  go_enter Try.func15, Try.ntmps15
  go_wp2_with (at_make; refine wpList_make_full _ rfl _ _ 32 rfl w.heap.size 5 i0 _ 1 Try.underlying32 hi hz0 hz1 _ _ _ _ n rfl rfl rfl rfl ?b2 ?b3 (Nat.le_refl _) ?_)
  case b2 => rw [hz2]; omega
  case b3 => exact hm
  intro w0 hown0 hgrow0
  go_wp2
  go_loopw [4] (fun i wr => ∃ k : Nat, k ≤ n ∧ i = .int .i64 k ∧ IRow 5 .u8 wr w.heap.size n k S ∧ Below w.heap.size w wr) (fun i _ => n - (intOf i).toNat)
  case atStart => exact ⟨0, Nat.zero_le _, rfl, ⟨_, hown0, fun i hi => absurd hi (Nat.not_lt_zero _)⟩, (Below.refl _ _).grown hgrow0 (Nat.le_refl _) (fun k h => by cases h)⟩
  case round =>
    obtain ⟨k, hk, rfl, hrow, hnx⟩ := hrel
    by_cases hlt : k < n
    · obtain ⟨b, off, he, hb, hs⟩ := h (by omega)
      obtain rfl : ad = ⟨b, off, none⟩ := Option.some.inj he
      have h0 := hs k hlt
      rw [← hnx.cell (p := ⟨b, off + k, none⟩) hb] at h0
      obtain ⟨⟨v, hv⟩, hfr⟩ := hrow.cells hlt
      have hne : ¬ b = w.heap.size := by omega
      clear hs hown0 hgrow0 h he
      go_wp2
      go_roundw
      case rel => exact ⟨k + 1, by omega, by go_num, hrow.step hlt, hnx.setCell (p := ⟨w.heap.size, k, none⟩) (Nat.le_refl _) _⟩
      case measure => simp [intOf]; omega
    · go_wp2
      go_ret
      have e : k = n := by omega
      subst e
      exact ⟨⟨_, rfl, hrow.isI⟩, hnx⟩

theorem clone32_any (ao : Option Addr) (n cap : Nat) (S : Nat → Int) (w : World) (h : IsI .u8 w w.heap.size ao n S) (hn : n ≤ 1048576) :
    Calls Try.prog 15 #[.slice ao n cap] w fun e w' => RetInts .u8 n S e w' ∧ Below w.heap.size w w' := by
  cases ao with
  | some ad => exact clone32_some ad n cap S w h hn
  | none =>
    obtain rfl : n = 0 := by
      by_cases h0 : 0 < n
      · obtain ⟨b, off, e, _⟩ := h.2 h0; cases e
      · omega
    have hnil := nil32
    go_enter Try.func15, Try.ntmps15
    go_wp2
    go_ret
    exact ⟨⟨none, rfl, h⟩, Below.refl _ _⟩

theorem Try.info3 : (Try.prog.info? 3).map (fun i => (i.zero, i.size, i.bytes)) = some (some (.int .i64 0), 1, 8) := by kernel_rfl
theorem nil33 : ∀ (w : World) (a : Option Addr) (n c n' c' : Nat), (binOp .eql 33 (.slice a n c) (.slice none n' c')).run Try.prog w = .ok (.bool a.isNone) w := fun w a n c n' c' => Lib.run_eql_slice_nil w _ _ a n c n' c' Try.underlying33

set_option maxRecDepth 100000 in
set_option maxHeartbeats 4000000 in
theorem clone33_some (ad : Addr) (n cap : Nat) (S : Nat → Int) (w : World) (h : IsI .i64 w w.heap.size (some ad) n S) (hn : n ≤ 1048576) :
    Calls Try.prog 16 #[.slice (some ad) n cap] w fun e w' => RetInts .i64 n S e w' ∧ Below w.heap.size w w' := by
  obtain ⟨hm, h⟩ := h
  obtain ⟨i0, hi, hz0, hz1, hz2⟩ := info_parts Try.info3
  have hnil := nil33
  go_enter Try.func16, Try.ntmps16
  go_wp2_with (at_make; refine wpList_make_full _ rfl _ _ 33 rfl w.heap.size 3 i0 _ 1 Try.underlying33 hi hz0 hz1 _ _ _ _ n rfl rfl rfl rfl ?b2 ?b3 (Nat.le_refl _) ?_)
  case b2 => rw [hz2]; omega
  case b3 => exact hm
  intro w0 hown0 hgrow0
  go_wp2
  go_loopw [4] (fun i wr => ∃ k : Nat, k ≤ n ∧ i = .int .i64 k ∧ IRow 3 .i64 wr w.heap.size n k S ∧ Below w.heap.size w wr) (fun i _ => n - (intOf i).toNat)
  case atStart => exact ⟨0, Nat.zero_le _, rfl, ⟨_, hown0, fun i hi => absurd hi (Nat.not_lt_zero _)⟩, (Below.refl _ _).grown hgrow0 (Nat.le_refl _) (fun k h => by cases h)⟩
  case round =>
    obtain ⟨k, hk, rfl, hrow, hnx⟩ := hrel
    by_cases hlt : k < n
    · obtain ⟨b, off, he, hb, hs⟩ := h (by omega)
      obtain rfl : ad = ⟨b, off, none⟩ := Option.some.inj he
      have h0 := hs k hlt
      rw [← hnx.cell (p := ⟨b, off + k, none⟩) hb] at h0
      obtain ⟨⟨v, hv⟩, hfr⟩ := hrow.cells hlt
      have hne : ¬ b = w.heap.size := by omega
      clear hs hown0 hgrow0 h he
      go_wp2
      go_roundw
      case rel => exact ⟨k + 1, by omega, by go_num, hrow.step hlt, hnx.setCell (p := ⟨w.heap.size, k, none⟩) (Nat.le_refl _) _⟩
      case measure => simp [intOf]; omega
    · go_wp2
      go_ret
      have e : k = n := by omega
      subst e
      exact ⟨⟨_, rfl, hrow.isI⟩, hnx⟩

theorem clone33_any (ao : Option Addr) (n cap : Nat) (S : Nat → Int) (w : World) (h : IsI .i64 w w.heap.size ao n S) (hn : n ≤ 1048576) :
    Calls Try.prog 16 #[.slice ao n cap] w fun e w' => RetInts .i64 n S e w' ∧ Below w.heap.size w w' := by
  cases ao with
  | some ad => exact clone33_some ad n cap S w h hn
  | none =>
    obtain rfl : n = 0 := by
      by_cases h0 : 0 < n
      · obtain ⟨b, off, e, _⟩ := h.2 h0; cases e
      · omega
    have hnil := nil33
    go_enter Try.func16, Try.ntmps16
    go_wp2
    go_ret
    exact ⟨⟨none, rfl, h⟩, Below.refl _ _⟩

theorem Try.info22 : (Try.prog.info? 22).map (fun i => (i.zero, i.size, i.bytes)) = some (some (.int .u64 0), 1, 8) := by kernel_rfl
theorem nil28 : ∀ (w : World) (a : Option Addr) (n c n' c' : Nat), (binOp .eql 28 (.slice a n c) (.slice none n' c')).run Try.prog w = .ok (.bool a.isNone) w := fun w a n c n' c' => Lib.run_eql_slice_nil w _ _ a n c n' c' Try.underlying28

set_option maxRecDepth 100000 in
set_option maxHeartbeats 4000000 in
theorem clone28_some (ad : Addr) (n cap : Nat) (S : Nat → Int) (w : World) (h : IsI .u64 w w.heap.size (some ad) n S) (hn : n ≤ 1048576) :
    Calls Try.prog 12 #[.slice (some ad) n cap] w fun e w' => RetInts .u64 n S e w' ∧ Below w.heap.size w w' := by
  obtain ⟨hm, h⟩ := h
  obtain ⟨i0, hi, hz0, hz1, hz2⟩ := info_parts Try.info22
  have hnil := nil28
  go_enter Try.func12, Try.ntmps12
  go_wp2_with (at_make; refine wpList_make_full _ rfl _ _ 28 rfl w.heap.size 22 i0 _ 1 Try.underlying28 hi hz0 hz1 _ _ _ _ n rfl rfl rfl rfl ?b2 ?b3 (Nat.le_refl _) ?_)
  case b2 => rw [hz2]; omega
  case b3 => exact hm
  intro w0 hown0 hgrow0
  go_wp2
  go_loopw [4] (fun i wr => ∃ k : Nat, k ≤ n ∧ i = .int .i64 k ∧ IRow 22 .u64 wr w.heap.size n k S ∧ Below w.heap.size w wr) (fun i _ => n - (intOf i).toNat)
  case atStart => exact ⟨0, Nat.zero_le _, rfl, ⟨_, hown0, fun i hi => absurd hi (Nat.not_lt_zero _)⟩, (Below.refl _ _).grown hgrow0 (Nat.le_refl _) (fun k h => by cases h)⟩
  case round =>
    obtain ⟨k, hk, rfl, hrow, hnx⟩ := hrel
    by_cases hlt : k < n
    · obtain ⟨b, off, he, hb, hs⟩ := h (by omega)
      obtain rfl : ad = ⟨b, off, none⟩ := Option.some.inj he
      have h0 := hs k hlt
      rw [← hnx.cell (p := ⟨b, off + k, none⟩) hb] at h0
      obtain ⟨⟨v, hv⟩, hfr⟩ := hrow.cells hlt
      have hne : ¬ b = w.heap.size := by omega
      clear hs hown0 hgrow0 h he
      go_wp2
      go_roundw
      case rel => exact ⟨k + 1, by omega, by go_num, hrow.step hlt, hnx.setCell (p := ⟨w.heap.size, k, none⟩) (Nat.le_refl _) _⟩
      case measure => simp [intOf]; omega
    · go_wp2
      go_ret
      have e : k = n := by omega
      subst e
      exact ⟨⟨_, rfl, hrow.isI⟩, hnx⟩

theorem clone28_any (ao : Option Addr) (n cap : Nat) (S : Nat → Int) (w : World) (h : IsI .u64 w w.heap.size ao n S) (hn : n ≤ 1048576) :
    Calls Try.prog 12 #[.slice ao n cap] w fun e w' => RetInts .u64 n S e w' ∧ Below w.heap.size w w' := by
  cases ao with
  | some ad => exact clone28_some ad n cap S w h hn
  | none =>
    obtain rfl : n = 0 := by
      by_cases h0 : 0 < n
      · obtain ⟨b, off, e, _⟩ := h.2 h0; cases e
      · omega
    have hnil := nil28
    go_enter Try.func12, Try.ntmps12
    go_wp2
    go_ret
    exact ⟨⟨none, rfl, h⟩, Below.refl _ _⟩

/-- Two slices of the same bytes are the same. -/
theorem same_any (ao bo : Option Addr) (n c c' : Nat) (S : Nat → Int) (B : Nat) (w : World) (ha : IsI .u8 w B ao n S) (hb : IsI .u8 w B bo n S) :
    Calls Try.prog 18 #[.slice ao n c, .slice bo n c'] w fun e w' => e = .returned (.bool true) ∧ Below w.heap.size w w' := by
  have hm := ha.1
  have hm' : n < 9223372036854775808 := by unfold maxLen at hm; omega
  clear hm
  go_enter Try.func18, Try.ntmps18
  go_wp2
  go_loopw [5] (fun i wr => ∃ k : Nat, k ≤ n ∧ i = .int .i64 k ∧ Below w.heap.size w wr ∧ Below B w wr) (fun i _ => n - (intOf i).toNat)
  case atStart => exact ⟨0, Nat.zero_le _, rfl, Below.refl _ _, Below.refl _ _⟩
  case round =>
    obtain ⟨k, hk, rfl, hbe, hbe2⟩ := hrel
    by_cases hlt : k < n
    · obtain ⟨b, off, rfl, hb1, hs1⟩ := ha.2 (by omega)
      obtain ⟨b', off', rfl, hb2, hs2⟩ := hb.2 (by omega)
      have h1 := hs1 k hlt
      have h2 := hs2 k hlt
      rw [← hbe2.cell (p := ⟨b, off + k, none⟩) hb1] at h1
      rw [← hbe2.cell (p := ⟨b', off' + k, none⟩) hb2] at h2
      clear hs1 hs2 ha hb
      go_wp2
      go_quiet (fail)
      go_wp2
      go_roundw
      case rel => exact ⟨k + 1, by omega, by go_num, below_drewN hbe _, below_drewN hbe2 _⟩
      case measure => simp [intOf]; omega
    · go_wp2
      go_ret
      exact ⟨rfl, hbe⟩

end Go.Proofs.Qxb6605215a
