import Derived.Test.Qxb6600852aItoa
import Derived.Deep.RegionHeld3
namespace Go.Proofs.Qxb6600852a
open Go.ChangeShapes Go.WideShapes Go.ChangeAt Go.RowKit
set_option linter.unusedVariables false

theorem Try.info9 : (Try.prog.info? 9).map (fun i => (i.zero, i.size, i.bytes)) = some (some (.string ⟨#[]⟩), 1, 16) := by kernel_rfl
theorem Try.info30 : (Try.prog.info? 30).map (fun i => (i.zero, i.size, i.bytes)) = some (some (.agg #[.string ⟨#[]⟩, .string ⟨#[]⟩, .string ⟨#[]⟩, .slice none 0 0, .bool false, .slice none 0 0]), 6, 104) := by kernel_rfl

theorem nil24 : ∀ (w : World) (a : Option Addr) (n c n' c' : Nat), (binOp .eql 24 (.slice a n c) (.slice none n' c')).run Try.prog w = .ok (.bool a.isNone) w := fun w a n c n' c' => Lib.run_eql_slice_nil w _ _ a n c n' c' Try.underlying24

theorem bcell {W w1 : World} (hb : Below W.heap.size W w1) : (∀ b o, b < W.heap.size → w1.cell? ⟨b, o, none⟩ = W.cell? ⟨b, o, none⟩) ∧ (∀ b o, b < W.heap.size → w1.frozen? ⟨b, o, none⟩ = W.frozen? ⟨b, o, none⟩) :=
  ⟨fun b o h => hb.cell (p := ⟨b, o, none⟩) h, fun b o h => hb.frozen (p := ⟨b, o, none⟩) h⟩

theorem IsStrs.kept {w w' : World} {ao : Option Addr} {n : Nat} {S : Nat → ByteArray} (h : IsStrs w ao n S) (hb : Below w.heap.size w w') : IsStrs w' ao n S := by
  refine ⟨h.1, fun h0 => ?_⟩
  obtain ⟨b, off, hao, hlt, hs⟩ := h.2 h0
  exact ⟨b, off, hao, Nat.lt_of_lt_of_le hlt hb.size, fun i hi => (hb.cell (p := ⟨b, off + i, none⟩) hlt).trans (hs i hi)⟩

/-- The first k of n strings in the row of block g. -/
def SRow (w : World) (g n k : Nat) (S : Nat → ByteArray) : Prop :=
  ∃ xs, w.ownsRow g 9 1 (.slice (some ⟨g, 0, none⟩) n n) n xs ∧ ∀ i, i < k → xs[i]? = some (.string (S i))

theorem SRow.cells {w : World} {g n k : Nat} {S : Nat → ByteArray} (h : SRow w g n k S) {i : Nat} (hi : i < n) : (∃ v, w.cell? ⟨g, i, none⟩ = some v) ∧ ∀ j, w.frozen? ⟨g, j, none⟩ = false := by
  obtain ⟨xs, ho, _⟩ := h
  have hl := ho.1
  refine ⟨⟨xs[i], ?_⟩, fun j => ho.frozenAt j⟩
  rw [ho.cellAt _ (by omega)]
  simp
theorem SRow.step {w : World} {g n k : Nat} {S : Nat → ByteArray} (h : SRow w g n k S) (hlt : k < n) : SRow (w.setCell ⟨g, k, none⟩ (.string (S k))) g n (k + 1) S := by
  obtain ⟨xs, ho, hx⟩ := h
  have hl := ho.1
  refine ⟨_, (ho.stored k _).1, fun i hi => ?_⟩
  rw [List.getElem?_set]
  by_cases e : k = i
  · subst e; rw [if_pos rfl, if_pos (by omega)]
  · rw [if_neg e]; exact hx i (by omega)
theorem SRow.isStrs {w : World} {g n : Nat} {S : Nat → ByteArray} (h : SRow w g n n S) : IsStrs w (some ⟨g, 0, none⟩) n S := by
  obtain ⟨xs, ho, hx⟩ := h
  refine ⟨?_, fun h0 => ⟨g, 0, rfl, (ho.lt _ rfl).2, fun i hi => ?_⟩⟩
  · rcases ho.2 with ⟨h1, _⟩ | ⟨g', cap, cur, h1, h2, h3, h4, h5, r⟩
    · cases h1
    · omega
  · rw [Nat.zero_add, ho.cellAt _ (by omega), hx i hi]

/-- It hands back a slice of these strings. -/
def RetStrs (n : Nat) (S : Nat → ByteArray) (e : Ending) (w' : World) : Prop := ∃ ao, e = .returned (.slice ao n n) ∧ IsStrs w' ao n S

set_option maxRecDepth 100000 in
set_option maxHeartbeats 4000000 in
theorem clone_some (ad : Addr) (n cap : Nat) (S : Nat → ByteArray) (w : World) (h : IsStrs w (some ad) n S) (hn : n ≤ 65536) :
    Calls Try.prog 10 #[.slice (some ad) n cap] w fun e w' => RetStrs n S e w' ∧ Below w.heap.size w w' := by
  obtain ⟨hm, h⟩ := h
  obtain ⟨i0, hi, hz0, hz1, hz2⟩ := info_parts Try.info9
  have hnil := nil24
  go_enter Try.func10, Try.ntmps10
  go_wp2_with (at_make; refine wpList_make_full _ rfl _ _ 24 rfl w.heap.size 9 i0 _ 1 Try.underlying24 hi hz0 hz1 _ _ _ _ n rfl rfl rfl rfl ?b2 ?b3 (Nat.le_refl _) ?_)
  case b2 => rw [hz2]; omega
  case b3 => exact hm
  intro w0 hown0 hgrow0
  go_wp2
  go_loopw [4] (fun i wr => ∃ k : Nat, k ≤ n ∧ i = .int .i64 k ∧ SRow wr w.heap.size n k S ∧ Below w.heap.size w wr) (fun i _ => n - (intOf i).toNat)
  case atStart => exact ⟨0, Nat.zero_le _, rfl, ⟨_, hown0, fun i hi => absurd hi (Nat.not_lt_zero _)⟩, (Below.refl _ _).grown hgrow0 (Nat.le_refl _) (fun k h => by cases h)⟩
  case round =>
    obtain ⟨k, hk, rfl, hrow, hnx⟩ := hrel
    by_cases hlt : k < n
    · obtain ⟨b, off, he, hb, hs⟩ := h (by omega)
      obtain rfl : ad = ⟨b, off, none⟩ := Option.some.inj he
      have h0 := hs k hlt
      rw [← hnx.cell (p := ⟨b, off + k, none⟩) hb] at h0
      obtain ⟨⟨v, hv⟩, hfr⟩ := hrow.cells hlt
      have hne : ¬ b = w.heap.size := by omega
      clear hs hown0 hgrow0 h he
      go_wp2
      go_roundw
      case rel => exact ⟨k + 1, by omega, by go_num, hrow.step hlt, hnx.setCell (p := ⟨w.heap.size, k, none⟩) (Nat.le_refl _) _⟩
      case measure => simp [intOf]; omega
    · go_wp2
      go_ret
      have e : k = n := by omega
      subst e
      exact ⟨⟨_, rfl, hrow.isStrs⟩, hnx⟩

theorem clone_any (ao : Option Addr) (n cap : Nat) (S : Nat → ByteArray) (w : World) (h : IsStrs w ao n S) (hn : n ≤ 65536) :
    Calls Try.prog 10 #[.slice ao n cap] w fun e w' => RetStrs n S e w' ∧ Below w.heap.size w w' := by
  cases ao with
  | some ad => exact clone_some ad n cap S w h hn
  | none =>
    obtain rfl : n = 0 := by
      by_cases h0 : 0 < n
      · obtain ⟨b, off, e, _⟩ := h.2 h0; cases e
      · omega
    have hnil := nil24
    go_enter Try.func10, Try.ntmps10
    go_wp2
    go_ret
    exact ⟨⟨none, rfl, h⟩, Below.refl _ _⟩

end Go.Proofs.Qxb6600852a
