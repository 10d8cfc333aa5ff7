import Derived.Test.Qxb6604791aCopies
namespace Go.Proofs.Qxb6604791a
open Go.ChangeShapes Go.WideShapes Go.ChangeAt Go.RowKit

set_option maxRecDepth 100000 in
set_option maxHeartbeats 4000000 in
theorem fromKeys_some (b off n cap : Nat) (A : Nat → HK) (w : World) (hb : b < w.heap.size) (hs : Seg w b off n A) (hn : n ≤ 131072) :
    Calls Try.prog 13 #[.slice (some ⟨b, off, none⟩) n cap] w fun e w' => e = .returned (.slice (some ⟨w.heap.size, 0, none⟩) n n) ∧ Row w' w.heap.size 32 n n A ∧ Below w.heap.size w w' := by
  obtain ⟨i0, hi, hz0, hz1, hz2⟩ := info_parts Try.info32
  go_enter Try.func13, Try.ntmps13
  go_wp2_with (at_make; refine wpList_make_full _ rfl _ _ 22 rfl w.heap.size 32 i0 _ 4 Try.underlying22 hi hz0 hz1 _ _ _ _ n rfl rfl rfl rfl ?b2 ?b3 (Nat.le_refl _) ?_)
  case b2 => rw [hz2]; omega
  case b3 => unfold maxLen; omega
  intro w0 hown0 hgrow0
  go_wp2
  go_loopw [4] (fun i wr => ∃ k : Nat, k ≤ n ∧ i = .int .i64 k ∧ Row wr w.heap.size 32 n k A ∧ Below w.heap.size w wr) (fun i _ => n - (intOf i).toNat)
  case atStart => exact ⟨0, Nat.zero_le _, rfl, ⟨_, hown0, fun i hi => absurd hi (Nat.not_lt_zero _)⟩, (Below.refl _ _).grown hgrow0 (Nat.le_refl _) (fun k h => by cases h)⟩
  case round =>
    obtain ⟨k, hk, rfl, hrow, hnx⟩ := hrel
    by_cases hlt : k < n
    · have hg : w.heap.size < wr.heap.size := by obtain ⟨xs, ho, _⟩ := hrow; exact (ho.lt _ rfl).2
      obtain ⟨h0, h1, h2, h3⟩ := hs k hlt
      rw [← hnx.cell (p := ⟨b, off + k * 4, none⟩) hb] at h0
      rw [← hnx.cell (p := ⟨b, off + k * 4 + 1, none⟩) hb] at h1
      rw [← hnx.cell (p := ⟨b, off + k * 4 + 2, none⟩) hb] at h2
      rw [← hnx.cell (p := ⟨b, off + k * 4 + 3, none⟩) hb] at h3
      obtain ⟨⟨v0, v1, v2, v3, c0, c1, c2, c3⟩, hfr⟩ := hrow.cells hlt
      have hbw : b < wr.heap.size := by omega
      clear hs hown0 hgrow0
      go_wp2_with fail
      refine (fields_any _ _ _ _ _).mono ?_
      rintro e w1 ⟨rfl, hb1⟩
      obtain ⟨q1, q2⟩ := bcell hb1
      have d0 := (q1 _ _ hg).trans c0
      have d1 := (q1 _ _ hg).trans c1
      have d2 := (q1 _ _ hg).trans c2
      have d3 := (q1 _ _ hg).trans c3
      have f1 := fun j => (q2 _ j hg).trans (hfr j)
      clear q1 q2
      go_wp2
      go_roundw
      case rel => exact ⟨k + 1, by omega, by go_num, (hrow.of_block (hb1.block _ hg)).step hlt, below4 (hnx.trans (hb1.mono (by exact Nat.le_of_lt hg))) _ _ _ _ _ _ _ _ (Nat.le_refl _)⟩
      case measure => simp [intOf]; omega
    · go_wp2
      go_ret
      have e : k = n := by omega
      subst e
      exact ⟨rfl, hrow, hnx⟩

theorem fromKeys_any (ao : Option Addr) (n cap : Nat) (A : Nat → HK) (w : World) (h : IsKeys w ao n A) (hn : n ≤ 131072) :
    Calls Try.prog 13 #[.slice ao n cap] w fun e w' => RetKeys n A e w' ∧ Below w.heap.size w w' := by
  obtain ⟨hm, h⟩ := h
  by_cases h0 : 0 < n
  · obtain ⟨b, off, rfl, hb, hs⟩ := h h0
    refine (fromKeys_some b off n cap A w hb hs hn).mono ?_
    rintro e w' ⟨rfl, hr, hbl⟩
    exact ⟨⟨_, rfl, hm, fun _ => ⟨_, _, rfl, hr.isKeys.2.1, hr.isKeys.2.2⟩⟩, hbl⟩
  · obtain rfl : n = 0 := by omega
    clear h
    obtain ⟨i0, hi, hz0, hz1, hz2⟩ := info_parts Try.info32
    go_enter Try.func13, Try.ntmps13
    go_wp2_with (at_make; refine wpList_make_full _ rfl _ _ 22 rfl w.heap.size 32 i0 _ 4 Try.underlying22 hi hz0 hz1 _ _ _ _ 0 rfl rfl rfl rfl ?b2 ?b3 (Nat.le_refl _) ?_)
    case b2 => rw [hz2]; omega
    case b3 => exact hm
    intro w0 hown0 hgrow0
    go_wp2
    refine wp_loop_rounds 1 ?_
    rw [rounds_succ]
    go_wp2
    go_ret
    exact ⟨⟨_, rfl, hm, fun h => by cases h⟩, (Below.refl _ _).grown hgrow0 (Nat.le_refl _) (fun k h => by cases h)⟩

end Go.Proofs.Qxb6604791a
