import Derived.Test.Qxb6605215aReplay
namespace Go.Proofs.Qxb6605215a
open Go.ChangeShapes Go.WideShapes Go.ChangeAt Go.RowKit
set_option linter.unusedVariables false

set_option maxRecDepth 100000 in
set_option maxHeartbeats 4000000 in
theorem replay_walk (ao : Option Addr) (n c : Nat) (Q : Nat → Nat) (w : World) (hQ : ∀ i, i < n → Q i < M64) (ha : IsI .u64 w w.heap.size ao n (fun i => (Q i : Int))) :
    Calls Try.prog 6 #[.slice ao n c] w fun e w' => e = .returned (.bool true) ∧ Below w.heap.size w w' := by
  have h11 := zzBytes11 ao n c w ha.1
  by_cases hn : n ≤ 4096
  · exact replay_in ao n c Q w hQ ha hn
  · go_enter Try.func6, Try.ntmps6
    go_wp2_with fail
    refine h11.mono ?_
    clear h11
    rintro e w1 ⟨⟨r, rfl⟩, rfl⟩
    cases r with
    | false =>
      go_wp2
      go_ret
      exact ⟨rfl, Below.refl _ _⟩
    | true =>
      go_wp2
      go_ret
      exact ⟨rfl, Below.refl _ _⟩

theorem isI_of_row64 {w : World} {x : Addr} {len cap : Nat} {zs : List Int} (hl : len ≤ zs.length) (hm : len ≤ maxLen) (hcell : ∀ i, i < zs.length → w.cell? (x.add i) = some (.int .u64 (zs.getD i 0))) (hwf : ∀ n ∈ zs, (Lit.int .u64 n).wf = true) :
    ∃ Q : Nat → Nat, (∀ i, i < len → Q i < M64) ∧ IsI .u64 w w.heap.size (some x) len (fun i => (Q i : Int)) := by
  have hb : ∀ i, i < len → 0 ≤ zs.getD i 0 ∧ zs.getD i 0 ≤ 18446744073709551615 := fun i hi => by
    refine bounds_u64 (hwf _ ?_)
    rw [List.getD_eq_getElem?_getD, List.getElem?_eq_getElem (by omega)]
    exact List.getElem_mem _
  refine ⟨fun i => (zs.getD i 0).toNat, fun i hi => ?_, hm, fun h0 => ?_⟩
  · have := hb i hi
    show (zs.getD i 0).toNat < M64
    rw [M64_eq]; omega
  · obtain ⟨b, off, spot⟩ := x
    have h00 := hcell 0 (by omega)
    have e0 : (⟨b, off, spot⟩ : Addr).add 0 = ⟨b, off, spot⟩ := by unfold Addr.add; simp
    rw [e0] at h00
    have hs : spot = none := World.cell?_spot (a := ⟨b, off, spot⟩) h00
    subst hs
    refine ⟨b, off, rfl, World.block_lt_of_cell? _ _ h00, fun i hi => ?_⟩
    have := hcell i (by omega)
    have e : (⟨b, off, none⟩ : Addr).add i = ⟨b, off + i, none⟩ := by unfold Addr.add; split <;> simp_all
    rw [e] at this
    rw [this]
    have := hb i hi
    show some (Value.int .u64 _) = some (Value.int .u64 (((zs.getD i 0).toNat : Nat) : Int))
    rw [Int.toNat_of_nonneg this.1]

end Go.Proofs.Qxb6605215a
