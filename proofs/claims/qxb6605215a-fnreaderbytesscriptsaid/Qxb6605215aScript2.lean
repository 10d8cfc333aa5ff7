import Derived.Test.Qxb6605215aScript
namespace Go.Proofs.Qxb6605215a
open Go.ChangeShapes Go.WideShapes Go.ChangeAt Go.RowKit
set_option linter.unusedVariables false

set_option maxRecDepth 100000 in
set_option maxHeartbeats 4000000 in
theorem script_walk (ao bo : Option Addr) (n m c d : Nat) (S Z : Nat → Int) (w : World) (ha : IsI .u8 w w.heap.size ao n S) (hb : IsI .i64 w w.heap.size bo m Z) :
    Calls Try.prog 7 #[.slice ao n c, .slice bo m d] w fun e w' => e = .returned (.bool true) ∧ Below w.heap.size w w' := by
  have h14 := zzBytes14 ao bo n m c d w ha.1 hb.1
  by_cases hn : n ≤ 524288
  · by_cases hm : m ≤ 65536
    · exact script_in ao bo n m c d S Z w ha hb hn hm
    · go_enter Try.func7, Try.ntmps7
      go_wp2_with fail
      refine h14.mono ?_
      clear h14
      rintro e w1 ⟨⟨r, rfl⟩, rfl⟩
      cases r with
      | false =>
        go_wp2
        go_ret
        exact ⟨rfl, Below.refl _ _⟩
      | true =>
        go_wp2
        go_ret
        exact ⟨rfl, Below.refl _ _⟩
  · go_enter Try.func7, Try.ntmps7
    go_wp2_with fail
    refine h14.mono ?_
    clear h14
    rintro e w1 ⟨⟨r, rfl⟩, rfl⟩
    cases r with
    | false =>
      go_wp2
      go_ret
      exact ⟨rfl, Below.refl _ _⟩
    | true =>
      go_wp2
      go_ret
      exact ⟨rfl, Below.refl _ _⟩

/-- The shells' reading of a slice, put into this one's. -/
theorem isI_of_row {k : IntKind} {w : World} {x : Addr} {len cap : Nat} {zs : List Int} (hl : len ≤ zs.length) (hm : len ≤ maxLen) (hcell : ∀ i, i < zs.length → w.cell? (x.add i) = some (.int k (zs.getD i 0))) :
    IsI k w w.heap.size (some x) len (fun i => zs.getD i 0) := by
  refine ⟨hm, fun h0 => ?_⟩
  obtain ⟨b, off, spot⟩ := x
  have h00 := hcell 0 (by omega)
  have e0 : (⟨b, off, spot⟩ : Addr).add 0 = ⟨b, off, spot⟩ := by unfold Addr.add; simp
  rw [e0] at h00
  have hs : spot = none := World.cell?_spot (a := ⟨b, off, spot⟩) h00
  subst hs
  refine ⟨b, off, rfl, World.block_lt_of_cell? _ _ h00, fun i hi => ?_⟩
  have := hcell i (by omega)
  have e : (⟨b, off, none⟩ : Addr).add i = ⟨b, off + i, none⟩ := by unfold Addr.add; split <;> simp_all
  rwa [e] at this

end Go.Proofs.Qxb6605215a
