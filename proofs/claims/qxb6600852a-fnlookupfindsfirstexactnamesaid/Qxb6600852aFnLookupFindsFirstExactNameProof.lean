import Derived.Test.Qxb6600852aLaw
import Derived.SliceStrings
import Derived.ChangeMaps5
import Derived.ChangeOld
namespace Go.Proofs.Qxb6600852a.Lookup
open Go.ChangeShapes Go.WideShapes Go.ChangeAt Go.RowKit
open Go.ChangeMaps (open_string shut_string)
set_option linter.unusedVariables false

theorem own : ownKnob Try.prog.godebug = none := by kernel_rfl
theorem laidOut : laidOutB Try.prog = true := by kernel_rfl

theorem isStrs_of_row {w : World} {x : Addr} {len : Nat} {ss : List ByteArray} (hl : len ≤ ss.length) (hm : len ≤ maxLen) (hcell : ∀ i, i < ss.length → w.cell? (x.add i) = some (.string (ss.getD i ByteArray.empty))) :
    IsStrs w (some x) len (fun i => ss.getD i ByteArray.empty) := by
  refine ⟨hm, fun h0 => ?_⟩
  obtain ⟨b, off, spot⟩ := x
  have h00 := hcell 0 (by omega)
  have e0 : (⟨b, off, spot⟩ : Addr).add 0 = ⟨b, off, spot⟩ := by unfold Addr.add; simp
  rw [e0] at h00
  have hs : spot = none := World.cell?_spot (a := ⟨b, off, spot⟩) h00
  subst hs
  refine ⟨b, off, rfl, World.block_lt_of_cell? _ _ h00, fun i hi => ?_⟩
  have := hcell i (by omega)
  have e : (⟨b, off, none⟩ : Addr).add i = ⟨b, off + i, none⟩ := by unfold Addr.add; split <;> simp_all
  rwa [e] at this

section
variable {H : Type} {enc : TypeId × Value → H} {W : World} {base : Nat} {held : Bool}
theorem open_names {fuel : Nat} {a0 : Option Addr} {len cap : Nat} {x : DataW H × List MemPlace} (h : DataW.trod enc Try.prog W base (fun _ => true) held fuel 24 [.slice a0 len cap] = some x) :
    ∃ S, IsStrs W a0 len S := by
  rcases open_strings Try.underlying24 Try.underlying9 (by kernel_rfl) h with ⟨hcs, _⟩ | ⟨y, l, c, ss, hcs, _, hl, hm, hz, _, hcell, _⟩
  · simp at hcs
    obtain ⟨rfl, rfl, rfl⟩ := hcs
    exact ⟨fun _ => ByteArray.empty, Nat.zero_le _, fun h => absurd h (Nat.lt_irrefl _)⟩
  · simp at hcs
    obtain ⟨rfl, rfl, rfl⟩ := hcs
    have hz' : ss.length = cap := by simpa using hz
    exact ⟨_, isStrs_of_row (by omega) (by omega) hcell⟩
end

set_option maxRecDepth 100000 in
theorem lifted (os : Os) (started : os.Started) (H : Type) (enc : TypeId × Value → H) :
    ReturnsInHanded {} Try.checked os 4 .any (Rows.fnLookupFindsFirstExactNameSpec.pre6 enc Try.prog Try.f4 Rows.fnLookupFindsFirstExactNameRow.domain false) (Rows.fnLookupFindsFirstExactNameSpec.post enc Try.prog Try.f4 false true false false) := by
  refine returnsInHanded_of_change (C := Try.checked) own started (by kernel_rfl) Try.func4
    (ChangeSpec.witness6 (enc := enc) (C := Try.checked) false ⟨#[], #[.slice none 0 0, .slice none 0 0, .string ⟨#[]⟩], []⟩ 8 (by kernel_rfl) (by kernel_rfl) (by kernel_rfl) (by kernel_rfl)) ?_
  intro W base args ds gs before hval0 hW hcnd _
  have hval : ∀ (j : Nat) t v, Try.f4.params[j]? = some t → args[j]? = some v → Value.okWide Try.prog W .any base t v := hval0
  have hW' := hW
  obtain ⟨p, q, hA0, hV, rfl, hfz, hnd⟩ := hW
  have hA : DataW.TrodAll enc Try.prog W 0 (fun _ => true) true Try.f4.params.toList args.toList ds p := hA0
  rw [Try.params4] at hA hval
  obtain ⟨v0, vs0, d0, ds0, p0, q0, hargs, rfl, rfl, h0, r0⟩ := trodAll_cons hA
  obtain ⟨v1, vs1, d1, ds1, p1, q1, rfl, rfl, rfl, h1, r1⟩ := trodAll_cons r0
  obtain ⟨v2, vs2, d2, ds2, p2, q2, rfl, rfl, rfl, h2, r2⟩ := trodAll_cons r1
  obtain ⟨rfl, rfl, rfl⟩ := trodAll_nil r2
  obtain rfl : args = #[v0, v1, v2] := by cases args; simp_all
  obtain ⟨rfl, rfl⟩ := trodVars_none hV
  obtain ⟨a0, len0, cap0, rfl⟩ := okWide_slice Try.underlying24 (hval 0 24 v0 rfl rfl)
  have k0 := h0
  have lt0 : ∀ x ∈ p0, x.block < W.heap.size := by obtain ⟨m, hm⟩ := k0; exact DataW.trod_lt m _ _ _ hm
  obtain ⟨N, hN⟩ : ∃ S, IsStrs W a0 len0 S := by
    obtain ⟨fuel, hf⟩ := h0
    exact open_names hf
  obtain ⟨a1, len1, cap1, rfl⟩ := okWide_slice Try.underlying24 (hval 1 24 v1 rfl rfl)
  have k1 := h1
  have lt1 : ∀ x ∈ p1, x.block < W.heap.size := by obtain ⟨m, hm⟩ := k1; exact DataW.trod_lt m _ _ _ hm
  obtain ⟨T, hT⟩ : ∃ S, IsStrs W a1 len1 S := by
    obtain ⟨fuel, hf⟩ := h1
    exact open_names hf
  have k2 := h2
  have lt2 : ∀ x ∈ p2, x.block < W.heap.size := by obtain ⟨m, hm⟩ := k2; exact DataW.trod_lt m _ _ _ hm
  obtain ⟨s2, hs2⟩ : ∃ s, v2 = Value.string s := by
    obtain ⟨s, hs, _⟩ := open_string Try.underlying9 (hval 2 9 v2 rfl rfl) h2
    exact ⟨s, hs⟩
  subst hs2
  clear hA0 hval0
  refine (law_walk a0 a1 len0 len1 cap0 cap1 N T s2 W hN hT).mono fun e W' ⟨he, bel⟩ => ?_
  subst he
  exact ⟨_, rfl, _, _, _, [], _, [], hW', trodAll_mk1 (shut_bool Try.underlying4 _), (trodAll_cons_mk (Below.trod laidOut (by kernel_rfl) (of_decide_eq_true (by kernel_rfl)) k0 bel lt0) (trodAll_cons_mk (Below.trod laidOut (by kernel_rfl) (of_decide_eq_true (by kernel_rfl)) k1 bel lt1) (trodAll_cons_mk (Below.trod laidOut (by kernel_rfl) (of_decide_eq_true (by kernel_rfl)) k2 bel lt2) trodAll_mk0))), rfl, bel.frame _, fun h => by cases h⟩

theorem over : Rows.fnLookupFindsFirstExactNameRow.holds Try.pinned (OpenSpec.ofChange Rows.fnLookupFindsFirstExactNameSpec) :=
  OpenClaim.holds_of_wide 4 Try.f4 rfl rfl rfl rfl rfl rfl rfl ⟨rfl, rfl, rfl, rfl, rfl⟩ rfl rfl rfl rfl rfl (by kernel_rfl) Try.func4 (by kernel_rfl)
    (of_decide_eq_true (by kernel_rfl)) (by unfold Func.isWrapper; first | (rw [if_pos (by decide +kernel)]; kernel_rfl) | (rw [if_neg (by decide +kernel)]; exact ⟨rfl, rfl⟩))
    (fun os started H enc _ => lifted os started H enc)

end Go.Proofs.Qxb6600852a.Lookup
namespace Go.Proofs.Qxb6600852a
/-- THE STATEMENT -/
theorem lookup_proved : Rows.FnLookupFindsFirstExactNameSaid := Lookup.over
#print axioms lookup_proved
end Go.Proofs.Qxb6600852a
