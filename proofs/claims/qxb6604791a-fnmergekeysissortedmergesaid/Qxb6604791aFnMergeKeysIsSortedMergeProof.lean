import Derived.Test.Qxb6604791aOrder
import Derived.Test.Qxb6604791aMerge
import Derived.Test.Qxb6604791aFrom
import Derived.Test.Qxb6604791aSizes
import Derived.Test.Qxb6604791aOpenOk
namespace Go.Proofs.Qxb6604791a.Smerge
open Go.ChangeShapes Go.WideShapes Go.ChangeAt Go.RowKit

theorem ok_at {ks : List HK} (h : ∀ k ∈ ks, k.ok) : ∀ i, i < ks.length → (kAt ks i).ok := fun i hi => by
  have e : kAt ks i = ks[i] := by simp [kAt, hi]
  rw [e]
  exact h _ (List.getElem_mem hi)

theorem ok_mrg {LA LB : List HK} (ha : ∀ k ∈ LA, k.ok) (hb : ∀ k ∈ LB, k.ok) : ∀ k ∈ mrg LA LB, k.ok := fun k hk => by
  rcases List.mem_append.1 ((mrg_perm LA LB).mem_iff.1 hk) with h | h
  · exact ha k h
  · exact hb k h

theorem none_of {n : Nat} {K : Nat → HK} {w : World} {ao : Option Addr} (h : IsKeys w ao n K) : ao = .none → n = 0 := by
  intro e
  by_cases h0 : 0 < n
  · obtain ⟨b, off, hao, _⟩ := h.2 h0
    rw [e] at hao
    cases hao
  · omega

set_option maxHeartbeats 4000000 in
theorem walk (ao bo : Option Addr) (LA LB : List HK) (ca cb : Nat) (w : World) (ha : KeysAt w ao LA) (hb : KeysAt w bo LB) (oa : ∀ k ∈ LA, k.ok) (ob : ∀ k ∈ LB, k.ok) :
    Calls Try.prog 3 #[.slice ao LA.length ca, .slice bo LB.length cb] w fun e w' => e = .returned (.bool true) ∧ Below w.heap.size w w' := by
  go_enter Try.func3, Try.ntmps3
  go_wp2_with fail
  refine (zzBytesM_any ao bo LA.length LB.length ca cb (kAt LA) (kAt LB) w ha hb).mono ?_
  rintro e w0 ⟨⟨r, rfl, _⟩, rfl⟩
  cases r with
  | false =>
    go_wp2
    go_ret
    exact ⟨rfl, Below.refl _ _⟩
  | true =>
    go_wp2_with fail
    refine (mergeFits_any ao bo LA.length LB.length ca cb (kAt LA) (kAt LB) w ha hb).mono ?_
    rintro e w0 ⟨⟨r, rfl, hf⟩, rfl⟩
    cases r with
    | false =>
      go_wp2
      go_ret
      exact ⟨rfl, Below.refl _ _⟩
    | true =>
      obtain ⟨h1, h2⟩ := hf rfl
      clear hf
      go_wp2_with fail
      refine (sortedHK_any ao LA.length ca (kAt LA) w ha (ok_at oa)).mono ?_
      rintro e v1 ⟨⟨r1, rfl, hr1⟩, hv1⟩
      cases r1 with
      | false =>
        clear hr1
        go_wp2
        go_ret
        exact ⟨rfl, hv1⟩
      | true =>
        have sa := hr1.1 rfl
        clear hr1
        go_wp2_with fail
        refine (sortedHK_any bo LB.length cb (kAt LB) v1 (hb.kept hv1) (ok_at ob)).mono ?_
        rintro e v2 ⟨⟨r2, rfl, hr2⟩, hv2⟩
        have hv12 : Below w.heap.size w v2 := hv1.trans (hv2.mono hv1.size)
        cases r2 with
        | false =>
          clear hr2
          go_wp2
          go_ret
          exact ⟨rfl, hv12⟩
        | true =>
          have sb := hr2.1 rfl
          obtain ⟨ms, mg⟩ := merge_law LA LB sa sb
          have HS : Hid (SortedN (mrg LA LB).length (kAt (mrg LA LB))) := ms
          have HG : Hid (grN (kAt LA) (kAt LB) (kAt (mrg LA LB)) LA.length LB.length (mrg LA LB).length 0 0 0 = true) := mg
          clear hr2 ms mg sa sb
          go_wp2_with fail
          refine (toKeys_any ao LA.length ca (kAt LA) v2 (ha.kept hv12) (by omega)).mono ?_
          rintro e w1 ⟨⟨ka, rfl, hka⟩, hb1⟩
          have hw1 : Below w.heap.size w w1 := hv12.trans (hb1.mono hv12.size)
          go_wp2_with fail
          refine (toKeys_any bo LB.length cb (kAt LB) w1 (hb.kept hw1) (by omega)).mono ?_
          rintro e w2 ⟨⟨kb, rfl, hkb⟩, hb2⟩
          have hw2 : Below w.heap.size w w2 := hw1.trans (hb2.mono hw1.size)
          go_wp2_with fail
          refine (zzMergeKeys_any ka kb LA LB LA.length LB.length w2 (KeysAt.kept hka hb2) hkb (none_of hka) (none_of hkb) (Nat.le_refl _) (Nat.le_refl _) (by omega) (by omega)).mono ?_
          rintro e w3 ⟨⟨kr, cr, rfl, hkr⟩, hb3⟩
          have hw3 : Below w.heap.size w w3 := hw2.trans (hb3.mono hw2.size)
          go_wp2_with fail
          refine (fromKeys_any kr (mrg LA LB).length cr (kAt (mrg LA LB)) w3 hkr (by rw [mrg_length]; omega)).mono ?_
          rintro e w4 ⟨⟨ro, rfl, hro⟩, hb4⟩
          have hw4 : Below w.heap.size w w4 := hw3.trans (hb4.mono hw3.size)
          rw [mrg_length] at hro ⊢
          have HS' := HS.out
          have HG' := HG.out
          rw [mrg_length] at HS' HG'
          have HS2 : Hid (SortedN (LA.length + LB.length) (kAt (mrg LA LB))) := HS'
          have HG2 : Hid (grN (kAt LA) (kAt LB) (kAt (mrg LA LB)) LA.length LB.length (LA.length + LB.length) 0 0 0 = true) := HG'
          clear HS' HG' HS HG
          have hl : (((LA.length + LB.length : Nat) : Int) == (LA.length : Int) + (LB.length : Int)) = true := by simp
          go_wp2_with fail
          refine (sortedHK_any ro (LA.length + LB.length) _ (kAt (mrg LA LB)) w4 hro (by rw [← mrg_length]; exact ok_at (ok_mrg oa ob))).mono ?_
          rintro e w5 ⟨⟨r5, rfl, hr5⟩, hb5⟩
          obtain rfl : r5 = true := hr5.2 HS2.out
          clear hr5
          have hw5 : Below w.heap.size w w5 := hw4.trans (hb5.mono hw4.size)
          go_wp2_with fail
          refine (sinter_any ro ao bo LA.length LB.length _ ca cb (kAt (mrg LA LB)) (kAt LA) (kAt LB) w5 ?_ (ha.kept hw5) (hb.kept hw5) h1 h2 HG2.out).mono ?_
          · rw [← mrg_length] at hro ⊢
            exact KeysAt.kept hro hb5
          rintro e w6 ⟨rfl, hb6⟩
          go_wp2
          go_ret
          exact ⟨rfl, hw5.trans (hb6.mono hw5.size)⟩

theorem own : ownKnob Try.prog.godebug = none := by kernel_rfl
theorem laidOut : laidOutB Try.prog = true := by kernel_rfl

set_option maxRecDepth 100000 in
theorem lifted (os : Os) (started : os.Started) (H : Type) (enc : TypeId × Value → H) :
    ReturnsInHanded {} Try.checked os 3 .any (Rows.fnMergeKeysIsSortedMergeSpec.pre6 enc Try.prog Try.f3 Rows.fnMergeKeysIsSortedMergeRow.domain false) (Rows.fnMergeKeysIsSortedMergeSpec.post enc Try.prog Try.f3 false true false false) := by
  refine returnsInHanded_of_change (C := Try.checked) own started (by kernel_rfl) Try.func3
    (ChangeSpec.witness6 (enc := enc) (C := Try.checked) false ⟨#[], #[.slice none 0 0, .slice none 0 0], []⟩ 8 (by kernel_rfl) (by kernel_rfl) (by kernel_rfl) (by kernel_rfl)) ?_
  intro W base args ds gs before hval0 hW hcnd _
  have hval : ∀ (j : Nat) t v, Try.f3.params[j]? = some t → args[j]? = some v → Value.okWide Try.prog W .any base t v := hval0
  have hW' := hW
  obtain ⟨p, q, hA0, hV, rfl, hfz, hnd⟩ := hW
  have hA : DataW.TrodAll enc Try.prog W 0 (fun _ => true) true Try.f3.params.toList args.toList ds p := hA0
  rw [Try.params3] at hA hval
  obtain ⟨v0, vs0, d0, ds0, p0, q0, hargs, rfl, rfl, h0, r0⟩ := trodAll_cons hA
  obtain ⟨v1, vs1, d1, ds1, p1, q1, rfl, rfl, rfl, h1, r1⟩ := trodAll_cons r0
  obtain ⟨rfl, rfl, rfl⟩ := trodAll_nil r1
  obtain rfl : args = #[v0, v1] := by cases args; simp_all
  obtain ⟨rfl, rfl⟩ := trodVars_none hV
  obtain ⟨a0, len0, cap0, rfl⟩ := okWide_slice Try.underlying22 (hval 0 22 v0 rfl rfl)
  have k0 := h0
  have lt0 : ∀ x ∈ p0, x.block < W.heap.size := by obtain ⟨m, hm⟩ := k0; exact DataW.trod_lt m _ _ _ hm
  obtain ⟨z0, rfl, w0, o0⟩ : ∃ ks : List HK, ks.length = len0 ∧ KeysAt W a0 ks ∧ ∀ k ∈ ks, k.ok := by
    obtain ⟨fuel, hf⟩ := h0
    exact OpenOk.open_keys hf
  obtain ⟨a1, len1, cap1, rfl⟩ := okWide_slice Try.underlying22 (hval 1 22 v1 rfl rfl)
  have k1 := h1
  have lt1 : ∀ x ∈ p1, x.block < W.heap.size := by obtain ⟨m, hm⟩ := k1; exact DataW.trod_lt m _ _ _ hm
  obtain ⟨z1, rfl, w1, o1⟩ : ∃ ks : List HK, ks.length = len1 ∧ KeysAt W a1 ks ∧ ∀ k ∈ ks, k.ok := by
    obtain ⟨fuel, hf⟩ := h1
    exact OpenOk.open_keys hf
  clear hA0 hval0
  refine (walk a0 a1 z0 z1 cap0 cap1 W w0 w1 o0 o1).mono fun e W' ⟨he, bel⟩ => ?_
  subst he
  exact ⟨_, rfl, _, _, _, [], _, [], hW', trodAll_mk1 (shut_bool Try.underlying4 _), (trodAll_cons_mk (Below.trod laidOut (by kernel_rfl) (of_decide_eq_true (by kernel_rfl)) k0 bel lt0) (trodAll_cons_mk (Below.trod laidOut (by kernel_rfl) (of_decide_eq_true (by kernel_rfl)) k1 bel lt1) trodAll_mk0)), rfl, bel.frame _, fun h => by cases h⟩

theorem over : Rows.fnMergeKeysIsSortedMergeRow.holds Try.pinned (OpenSpec.ofChange Rows.fnMergeKeysIsSortedMergeSpec) :=
  OpenClaim.holds_of_wide 3 Try.f3 rfl rfl rfl rfl rfl rfl rfl ⟨rfl, rfl, rfl, rfl, rfl⟩ rfl rfl rfl rfl rfl (by kernel_rfl) Try.func3 (by kernel_rfl)
    (of_decide_eq_true (by kernel_rfl)) (by unfold Func.isWrapper; first | (rw [if_pos (by decide +kernel)]; kernel_rfl) | (rw [if_neg (by decide +kernel)]; exact ⟨rfl, rfl⟩))
    (fun os started H enc _ => lifted os started H enc)

end Go.Proofs.Qxb6604791a.Smerge
namespace Go.Proofs.Qxb6604791a
/-- THE STATEMENT -/
theorem sortedmerge_proved : Rows.FnMergeKeysIsSortedMergeSaid :=
  Smerge.over
#print axioms sortedmerge_proved
end Go.Proofs.Qxb6604791a
