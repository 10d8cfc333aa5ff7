import Derived.Test.Qxb6604791aExact
import Derived.Test.Qxb6604791aMerge
import Derived.Test.Qxb6604791aFrom
import Derived.Test.Qxb6604791aSizes
namespace Go.Proofs.Qxb6604791a
open Go.ChangeShapes Go.WideShapes Go.ChangeAt Go.RowKit

theorem eqK_refl (x : HK) : eqK x x = true := by simp [eqK]

theorem dp_stepA {A B R : Nat → HK} {i j : Nat} (h : dp A B R i j = true) (he : eqK (A i) (R (i + j)) = true) : dp A B R (i + 1) j = true := by
  cases j with
  | zero => show (dp A B R i 0 && eqK (A i) (R i)) = true; rw [h]; exact he
  | succ j => rw [dp_succ, h, show i + j + 1 = i + (j + 1) by omega, he]; rfl
theorem dp_stepB {A B R : Nat → HK} {i j : Nat} (h : dp A B R i j = true) (he : eqK (B j) (R (i + j)) = true) : dp A B R i (j + 1) = true := by
  cases i with
  | zero => show (dp0 B R j && eqK (B j) (R j)) = true; rw [show dp0 B R j = true from h, show R j = R (0 + j) by rw [Nat.zero_add], he]; rfl
  | succ i => rw [dp_succ, h, show i + j + 1 = i + 1 + j by omega, he]; simp

theorem kAt_mid (xs ys : List HK) (y : HK) (n : Nat) (h : n = xs.length) : kAt (xs ++ y :: ys) n = y := by subst h; simp [kAt]

theorem dp_restB (A : List HK) : ∀ (lb pb xs : List HK), xs.length = A.length + pb.length → dp (kAt A) (kAt (pb ++ lb)) (kAt (xs ++ lb)) A.length pb.length = true →
    dp (kAt A) (kAt (pb ++ lb)) (kAt (xs ++ lb)) A.length (pb ++ lb).length = true
  | [], pb, xs, _, h => by simpa using h
  | y :: lb, pb, xs, hl, h => by
    have h1 := dp_stepB h (by rw [kAt_mid _ _ _ _ rfl, kAt_mid _ _ _ _ hl.symm]; exact eqK_refl y)
    have ih := dp_restB A lb (pb ++ [y]) (xs ++ [y]) (by simp; omega)
    simp only [List.append_assoc, List.singleton_append, List.length_append, List.length_singleton] at ih
    have := ih h1
    simp only [List.length_append, List.length_cons] at this ⊢
    exact this

theorem dp_restA (B : List HK) : ∀ (la pa xs : List HK), xs.length = pa.length + B.length → dp (kAt (pa ++ la)) (kAt B) (kAt (xs ++ la)) pa.length B.length = true →
    dp (kAt (pa ++ la)) (kAt B) (kAt (xs ++ la)) (pa ++ la).length B.length = true
  | [], pa, xs, _, h => by simpa using h
  | y :: la, pa, xs, hl, h => by
    have h1 := dp_stepA h (by rw [kAt_mid _ _ _ _ rfl, kAt_mid _ _ _ _ hl.symm]; exact eqK_refl y)
    have ih := dp_restA B la (pa ++ [y]) (xs ++ [y]) (by simp; omega)
    simp only [List.append_assoc, List.singleton_append, List.length_append, List.length_singleton] at ih
    have := ih h1
    simp only [List.length_append, List.length_cons] at this ⊢
    exact this

theorem dp_mrg : ∀ (la lb pa pb xs : List HK), xs.length = pa.length + pb.length → dp (kAt (pa ++ la)) (kAt (pb ++ lb)) (kAt (xs ++ mrg la lb)) pa.length pb.length = true →
    dp (kAt (pa ++ la)) (kAt (pb ++ lb)) (kAt (xs ++ mrg la lb)) (pa ++ la).length (pb ++ lb).length = true
  | [], lb, pa, pb, xs, hl, h => by
    rw [List.append_nil] at h ⊢
    exact dp_restB pa lb pb xs hl h
  | x :: la, lb, pa, pb, xs, hl, h => by
    induction lb generalizing pb xs with
    | nil =>
      rw [mrg_nil_right, List.append_nil] at h ⊢
      exact dp_restA pb (x :: la) pa xs hl h
    | cons y lb ih =>
      by_cases hc : cmpK x y < 0
      · rw [mrg_lt hc] at h ⊢
        have h1 := dp_stepA h (by rw [kAt_mid _ _ _ _ rfl, kAt_mid _ _ _ _ hl.symm]; exact eqK_refl x)
        have := dp_mrg la (y :: lb) (pa ++ [x]) pb (xs ++ [x]) (by simp; omega)
        simp only [List.append_assoc, List.singleton_append, List.length_append, List.length_singleton] at this
        have := this h1
        simp only [List.length_append, List.length_cons] at this ⊢
        exact this
      · rw [mrg_ge hc] at h ⊢
        have h1 := dp_stepB h (by rw [kAt_mid _ _ _ _ rfl, kAt_mid _ _ _ _ hl.symm]; exact eqK_refl y)
        have := ih (pb ++ [y]) (xs ++ [y]) (by simp; omega)
        simp only [List.append_assoc, List.singleton_append, List.length_append, List.length_singleton] at this
        have := this h1
        simp only [List.length_append, List.length_cons] at this ⊢
        exact this

/-- THE PLAIN LAW: the merge is an interleaving. -/
theorem dp_all (LA LB : List HK) : dp (kAt LA) (kAt LB) (kAt (mrg LA LB)) LA.length LB.length = true := dp_mrg LA LB [] [] [] rfl rfl

theorem RetKeys.none {n : Nat} {K : Nat → HK} {w : World} {ao : Option Addr} (h : IsKeys w ao n K) : ao = .none → n = 0 := by
  intro e
  by_cases h0 : 0 < n
  · obtain ⟨b, off, hao, _⟩ := h.2 h0
    rw [e] at hao
    cases hao
  · omega

set_option maxHeartbeats 2000000 in
theorem inter_walk (ao bo : Option Addr) (LA LB : List HK) (ca cb : Nat) (w : World) (ha : KeysAt w ao LA) (hb : KeysAt w bo LB) :
    Calls Try.prog 4 #[.slice ao LA.length ca, .slice bo LB.length cb] w fun e w' => e = .returned (.bool true) ∧ Below w.heap.size w w' := by
  go_enter Try.func4, Try.ntmps4
  go_wp2_with fail
  refine (zzBytesI_any ao bo LA.length LB.length ca cb (kAt LA) (kAt LB) w ha hb).mono ?_
  rintro e w0 ⟨⟨r, rfl, _⟩, rfl⟩
  cases r with
  | false =>
    go_wp2
    go_ret
    exact ⟨rfl, Below.refl _ _⟩
  | true =>
    go_wp2_with fail
    refine (interleaveFits_any ao bo LA.length LB.length ca cb (kAt LA) (kAt LB) w ha hb).mono ?_
    rintro e w0 ⟨⟨r, rfl, hf⟩, rfl⟩
    cases r with
    | false =>
      go_wp2
      go_ret
      exact ⟨rfl, Below.refl _ _⟩
    | true =>
      obtain ⟨h1, h2⟩ := hf rfl
      clear hf
      go_wp2_with fail
      refine (toKeys_any ao LA.length ca (kAt LA) w ha (by omega)).mono ?_
      rintro e w1 ⟨⟨ka, rfl, hka⟩, hb1⟩
      go_wp2_with fail
      refine (toKeys_any bo LB.length cb (kAt LB) w1 (hb.kept hb1) (by omega)).mono ?_
      rintro e w2 ⟨⟨kb, rfl, hkb⟩, hb2⟩
      go_wp2_with fail
      refine (zzMergeKeys_any ka kb LA LB LA.length LB.length w2 (KeysAt.kept hka hb2) hkb (RetKeys.none hka) (RetKeys.none hkb) (Nat.le_refl _) (Nat.le_refl _) (by omega) (by omega)).mono ?_
      rintro e w3 ⟨⟨kr, cr, rfl, hkr⟩, hb3⟩
      go_wp2_with fail
      refine (fromKeys_any kr (mrg LA LB).length cr (kAt (mrg LA LB)) w3 hkr (by rw [mrg_length]; omega)).mono ?_
      rintro e w4 ⟨⟨ro, rfl, hro⟩, hb4⟩
      have hb14 : Below w.heap.size w w4 := ((hb1.trans (hb2.mono hb1.size)).trans (hb3.mono (Nat.le_trans hb1.size hb2.size))).trans (hb4.mono (Nat.le_trans (Nat.le_trans hb1.size hb2.size) hb3.size))
      go_wp2_with fail
      rw [mrg_length] at hro ⊢
      refine (exact_any ro ao bo LA.length LB.length _ ca cb (kAt (mrg LA LB)) (kAt LA) (kAt LB) w4 hro (ha.kept hb14) (hb.kept hb14) h1 h2).mono ?_
      rintro e w5 ⟨rfl, hb5⟩
      rw [dp_all]
      go_wp2
      go_ret
      exact ⟨rfl, hb14.trans (hb5.mono hb14.size)⟩

end Go.Proofs.Qxb6604791a
