/-
  The replay script in plain numbers: the window is the set of what was let in.
-/
import Derived.Test.Qxb6605215aBits
import Derived.Test.Qxb6605215aInts
namespace Go.Proofs.Qxb6605215a
open Go.ChangeShapes Go.WideShapes Go.ChangeAt Go.RowKit
set_option linter.unusedVariables false

/-- The window (t, b) holds the numbers of L. -/
structure St (L : List Nat) (t b : Nat) : Prop where
  ht : t < M64
  hb : b < M64
  nil : L = [] → t = 0 ∧ b = 0
  top : ∀ x ∈ L, x ≤ t
  bit : ∀ i, i < 64 → b.testBit i = (decide (i ≤ t) && decide (t - i ∈ L))

theorem St.start : St [] 0 0 := ⟨(by decide), (by decide), fun _ => ⟨rfl, rfl⟩, (fun x h => nomatch h), (fun i _ => by simp)⟩

theorem St.mark {L : List Nat} {t b s : Nat} (h : St L t b) (hs : s < M64) (sn : Bool) (hsn : sn = decide (0 < L.length)) : St (L ++ [s]) (mT t sn s) (mB t b sn s) where
  ht := mT_lt _ _ _ h.ht hs
  hb := mB_lt _ _ _ _ h.hb
  nil := fun e => by simp at e
  top := fun x hx => by
    rcases List.mem_append.1 hx with hx | hx
    · have hl : 0 < L.length := List.length_pos_of_mem hx
      have := h.top x hx
      rw [hsn, decide_eq_true hl]
      unfold mT
      rw [if_pos rfl]
      split <;> omega
    · obtain rfl : x = s := by simpa using hx
      unfold mT
      split
      · split <;> omega
      · omega
  bit := fun i hi => by
    rw [mB_bit _ _ _ _ _ hi]
    obtain ⟨T, hT⟩ : ∃ T, T = mT t sn s := ⟨_, rfl⟩
    have hsT : s ≤ T := by rw [hT]; unfold mT; split <;> (try split) <;> omega
    have htT : sn = true → t ≤ T := fun e => by rw [hT, e]; unfold mT; rw [if_pos rfl]; split <;> omega
    rw [← hT]
    have e1 : decide (T - s = i) = (decide (i ≤ T) && decide (T - i = s)) := by
      rw [Bool.eq_iff_iff]; simp only [Bool.and_eq_true, decide_eq_true_eq]; omega
    have e2 : (sn && decide (T - t ≤ i) && b.testBit (i - (T - t))) = (decide (i ≤ T) && decide (T - i ∈ L)) := by
      cases sn with
      | false =>
        have : L = [] := by
          have := of_decide_eq_false hsn.symm
          exact List.eq_nil_of_length_eq_zero (by omega)
        subst this
        simp
      | true =>
        have h1 := htT rfl
        by_cases h2 : T - t ≤ i
        · rw [decide_eq_true h2, h.bit _ (by omega), show t - (i - (T - t)) = T - i by omega, Bool.true_and, Bool.true_and]
          congr 1
          rw [Bool.eq_iff_iff]; simp only [decide_eq_true_eq]; omega
        · rw [decide_eq_false h2]
          have : ¬ T - i ∈ L := fun hm => by have := h.top _ hm; omega
          simp [this]
    rw [e1, e2, ← Bool.and_or_distrib_left]
    congr 1
    rw [Bool.eq_iff_iff]
    simp only [Bool.or_eq_true, decide_eq_true_eq, List.mem_append, List.mem_singleton]
    exact Or.comm

theorem St.bit_s {L : List Nat} {t b s : Nat} (h : St L t b) (hst : ¬ t < s) (hd : t - s < 64) : b.testBit (t - s) = decide (s ∈ L) := by
  rw [h.bit _ hd, show t - (t - s) = s by omega, decide_eq_true (by omega : t - s ≤ t), Bool.true_and]

theorem fr_none {t b s : Nat} : frN t b false s = true := rfl
theorem fr_above {t b s : Nat} (h : t < s) : frN t b true s = true := by unfold frN; rw [if_pos rfl, if_pos h]
theorem fr_old {t b s : Nat} (h : ¬ t < s) (h2 : 64 ≤ t - s) : frN t b true s = false := by unfold frN; rw [if_pos rfl, if_neg h, if_pos h2]
theorem St.fr_in {L : List Nat} {t b s : Nat} (q : St L t b) (h : ¬ t < s) (h2 : ¬ 64 ≤ t - s) : frN t b true s = !decide (s ∈ L) := by
  unfold frN; rw [if_pos rfl, if_neg h, if_neg h2, q.bit_s h (by omega)]
theorem St.fr_mem {L : List Nat} {t b s : Nat} (q : St L t b) (hm : s ∈ L) : frN t b true s = false := by
  have := q.top s hm
  by_cases h2 : 64 ≤ t - s
  · exact fr_old (by omega) h2
  · rw [q.fr_in (by omega) h2, decide_eq_true hm]; rfl

/-- zzIn -/
theorem in_any (ao : Option Addr) (c : Nat) (L : List Nat) (v : Nat) (B : Nat) (w : World) (h : IsI .u64 w B ao L.length (fun i => (L.getD i 0 : Nat))) (n : Nat) (hn : L.length = n) :
    Calls Try.prog 13 #[.slice ao n c, .int .u64 v] w fun e w' => e = .returned (.bool (decide (v ∈ L))) ∧ w = w' := by
  have hm := h.1
  rw [hn] at hm h
  have hm' : n < 9223372036854775808 := by unfold maxLen at hm; omega
  clear hm
  have HN : Hid (L.length = n) := hn
  clear hn
  obtain ⟨r, hr⟩ : ∃ r, r = decide (v ∈ L) := ⟨_, rfl⟩
  rw [← hr]
  have HR : Hid (r = decide (v ∈ L)) := hr
  clear hr
  go_enter Try.func13, Try.ntmps13
  go_wp2
  go_loopw [5] (fun i wr => ∃ k : Nat, k ≤ n ∧ i = .int .i64 k ∧ (∀ j, j < k → L.getD j 0 ≠ v) ∧ w = wr) (fun i _ => n - (intOf i).toNat)
  case atStart => exact ⟨0, Nat.zero_le _, rfl, fun j hj => absurd hj (Nat.not_lt_zero _), rfl⟩
  case round =>
    obtain ⟨k, hk, rfl, hno, rfl⟩ := hrel
    by_cases hlt : k < n
    · obtain ⟨b, off, rfl, hb1, hs1⟩ := h.2 (by omega)
      obtain ⟨u, hu⟩ : ∃ u, u = L.getD k 0 := ⟨_, rfl⟩
      have h1 : w.cell? ⟨b, off + k, none⟩ = some (.int .u64 (u : Int)) := by rw [hu]; exact hs1 k hlt
      clear hs1 h
      by_cases he : u = v
      · have : r = true := by
          rw [HR.out, decide_eq_true_eq, ← he, hu]
          have := HN.out
          rw [List.getD_eq_getElem?_getD, List.getElem?_eq_getElem (by omega)]
          exact List.getElem_mem _
        subst this
        have hd : ((u : Int) == (v : Int)) = true := by simp; omega
        clear he hu
        go_wp2
        go_ret
        exact ⟨rfl, rfl⟩
      · have hd : ((u : Int) == (v : Int)) = false := by simp; omega
        have HP : Hid (∀ j, j < k + 1 → L.getD j 0 ≠ v) := fun j hj => by
          by_cases e : j = k
          · subst e; rw [← hu]; exact he
          · exact hno j (by omega)
        clear hno he hu
        go_wp2
        go_roundw
        case rel => exact ⟨k + 1, by omega, by go_num, HP.out, by first | rfl | trivial⟩
        case measure => simp [intOf]; omega
    · have : r = false := by
        rw [HR.out, decide_eq_false_iff_not]
        intro hm
        obtain ⟨j, hj, e⟩ := List.getElem_of_mem hm
        have := HN.out
        refine hno j (by omega) ?_
        rw [List.getD_eq_getElem?_getD, List.getElem?_eq_getElem hj]
        exact e
      subst this
      go_wp2
      go_ret
      exact ⟨rfl, rfl⟩

theorem zzBytes11 (ao : Option Addr) (n c : Nat) (w : World) (hn : n ≤ maxLen) :
    Calls Try.prog 11 #[.slice ao n c] w fun e w' => (∃ r : Bool, e = .returned (.bool r)) ∧ w = w' := by
  have hn' : n < 9223372036854775808 := by unfold maxLen at hn; omega
  clear hn
  by_cases h1 : n ≤ 1048576
  · go_enter Try.func11, Try.ntmps11
    go_wp2
    go_ret
    exact ⟨⟨_, rfl⟩, rfl⟩
  · go_enter Try.func11, Try.ntmps11
    go_wp2
    go_ret
    exact ⟨⟨_, rfl⟩, rfl⟩

end Go.Proofs.Qxb6605215a
