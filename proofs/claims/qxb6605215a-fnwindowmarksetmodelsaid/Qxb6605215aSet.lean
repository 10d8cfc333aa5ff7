import Derived.Test.Qxb6605215aBits
import Derived.Deep.RegionWith
namespace Go.Proofs.Qxb6605215a
open Go.ChangeShapes Go.WideShapes Go.ChangeAt Go.RowKit
set_option linter.unusedVariables false

theorem wrap_zero : IntKind.u64.wrap 0 = 0 := by rw [IntKind.wrap_u64]; rfl
theorem beq0 (k : Nat) : ((0 : Int) == (k : Int)) = decide (0 = k) := by
  rw [Bool.eq_iff_iff]; simp only [beq_iff_eq, decide_eq_true_eq]; omega
theorem beqN (a k : Nat) : ((a : Int) == (k : Int)) = decide (a = k) := by
  rw [Bool.eq_iff_iff]; simp only [beq_iff_eq, decide_eq_true_eq]; omega

set_option maxHeartbeats 2000000 in
theorem set_none (t b s NB : Nat) (w : World) (hNB : NB < M64) (hm : ∀ w, Calls Try.prog 8 #[.int .u64 t, .int .u64 b, .bool false, .int .u64 s] w fun e w' => RetMark s NB e ∧ Below w.heap.size w w')
    (hbit : ∀ k, k < 64 → NB.testBit k = decide (0 = k)) :
    Calls Try.prog 3 #[.int .u64 t, .int .u64 b, .bool false, .int .u64 s] w fun e w' => e = .returned (.bool true) ∧ Below w.heap.size w w' := by
  have hz := wrap_zero
  go_enter Try.func3, Try.ntmps3
  go_wp2_with fail
  refine (hm w).mono ?_
  rintro e w1 ⟨rfl, hb⟩
  clear hm
  go_wp2
  go_loop [14] (fun i => ∃ k : Nat, k ≤ 64 ∧ i = .int .u64 k) (fun i => 64 - (intOf i).toNat)
  case atStart => exact ⟨0, by omega, rfl⟩
  case round =>
    obtain ⟨k, hk, rfl⟩ := hrel
    have hbk := beq0 k
    by_cases hlt : k < 64
    · go_wp2_with (go_at_call 9; refine (bitAt_any _ _ _ hNB hlt).mono ?_; rintro e w' ⟨rfl, rfl⟩)
      exact ⟨⟨k + 1, by omega, by go_num⟩, by simp [intOf]; omega⟩
    · go_wp2
      go_ret
      exact ⟨rfl, hb⟩

set_option maxHeartbeats 4000000 in
/-- seen, and top is above seq: the window's top stays. -/
theorem set_below (t b s NB q : Nat) (w : World) (hNB : NB < M64) (hb64 : b < M64) (hc : s < t) (hw : IntKind.u64.wrap ((t : Int) - (s : Int)) = (q : Int))
    (hm : ∀ w, Calls Try.prog 8 #[.int .u64 t, .int .u64 b, .bool true, .int .u64 s] w fun e w' => RetMark t NB e ∧ Below w.heap.size w w')
    (hbit : ∀ k, k < 64 → NB.testBit k = (decide (q = k) || b.testBit k)) :
    Calls Try.prog 3 #[.int .u64 t, .int .u64 b, .bool true, .int .u64 s] w fun e w' => e = .returned (.bool true) ∧ Below w.heap.size w w' := by
  have hz := wrap_zero
  go_enter Try.func3, Try.ntmps3
  go_wp2_with fail
  refine (hm w).mono ?_
  rintro e w1 ⟨rfl, hb⟩
  clear hm
  go_wp2
  go_loop [14] (fun i => ∃ k : Nat, k ≤ 64 ∧ i = .int .u64 k) (fun i => 64 - (intOf i).toNat)
  case atStart => exact ⟨0, by omega, rfl⟩
  case round =>
    obtain ⟨k, hk, rfl⟩ := hrel
    have hbk := beqN q k
    by_cases hlt : k < 64
    · have hNk := hbit k hlt
      have hwk : IntKind.u64.wrap (k : Int) = (k : Int) := by rw [wrap_nat, Nat.mod_eq_of_lt (by rw [M64_eq]; omega)]
      cases h3 : b.testBit k with
      | true =>
        go_wp2_with (go_at_call 9; first | (go_at_call_of 9 (Value.int .u64 (b : Int)); refine (bitAt_any b k _ hb64 hlt).mono ?_; rintro e w' ⟨rfl, rfl⟩) | (refine (bitAt_any NB k _ hNB hlt).mono ?_; rintro e w' ⟨rfl, rfl⟩))
        exact ⟨⟨k + 1, by omega, by go_num⟩, by simp [intOf]; omega⟩
      | false =>
        go_wp2_with (go_at_call 9; first | (go_at_call_of 9 (Value.int .u64 (b : Int)); refine (bitAt_any b k _ hb64 hlt).mono ?_; rintro e w' ⟨rfl, rfl⟩) | (refine (bitAt_any NB k _ hNB hlt).mono ?_; rintro e w' ⟨rfl, rfl⟩))
        exact ⟨⟨k + 1, by omega, by go_num⟩, by simp [intOf]; omega⟩
    · go_wp2
      go_ret
      exact ⟨rfl, hb⟩

set_option maxHeartbeats 4000000 in
/-- seen, and seq is not below top: seq is the window's new top. -/
theorem set_above (t b s NB d : Nat) (w : World) (hNB : NB < M64) (hb64 : b < M64) (hc : ¬ s < t) (hw : IntKind.u64.wrap ((s : Int) - (t : Int)) = (d : Int))
    (hm : ∀ w, Calls Try.prog 8 #[.int .u64 t, .int .u64 b, .bool true, .int .u64 s] w fun e w' => RetMark s NB e ∧ Below w.heap.size w w')
    (hbit : ∀ k, k < 64 → NB.testBit k = (decide (0 = k) || (decide (d ≤ k) && b.testBit (k - d)))) :
    Calls Try.prog 3 #[.int .u64 t, .int .u64 b, .bool true, .int .u64 s] w fun e w' => e = .returned (.bool true) ∧ Below w.heap.size w w' := by
  have hz := wrap_zero
  go_enter Try.func3, Try.ntmps3
  go_wp2_with fail
  refine (hm w).mono ?_
  rintro e w1 ⟨rfl, hb⟩
  clear hm
  go_wp2
  go_loop [14] (fun i => ∃ k : Nat, k ≤ 64 ∧ i = .int .u64 k) (fun i => 64 - (intOf i).toNat)
  case atStart => exact ⟨0, by omega, rfl⟩
  case round =>
    obtain ⟨k, hk, rfl⟩ := hrel
    have hbk := beq0 k
    by_cases hlt : k < 64
    · have hNk := hbit k hlt
      by_cases hdk : d ≤ k
      · obtain ⟨r, hr⟩ : ∃ r, r = k - d := ⟨_, rfl⟩
        have hwk : IntKind.u64.wrap ((k : Int) - (d : Int)) = (r : Int) := by rw [hr]; exact wrap_sub hdk (by rw [M64_eq]; omega)
        have hr64 : r < 64 := by omega
        rw [← hr, decide_eq_true hdk, Bool.true_and] at hNk
        clear hr hbit
        cases h3 : b.testBit r with
        | true =>
          rw [h3] at hNk
          go_wp2_with (go_at_call 9; first | (go_at_call_of 9 (Value.int .u64 (b : Int)); refine (bitAt_any b r _ hb64 hr64).mono ?_; rintro e w' ⟨rfl, rfl⟩) | (refine (bitAt_any NB k _ hNB hlt).mono ?_; rintro e w' ⟨rfl, rfl⟩))
          exact ⟨⟨k + 1, by omega, by go_num⟩, by simp [intOf]; omega⟩
        | false =>
          rw [h3] at hNk
          go_wp2_with (go_at_call 9; first | (go_at_call_of 9 (Value.int .u64 (b : Int)); refine (bitAt_any b r _ hb64 hr64).mono ?_; rintro e w' ⟨rfl, rfl⟩) | (refine (bitAt_any NB k _ hNB hlt).mono ?_; rintro e w' ⟨rfl, rfl⟩))
          exact ⟨⟨k + 1, by omega, by go_num⟩, by simp [intOf]; omega⟩
      · rw [decide_eq_false hdk, Bool.false_and, Bool.or_false] at hNk
        clear hbit
        go_wp2_with (go_at_call 9; refine (bitAt_any NB k _ hNB hlt).mono ?_; rintro e w' ⟨rfl, rfl⟩)
        exact ⟨⟨k + 1, by omega, by go_num⟩, by simp [intOf]; omega⟩
    · go_wp2
      go_ret
      exact ⟨rfl, hb⟩

theorem set_walk (t b s : Nat) (seen : Bool) (w : World) (ht : t < M64) (hb : b < M64) (hs : s < M64) :
    Calls Try.prog 3 #[.int .u64 t, .int .u64 b, .bool seen, .int .u64 s] w fun e w' => e = .returned (.bool true) ∧ Below w.heap.size w w' := by
  have hm := fun w => zzMark_any t b s seen w ht hb hs
  have hN := mB_lt t b seen s hb
  have hbit := fun k hk => mB_bit t b seen s k hk
  cases seen with
  | false =>
    refine set_none t b s _ w hN hm (fun k hk => ?_)
    rw [hbit k hk]
    show (decide (s - s = k) || _) = _
    simp
  | true =>
    by_cases hc : s < t
    · have e : mT t true s = t := by unfold mT; rw [if_pos rfl, if_neg (by omega)]
      rw [e] at hm
      refine set_below t b s _ _ w hN hb hc (wrap_sub (Nat.le_of_lt hc) ht) hm (fun k hk => ?_)
      rw [hbit k hk, e]
      simp
    · have e : mT t true s = s := by
        unfold mT; rw [if_pos rfl]
        by_cases h : t < s
        · rw [if_pos h]
        · rw [if_neg h]; omega
      rw [e] at hm
      refine set_above t b s _ _ w hN hb hc (wrap_sub (Nat.le_of_not_lt hc) hs) hm (fun k hk => ?_)
      rw [hbit k hk, e]
      simp

end Go.Proofs.Qxb6605215a
