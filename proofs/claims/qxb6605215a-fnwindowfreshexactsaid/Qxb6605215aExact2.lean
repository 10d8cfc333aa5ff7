import Derived.Test.Qxb6605215aExact
namespace Go.Proofs.Qxb6605215a
open Go.ChangeShapes Go.WideShapes Go.ChangeAt Go.RowKit

theorem or_bit_same {b d : Nat} (h : b.testBit d = true) : b ||| 2 ^ d = b := by
  refine Nat.eq_of_testBit_eq fun j => ?_
  rw [Nat.testBit_or, Nat.testBit_two_pow]
  by_cases hj : d = j
  · subst hj; rw [h]; rfl
  · rw [decide_eq_false hj, Bool.or_false]
theorem or_bit_new {b d : Nat} (h : b.testBit d = false) : b ||| 2 ^ d ≠ b := fun e => by
  have := congrArg (fun x => Nat.testBit x d) e
  rw [Nat.testBit_or, Nat.testBit_two_pow, h] at this
  simp at this

theorem exact_walk (t b s : Nat) (seen : Bool) (w : World) (ht : t < M64) (hb : b < M64) (hs : s < M64) :
    Calls Try.prog 5 #[.int .u64 t, .int .u64 b, .bool seen, .int .u64 s] w fun e w' => e = .returned (.bool true) ∧ Below w.heap.size w w' := by
  have hf := fun w => zzFresh_any t b s seen w ht hb
  have hm := fun w => zzMark_any t b s seen w ht hb hs
  unfold frN at hf
  cases seen with
  | false =>
    unfold mT at hm
    exact exact_none t b s _ w hf hm
  | true =>
    unfold mT mB at hm
    simp only [if_true] at hf hm
    by_cases hc : t < s
    · rw [if_pos hc] at hf
      rw [if_pos hc] at hm
      exact exact_above t b s _ w hc hf hm
    · rw [if_neg hc] at hf
      rw [if_neg hc, if_neg hc] at hm
      have hw := wrap_sub (Nat.le_of_not_lt hc) ht
      by_cases hd : 64 ≤ t - s
      · rw [if_pos hd] at hf
        have e2 : 2 ^ min (t - s) 64 % M64 = 0 := by rw [Nat.min_eq_right hd, M64_pow, Nat.mod_self]
        rw [e2, Nat.or_zero] at hm
        exact exact_old t b s _ _ w ht hb hc rfl hw hd rfl hf hm
      · have hd' : t - s < 64 := by omega
        rw [if_neg hd] at hf
        rw [Nat.min_eq_left (by omega), pow_mod _ hd'] at hm
        cases hbt : b.testBit (t - s) with
        | true =>
          rw [hbt] at hf
          rw [or_bit_same hbt] at hm
          exact exact_in_set t b s _ _ w ht hb hc rfl hw hd' hbt rfl hf hm
        | false =>
          rw [hbt] at hf
          refine exact_in_clear t b s _ _ w ht hb hc rfl hw hd' hbt ?_ hf hm
          have := or_bit_new hbt
          simp
          omega

end Go.Proofs.Qxb6605215a
