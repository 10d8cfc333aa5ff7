/-
  The window in plain numbers.
-/
import Derived.Test.Qxb6605215aLeaves
namespace Go.Proofs.Qxb6605215a
open Go.ChangeShapes Go.WideShapes Go.ChangeAt Go.RowKit

/-- 2 to the 64. -/
def M64 : Nat := 18446744073709551616
theorem M64_eq : M64 = 18446744073709551616 := rfl
theorem M64_pow : M64 = 2 ^ 64 := rfl

def mT (t : Nat) (seen : Bool) (s : Nat) : Nat := if seen then (if t < s then s else t) else s
def mB (t b : Nat) (seen : Bool) (s : Nat) : Nat :=
  if seen then (if t < s then (if s - t < 64 then (b * 2 ^ (s - t)) % M64 ||| 1 else 1) else b ||| (2 ^ min (t - s) 64 % M64)) else 1
def frN (t b : Nat) (seen : Bool) (s : Nat) : Bool := if seen then (if t < s then true else if 64 ≤ t - s then false else !(b.testBit (t - s))) else true

theorem wrap_sub {x y : Nat} (h : y ≤ x) (hx : x < M64) : IntKind.u64.wrap ((x : Int) - (y : Int)) = ((x - y : Nat) : Int) := by
  rw [IntKind.wrap_u64]; rw [M64_eq] at hx; omega
theorem wrap_nat (x : Nat) : IntKind.u64.wrap (x : Int) = ((x % M64 : Nat) : Int) := by
  rw [IntKind.wrap_u64, M64_eq]; omega
theorem wrap_pow (k : Nat) : IntKind.u64.wrap (2 ^ k) = ((2 ^ k % M64 : Nat) : Int) := by
  rw [← wrap_nat]; congr 1
theorem wrap_mulpow (b k : Nat) : IntKind.u64.wrap ((b : Int) * 2 ^ k) = ((b * 2 ^ k % M64 : Nat) : Int) := by
  rw [← wrap_nat]; congr 1

theorem mod_lt64 (x : Nat) : x % M64 < 18446744073709551616 := Nat.mod_lt _ (by decide)

theorem or_wrap1 (b k : Nat) : Go.bits BinOp.or IntKind.u64 (IntKind.u64.wrap ((b : Int) * 2 ^ k)) 1 = (((b * 2 ^ k) % M64 ||| 1 : Nat) : Int) := by
  rw [wrap_mulpow]
  exact bits_or_u64_nat _ 1 (mod_lt64 _) (by decide)
theorem or_wrap2 (b k : Nat) (hb : b < M64) : Go.bits BinOp.or IntKind.u64 (b : Int) (IntKind.u64.wrap (2 ^ k)) = ((b ||| (2 ^ k % M64) : Nat) : Int) := by
  rw [wrap_pow]
  exact bits_or_u64_nat _ _ (by rw [M64_eq] at hb; exact hb) (mod_lt64 _)
theorem and_wrap (b k : Nat) (hb : b < M64) : Go.bits BinOp.and IntKind.u64 (b : Int) (IntKind.u64.wrap (2 ^ k)) = ((b &&& (2 ^ k % M64) : Nat) : Int) := by
  rw [wrap_pow]
  exact bits_and_u64_nat _ _ (by rw [M64_eq] at hb; exact hb) (mod_lt64 _)
theorem and_one (x i : Nat) (hx : x < M64) : Go.bits BinOp.and IntKind.u64 ((x : Int) / 2 ^ i) 1 = (((x / 2 ^ i) % 2 : Nat) : Int) := by
  have e : (x : Int) / 2 ^ i = ((x / 2 ^ i : Nat) : Int) := by rw [Int.natCast_ediv, Int.natCast_pow]; rfl
  have hlt : x / 2 ^ i < 18446744073709551616 := Nat.lt_of_le_of_lt (Nat.div_le_self _ _) (by rw [M64_eq] at hx; exact hx)
  rw [e, show (1 : Int) = ((1 : Nat) : Int) from rfl, bits_and_u64_nat _ 1 hlt (by decide), Nat.and_one_is_mod]

theorem testBit_div (x i : Nat) : x.testBit i = ((((x / 2 ^ i) % 2 : Nat) : Int) == 1) := by
  rw [Nat.testBit_eq_decide_div_mod_eq]
  have h : x / 2 ^ i % 2 < 2 := Nat.mod_lt _ (by decide)
  rcases (by omega : x / 2 ^ i % 2 = 0 ∨ x / 2 ^ i % 2 = 1) with e | e <;> rw [e] <;> rfl

theorem bitAt_any (x i : Nat) (w : World) (hx : x < M64) (hi : i < 64) :
    Calls Try.prog 9 #[.int .u64 x, .int .u64 i] w fun e w' => e = .returned (.bool (x.testBit i)) ∧ w = w' := by
  have h := bitAt_raw (x : Int) (i : Int) w (by omega) (by omega)
  rw [Int.toNat_natCast, and_one x i hx, ← testBit_div] at h
  exact h

theorem zzMark_any (t b s : Nat) (seen : Bool) (w : World) (ht : t < M64) (hb : b < M64) (hs : s < M64) :
    Calls Try.prog 8 #[.int .u64 t, .int .u64 b, .bool seen, .int .u64 s] w fun e w' => RetMark (mT t seen s) (mB t b seen s) e ∧ Below w.heap.size w w' := by
  have c0 : (w.alloc (.cells #[.int .u64 t, .int .u64 b, .bool seen] 42)).cell? ⟨w.heap.size, 0, none⟩ = some (.int .u64 t) := by rw [World.cell?_alloc_at _ _ _ _ rfl]; rfl
  have c1 : (w.alloc (.cells #[.int .u64 t, .int .u64 b, .bool seen] 42)).cell? ⟨w.heap.size, 1, none⟩ = some (.int .u64 b) := by rw [World.cell?_alloc_at _ _ _ _ rfl]; rfl
  have c2 : (w.alloc (.cells #[.int .u64 t, .int .u64 b, .bool seen] 42)).cell? ⟨w.heap.size, 2, none⟩ = some (.bool seen) := by rw [World.cell?_alloc_at _ _ _ _ rfl]; rfl
  have f : ∀ o, (w.alloc (.cells #[.int .u64 t, .int .u64 b, .bool seen] 42)).frozen? ⟨w.heap.size, o, none⟩ = false := fun o => World.frozen?_alloc_at _ _ _ _ rfl
  refine zzMark_of _ _ _ _ _ _ _ ?_
  unfold mT mB
  cases seen with
  | false => exact mark_none _ _ _ _ _ c0 c1 (f 0) (f 1) c2 (f 2)
  | true =>
    simp only [if_true]
    by_cases hc : t < s
    · rw [if_pos hc, if_pos hc]
      have hw := wrap_sub (Nat.le_of_lt hc) hs
      by_cases hd : s - t < 64
      · rw [if_pos hd, ← or_wrap1]
        have := mark_above (t : Int) (b : Int) (s : Int) _ _ c0 c1 (f 0) (f 1) c2 (by omega) _ hw (by omega) (by omega)
        rwa [Int.toNat_natCast] at this
      · rw [if_neg hd]
        exact mark_far (t : Int) (b : Int) (s : Int) _ _ c0 c1 (f 0) (f 1) c2 (by omega) _ hw (by omega)
    · rw [if_neg hc, if_neg hc, ← or_wrap2 _ _ hb]
      have hw := wrap_sub (Nat.le_of_not_lt hc) ht
      have := mark_below (t : Int) (b : Int) (s : Int) _ _ c0 c1 (f 0) (f 1) c2 (by omega) _ hw (by omega)
      rwa [Int.toNat_natCast] at this

theorem pow_mod (k : Nat) (h : k < 64) : 2 ^ k % M64 = 2 ^ k := Nat.mod_eq_of_lt (by rw [M64_pow]; exact Nat.pow_lt_pow_right (by decide) h)

theorem and_pow_eq (b k : Nat) : (((b &&& 2 ^ k : Nat) : Int) == 0) = !(b.testBit k) := by
  cases h : b.testBit k with
  | false =>
    have e : b &&& 2 ^ k = 0 := Nat.eq_of_testBit_eq fun j => by
      rw [Nat.testBit_and, Nat.testBit_two_pow, Nat.zero_testBit]
      by_cases hj : k = j
      · subst hj; rw [h]; rfl
      · simp [hj]
    rw [e]; rfl
  | true =>
    have hne : b &&& 2 ^ k ≠ 0 := fun e => by
      have := congrArg (fun x => Nat.testBit x k) e
      simp [Nat.testBit_and, h] at this
    simp
    omega

theorem zzFresh_any (t b s : Nat) (seen : Bool) (w : World) (ht : t < M64) (hb : b < M64) :
    Calls Try.prog 10 #[.int .u64 t, .int .u64 b, .bool seen, .int .u64 s] w fun e w' => e = .returned (.bool (frN t b seen s)) ∧ Below w.heap.size w w' := by
  unfold frN
  cases seen with
  | false => exact fresh_none _ _ _ _
  | true =>
    simp only [if_true]
    by_cases hc : t < s
    · rw [if_pos hc]
      exact fresh_above _ _ _ _ (by omega)
    · rw [if_neg hc]
      have hw := wrap_sub (Nat.le_of_not_lt hc) ht
      by_cases hd : 64 ≤ t - s
      · rw [if_pos hd]
        exact fresh_old _ _ _ _ (by omega) _ hw (by omega)
      · rw [if_neg hd]
        have := fresh_in (t : Int) (b : Int) (s : Int) w (by omega) _ hw (by omega) (by omega)
        rw [Int.toNat_natCast, and_wrap _ _ hb] at this
        have e : (((b &&& 2 ^ (t - s) % M64 : Nat) : Int) == 0) = !(b.testBit (t - s)) := by
          rw [pow_mod _ (by omega)]
          exact and_pow_eq b (t - s)
        rwa [e] at this

theorem mB_lt (t b : Nat) (seen : Bool) (s : Nat) (hb : b < M64) : mB t b seen s < M64 := by
  rw [M64_pow] at *
  have h1 : 1 < 2 ^ 64 := by decide
  unfold mB
  split
  · split
    · split
      · exact Nat.or_lt_two_pow (Nat.mod_lt _ (by rw [M64_pow]; decide)) h1
      · exact h1
    · exact Nat.or_lt_two_pow hb (Nat.mod_lt _ (by rw [M64_pow]; decide))
  · exact h1
theorem mT_lt (t : Nat) (seen : Bool) (s : Nat) (ht : t < M64) (hs : s < M64) : mT t seen s < M64 := by
  unfold mT
  split
  · split
    · exact hs
    · exact ht
  · exact hs

theorem testBit_one (i : Nat) : (1 : Nat).testBit i = decide (i = 0) := by
  cases i with
  | zero => rfl
  | succ i => simp [Nat.testBit_succ]

/-- The bits that mark leaves, one by one. -/
theorem mB_bit (t b : Nat) (seen : Bool) (s i : Nat) (hi : i < 64) :
    (mB t b seen s).testBit i = (decide (mT t seen s - s = i) || (seen && decide (mT t seen s - t ≤ i) && b.testBit (i - (mT t seen s - t)))) := by
  unfold mB mT
  cases seen with
  | false => simp [testBit_one, eq_comm]
  | true =>
    simp only [if_true, Bool.true_and]
    by_cases hc : t < s
    · rw [if_pos hc, if_pos hc]
      by_cases hd : s - t < 64
      · rw [if_pos hd, Nat.testBit_or, testBit_one, M64_pow, Nat.testBit_mod_two_pow, Nat.testBit_mul_two_pow]
        have e : s - s = 0 := by omega
        rw [e]
        by_cases h0 : i = 0
        · subst h0; simp
        · rw [Bool.or_comm]; simp [hi, eq_comm]
      · rw [if_neg hd, testBit_one]
        have e : s - s = 0 := by omega
        rw [e]
        have : ¬ s - t ≤ i := by omega
        simp [this, eq_comm]
    · rw [if_neg hc, if_neg hc, Nat.testBit_or]
      have e : t - t = 0 := by omega
      rw [e]
      by_cases hd : t - s < 64
      · rw [Nat.min_eq_left (by omega), pow_mod _ hd, Nat.testBit_two_pow, Bool.or_comm]
        simp
      · have e2 : 2 ^ min (t - s) 64 % M64 = 0 := by rw [Nat.min_eq_right (by omega), M64_pow, Nat.mod_self]
        have : ¬ t - s = i := by omega
        rw [e2]
        simp [this]

end Go.Proofs.Qxb6605215a
