import Derived.Test.Qxb6605215aBits
import Derived.Deep.RegionWith
namespace Go.Proofs.Qxb6605215a
open Go.ChangeShapes Go.WideShapes Go.ChangeAt Go.RowKit
set_option linter.unusedVariables false

theorem mT_true (t s : Nat) : mT t true s = max t s := by
  unfold mT
  rw [if_pos rfl]
  by_cases h : t < s
  · rw [if_pos h]; omega
  · rw [if_neg h]; omega
theorem mT_false (t s : Nat) : mT t false s = s := rfl

/-- The greatest of a, b and, if there is one, the old top. -/
def wantT (t : Nat) (seen : Bool) (a b : Nat) : Nat := mT t seen (max a b)

theorem mT_mT (t : Nat) (seen : Bool) (a b : Nat) : mT (mT t seen a) true b = wantT t seen a b := by
  unfold wantT
  cases seen
  · rw [mT_true, mT_false, mT_false]
  · rw [mT_true, mT_true, mT_true]; omega
theorem wantT_comm (t : Nat) (seen : Bool) (a b : Nat) : wantT t seen a b = wantT t seen b a := by
  unfold wantT
  rw [Nat.max_comm]
theorem mT_cases (t : Nat) (seen : Bool) (s : Nat) : s ≤ mT t seen s ∧ (seen = true → t ≤ mT t seen s) := by
  cases seen
  · rw [mT_false]; exact ⟨Nat.le_refl _, fun h => by cases h⟩
  · rw [mT_true]; exact ⟨by omega, fun _ => by omega⟩
theorem wantT_ge (t : Nat) (seen : Bool) (a b : Nat) : a ≤ wantT t seen a b ∧ b ≤ wantT t seen a b := by
  have := (mT_cases t seen (max a b)).1
  unfold wantT
  omega

/-- Bit i of the window after two marks, by the numbers alone. -/
theorem bit2 (t b : Nat) (seen : Bool) (x y i : Nat) (hi : i < 64) :
    (mB (mT t seen x) (mB t b seen x) true y).testBit i =
      (decide (wantT t seen x y - y = i) || (decide (wantT t seen x y - x = i) || (seen && decide (wantT t seen x y - t ≤ i) && b.testBit (i - (wantT t seen x y - t))))) := by
  rw [mB_bit _ _ _ _ _ hi, mT_mT, Bool.true_and]
  have h1 := wantT_ge t seen x y
  have h2 := mT_cases t seen x
  have h3 : mT t seen x ≤ wantT t seen x y := by
    rw [← mT_mT, mT_true]
    omega
  congr 1
  by_cases hd : wantT t seen x y - mT t seen x ≤ i
  · rw [decide_eq_true hd, Bool.true_and, mB_bit _ _ _ _ _ (by omega)]
    congr 1
    · rw [Bool.eq_iff_iff]; simp only [decide_eq_true_eq]; omega
    · cases seen with
      | false => rfl
      | true =>
        have h4 := h2.2 rfl
        simp only [Bool.true_and]
        have e1 : decide (mT t true x - t ≤ i - (wantT t true x y - mT t true x)) = decide (wantT t true x y - t ≤ i) := by
          rw [Bool.eq_iff_iff]; simp only [decide_eq_true_eq]; omega
        have e2 : i - (wantT t true x y - mT t true x) - (mT t true x - t) = i - (wantT t true x y - t) := by omega
        rw [e1, e2]
  · rw [decide_eq_false hd, Bool.false_and]
    have n1 : ¬ wantT t seen x y - x = i := by omega
    rw [decide_eq_false n1, Bool.false_or]
    cases seen with
    | false => rfl
    | true =>
      have h4 := h2.2 rfl
      have n2 : ¬ wantT t true x y - t ≤ i := by omega
      rw [decide_eq_false n2]; rfl

theorem free_eq (t b : Nat) (seen : Bool) (x y : Nat) (hb : b < M64) : mB (mT t seen x) (mB t b seen x) true y = mB (mT t seen y) (mB t b seen y) true x := by
  refine Nat.eq_of_testBit_eq fun i => ?_
  by_cases hi : i < 64
  · rw [bit2 _ _ _ _ _ _ hi, bit2 _ _ _ _ _ _ hi, wantT_comm t seen y x, ← Bool.or_assoc, ← Bool.or_assoc, Bool.or_comm (decide (wantT t seen x y - y = i))]
  · have h1 := mB_lt (mT t seen x) (mB t b seen x) true y (mB_lt _ _ _ _ hb)
    have h2 := mB_lt (mT t seen y) (mB t b seen y) true x (mB_lt _ _ _ _ hb)
    rw [M64_pow] at h1 h2
    have hp : 2 ^ 64 ≤ 2 ^ i := Nat.pow_le_pow_right (by decide) (by omega)
    rw [Nat.testBit_lt_two_pow (Nat.lt_of_lt_of_le h1 hp), Nat.testBit_lt_two_pow (Nat.lt_of_lt_of_le h2 hp)]

theorem free_bitA (t b : Nat) (seen : Bool) (x y : Nat) (h : wantT t seen x y - x < 64) : (mB (mT t seen x) (mB t b seen x) true y).testBit (wantT t seen x y - x) = true := by
  rw [bit2 _ _ _ _ _ _ h]; simp
theorem free_bitB (t b : Nat) (seen : Bool) (x y : Nat) (h : wantT t seen x y - y < 64) : (mB (mT t seen x) (mB t b seen x) true y).testBit (wantT t seen x y - y) = true := by
  rw [bit2 _ _ _ _ _ _ h]; simp

theorem bit_true {x i : Nat} (w : World) (hx : x < M64) (hi : i < 64) (h : x.testBit i = true) :
    Calls Try.prog 9 #[.int .u64 x, .int .u64 i] w fun e w' => e = .returned (.bool true) ∧ w = w' := by
  have := bitAt_any x i w hx hi
  rwa [h] at this
theorem bit0_true {x : Nat} (w : World) (hx : x < M64) (h : x.testBit 0 = true) :
    Calls Try.prog 9 #[.int .u64 x, .int .u64 0] w fun e w' => e = .returned (.bool true) ∧ w = w' := bit_true (i := 0) w hx (by decide) h

/-- The four marks, and where they leave the window. -/
structure Marks (t b : Nat) (seen : Bool) (x y W N : Nat) : Prop where
  one : ∃ T1 B1 T2 B2 : Nat, (∀ w, Calls Try.prog 8 #[.int .u64 t, .int .u64 b, .bool seen, .int .u64 x] w fun e w' => RetMark T1 B1 e ∧ Below w.heap.size w w') ∧
    (∀ w, Calls Try.prog 8 #[.int .u64 T1, .int .u64 B1, .bool true, .int .u64 y] w fun e w' => RetMark W N e ∧ Below w.heap.size w w') ∧
    (∀ w, Calls Try.prog 8 #[.int .u64 t, .int .u64 b, .bool seen, .int .u64 y] w fun e w' => RetMark T2 B2 e ∧ Below w.heap.size w w') ∧
    (∀ w, Calls Try.prog 8 #[.int .u64 T2, .int .u64 B2, .bool true, .int .u64 x] w fun e w' => RetMark W N e ∧ Below w.heap.size w w')
  lt : N < M64

set_option maxHeartbeats 4000000 in
theorem free_top (t b x y N dx dy : Nat) (w : World) (hx : x < t) (hy : y < t) (hm : Marks t b true x y t N) (wx : IntKind.u64.wrap ((t : Int) - (x : Int)) = (dx : Int)) (wy : IntKind.u64.wrap ((t : Int) - (y : Int)) = (dy : Int))
    (hbx : dx < 64 → N.testBit dx = true) (hby : dy < 64 → N.testBit dy = true) :
    Calls Try.prog 4 #[.int .u64 t, .int .u64 b, .bool true, .int .u64 x, .int .u64 y] w fun e w' => e = .returned (.bool true) ∧ Below w.heap.size w w' := by
  by_cases hxy : x < y
  · obtain ⟨⟨T1, B1, T2, B2, m1, m2, m3, m4⟩, hN⟩ := hm
    go_enter Try.func4, Try.ntmps4
    go_wp2_with fail
    refine (m1 w).mono ?_
    rintro e w1 ⟨rfl, h1⟩
    go_wp2_with fail
    refine (m2 w1).mono ?_
    rintro e w2 ⟨rfl, h2⟩
    go_wp2_with fail
    refine (m3 w2).mono ?_
    rintro e w3 ⟨rfl, h3⟩
    go_wp2_with fail
    refine (m4 w3).mono ?_
    rintro e w4 ⟨rfl, h4⟩
    clear m1 m2 m3 m4
    have h12 := h1.trans (h2.mono h1.size)
    have h13 := h12.trans (h3.mono h12.size)
    have h14 := h13.trans (h4.mono h13.size)
    clear h1 h2 h3 h4 h12 h13
    by_cases cdx : dx < 64
    · have tdx := hbx cdx
      by_cases cdy : dy < 64
      · have tdy := hby cdy
        go_wp2_with (first | (go_at_call_of 9 (Value.int .u64 (dx : Int)); refine (bit_true (i := dx) _ hN cdx tdx).mono ?_; rintro e w' ⟨rfl, rfl⟩) | (go_at_call_of 9 (Value.int .u64 (dy : Int)); refine (bit_true (i := dy) _ hN cdy tdy).mono ?_; rintro e w' ⟨rfl, rfl⟩))
        go_ret
        exact ⟨rfl, h14⟩
      · skip
        go_wp2_with ((go_at_call_of 9 (Value.int .u64 (dx : Int)); refine (bit_true (i := dx) _ hN cdx tdx).mono ?_; rintro e w' ⟨rfl, rfl⟩))
        go_ret
        exact ⟨rfl, h14⟩
    · skip
      by_cases cdy : dy < 64
      · have tdy := hby cdy
        go_wp2_with ((go_at_call_of 9 (Value.int .u64 (dy : Int)); refine (bit_true (i := dy) _ hN cdy tdy).mono ?_; rintro e w' ⟨rfl, rfl⟩))
        go_ret
        exact ⟨rfl, h14⟩
      · skip
        go_wp2_with fail
        go_ret
        exact ⟨rfl, h14⟩
  · obtain ⟨⟨T1, B1, T2, B2, m1, m2, m3, m4⟩, hN⟩ := hm
    go_enter Try.func4, Try.ntmps4
    go_wp2_with fail
    refine (m1 w).mono ?_
    rintro e w1 ⟨rfl, h1⟩
    go_wp2_with fail
    refine (m2 w1).mono ?_
    rintro e w2 ⟨rfl, h2⟩
    go_wp2_with fail
    refine (m3 w2).mono ?_
    rintro e w3 ⟨rfl, h3⟩
    go_wp2_with fail
    refine (m4 w3).mono ?_
    rintro e w4 ⟨rfl, h4⟩
    clear m1 m2 m3 m4
    have h12 := h1.trans (h2.mono h1.size)
    have h13 := h12.trans (h3.mono h12.size)
    have h14 := h13.trans (h4.mono h13.size)
    clear h1 h2 h3 h4 h12 h13
    by_cases cdx : dx < 64
    · have tdx := hbx cdx
      by_cases cdy : dy < 64
      · have tdy := hby cdy
        go_wp2_with (first | (go_at_call_of 9 (Value.int .u64 (dx : Int)); refine (bit_true (i := dx) _ hN cdx tdx).mono ?_; rintro e w' ⟨rfl, rfl⟩) | (go_at_call_of 9 (Value.int .u64 (dy : Int)); refine (bit_true (i := dy) _ hN cdy tdy).mono ?_; rintro e w' ⟨rfl, rfl⟩))
        go_ret
        exact ⟨rfl, h14⟩
      · skip
        go_wp2_with ((go_at_call_of 9 (Value.int .u64 (dx : Int)); refine (bit_true (i := dx) _ hN cdx tdx).mono ?_; rintro e w' ⟨rfl, rfl⟩))
        go_ret
        exact ⟨rfl, h14⟩
    · skip
      by_cases cdy : dy < 64
      · have tdy := hby cdy
        go_wp2_with ((go_at_call_of 9 (Value.int .u64 (dy : Int)); refine (bit_true (i := dy) _ hN cdy tdy).mono ?_; rintro e w' ⟨rfl, rfl⟩))
        go_ret
        exact ⟨rfl, h14⟩
      · skip
        go_wp2_with fail
        go_ret
        exact ⟨rfl, h14⟩

set_option maxHeartbeats 4000000 in
theorem free_y_none (t b x y N d : Nat) (w : World) (hxy : x < y) (hm : Marks t b false x y y N) (wd : IntKind.u64.wrap ((y : Int) - (x : Int)) = (d : Int))
    (hbd : d < 64 → N.testBit d = true) (h0 : N.testBit 0 = true) :
    Calls Try.prog 4 #[.int .u64 t, .int .u64 b, .bool false, .int .u64 x, .int .u64 y] w fun e w' => e = .returned (.bool true) ∧ Below w.heap.size w w' := by
  obtain ⟨⟨T1, B1, T2, B2, m1, m2, m3, m4⟩, hN⟩ := hm
  go_enter Try.func4, Try.ntmps4
  go_wp2_with fail
  refine (m1 w).mono ?_
  rintro e w1 ⟨rfl, h1⟩
  go_wp2_with fail
  refine (m2 w1).mono ?_
  rintro e w2 ⟨rfl, h2⟩
  go_wp2_with fail
  refine (m3 w2).mono ?_
  rintro e w3 ⟨rfl, h3⟩
  go_wp2_with fail
  refine (m4 w3).mono ?_
  rintro e w4 ⟨rfl, h4⟩
  clear m1 m2 m3 m4
  have h12 := h1.trans (h2.mono h1.size)
  have h13 := h12.trans (h3.mono h12.size)
  have h14 := h13.trans (h4.mono h13.size)
  clear h1 h2 h3 h4 h12 h13
  by_cases cd : d < 64
  · have td := hbd cd
    go_wp2_with (first | (go_at_call_of 9 (Value.int .u64 (0 : Int)); refine (bit0_true _ hN h0).mono ?_; rintro e w' ⟨rfl, rfl⟩) | (go_at_call_of 9 (Value.int .u64 (d : Int)); refine (bit_true (i := d) _ hN cd td).mono ?_; rintro e w' ⟨rfl, rfl⟩))
    go_ret
    exact ⟨rfl, h14⟩
  · skip
    go_wp2_with ((go_at_call_of 9 (Value.int .u64 (0 : Int)); refine (bit0_true _ hN h0).mono ?_; rintro e w' ⟨rfl, rfl⟩))
    go_ret
    exact ⟨rfl, h14⟩

set_option maxHeartbeats 4000000 in
theorem free_y_seen (t b x y N d : Nat) (w : World) (hxy : x < y) (hty : ¬ y < t) (hm : Marks t b true x y y N) (wd : IntKind.u64.wrap ((y : Int) - (x : Int)) = (d : Int))
    (hbd : d < 64 → N.testBit d = true) (h0 : N.testBit 0 = true) :
    Calls Try.prog 4 #[.int .u64 t, .int .u64 b, .bool true, .int .u64 x, .int .u64 y] w fun e w' => e = .returned (.bool true) ∧ Below w.heap.size w w' := by
  obtain ⟨⟨T1, B1, T2, B2, m1, m2, m3, m4⟩, hN⟩ := hm
  go_enter Try.func4, Try.ntmps4
  go_wp2_with fail
  refine (m1 w).mono ?_
  rintro e w1 ⟨rfl, h1⟩
  go_wp2_with fail
  refine (m2 w1).mono ?_
  rintro e w2 ⟨rfl, h2⟩
  go_wp2_with fail
  refine (m3 w2).mono ?_
  rintro e w3 ⟨rfl, h3⟩
  go_wp2_with fail
  refine (m4 w3).mono ?_
  rintro e w4 ⟨rfl, h4⟩
  clear m1 m2 m3 m4
  have h12 := h1.trans (h2.mono h1.size)
  have h13 := h12.trans (h3.mono h12.size)
  have h14 := h13.trans (h4.mono h13.size)
  clear h1 h2 h3 h4 h12 h13
  by_cases cd : d < 64
  · have td := hbd cd
    go_wp2_with (first | (go_at_call_of 9 (Value.int .u64 (0 : Int)); refine (bit0_true _ hN h0).mono ?_; rintro e w' ⟨rfl, rfl⟩) | (go_at_call_of 9 (Value.int .u64 (d : Int)); refine (bit_true (i := d) _ hN cd td).mono ?_; rintro e w' ⟨rfl, rfl⟩))
    go_ret
    exact ⟨rfl, h14⟩
  · skip
    go_wp2_with ((go_at_call_of 9 (Value.int .u64 (0 : Int)); refine (bit0_true _ hN h0).mono ?_; rintro e w' ⟨rfl, rfl⟩))
    go_ret
    exact ⟨rfl, h14⟩

set_option maxHeartbeats 4000000 in
theorem free_x_none (t b x y N d : Nat) (w : World) (hxy : ¬ x < y) (hm : Marks t b false x y x N) (wd : IntKind.u64.wrap ((x : Int) - (y : Int)) = (d : Int))
    (hbd : d < 64 → N.testBit d = true) (h0 : N.testBit 0 = true) :
    Calls Try.prog 4 #[.int .u64 t, .int .u64 b, .bool false, .int .u64 x, .int .u64 y] w fun e w' => e = .returned (.bool true) ∧ Below w.heap.size w w' := by
  obtain ⟨⟨T1, B1, T2, B2, m1, m2, m3, m4⟩, hN⟩ := hm
  go_enter Try.func4, Try.ntmps4
  go_wp2_with fail
  refine (m1 w).mono ?_
  rintro e w1 ⟨rfl, h1⟩
  go_wp2_with fail
  refine (m2 w1).mono ?_
  rintro e w2 ⟨rfl, h2⟩
  go_wp2_with fail
  refine (m3 w2).mono ?_
  rintro e w3 ⟨rfl, h3⟩
  go_wp2_with fail
  refine (m4 w3).mono ?_
  rintro e w4 ⟨rfl, h4⟩
  clear m1 m2 m3 m4
  have h12 := h1.trans (h2.mono h1.size)
  have h13 := h12.trans (h3.mono h12.size)
  have h14 := h13.trans (h4.mono h13.size)
  clear h1 h2 h3 h4 h12 h13
  by_cases cd : d < 64
  · have td := hbd cd
    go_wp2_with (first | (go_at_call_of 9 (Value.int .u64 (0 : Int)); refine (bit0_true _ hN h0).mono ?_; rintro e w' ⟨rfl, rfl⟩) | (go_at_call_of 9 (Value.int .u64 (d : Int)); refine (bit_true (i := d) _ hN cd td).mono ?_; rintro e w' ⟨rfl, rfl⟩))
    go_ret
    exact ⟨rfl, h14⟩
  · skip
    go_wp2_with ((go_at_call_of 9 (Value.int .u64 (0 : Int)); refine (bit0_true _ hN h0).mono ?_; rintro e w' ⟨rfl, rfl⟩))
    go_ret
    exact ⟨rfl, h14⟩

set_option maxHeartbeats 4000000 in
theorem free_x_seen (t b x y N d : Nat) (w : World) (hxy : ¬ x < y) (hty : ¬ x < t) (hm : Marks t b true x y x N) (wd : IntKind.u64.wrap ((x : Int) - (y : Int)) = (d : Int))
    (hbd : d < 64 → N.testBit d = true) (h0 : N.testBit 0 = true) :
    Calls Try.prog 4 #[.int .u64 t, .int .u64 b, .bool true, .int .u64 x, .int .u64 y] w fun e w' => e = .returned (.bool true) ∧ Below w.heap.size w w' := by
  obtain ⟨⟨T1, B1, T2, B2, m1, m2, m3, m4⟩, hN⟩ := hm
  go_enter Try.func4, Try.ntmps4
  go_wp2_with fail
  refine (m1 w).mono ?_
  rintro e w1 ⟨rfl, h1⟩
  go_wp2_with fail
  refine (m2 w1).mono ?_
  rintro e w2 ⟨rfl, h2⟩
  go_wp2_with fail
  refine (m3 w2).mono ?_
  rintro e w3 ⟨rfl, h3⟩
  go_wp2_with fail
  refine (m4 w3).mono ?_
  rintro e w4 ⟨rfl, h4⟩
  clear m1 m2 m3 m4
  have h12 := h1.trans (h2.mono h1.size)
  have h13 := h12.trans (h3.mono h12.size)
  have h14 := h13.trans (h4.mono h13.size)
  clear h1 h2 h3 h4 h12 h13
  by_cases cd : d < 64
  · have td := hbd cd
    go_wp2_with (first | (go_at_call_of 9 (Value.int .u64 (0 : Int)); refine (bit0_true _ hN h0).mono ?_; rintro e w' ⟨rfl, rfl⟩) | (go_at_call_of 9 (Value.int .u64 (d : Int)); refine (bit_true (i := d) _ hN cd td).mono ?_; rintro e w' ⟨rfl, rfl⟩))
    go_ret
    exact ⟨rfl, h14⟩
  · skip
    go_wp2_with ((go_at_call_of 9 (Value.int .u64 (0 : Int)); refine (bit0_true _ hN h0).mono ?_; rintro e w' ⟨rfl, rfl⟩))
    go_ret
    exact ⟨rfl, h14⟩

end Go.Proofs.Qxb6605215a
