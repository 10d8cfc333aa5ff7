import Derived.Test.Qxb6605215aBits
import Derived.Deep.RegionWith
namespace Go.Proofs.Qxb6605215a
open Go.ChangeShapes Go.WideShapes Go.ChangeAt Go.RowKit
set_option linter.unusedVariables false

/-- Is the number at index d among the first k? -/
def recF (d b k : Nat) : Bool := decide (d < k) && b.testBit d
theorem recF_zero (d b : Nat) : recF d b 0 = false := by simp [recF]
theorem recF_hit {d b k : Nat} (h : k = d) : recF d b (k + 1) = b.testBit k := by subst h; simp [recF]
theorem recF_before {d b k : Nat} (h : k ≤ d) : recF d b k = false := by simp [recF]; omega
theorem recF_miss {d b k : Nat} (h : ¬ k = d) : recF d b (k + 1) = recF d b k := by
  unfold recF
  congr 1
  rw [Bool.eq_iff_iff]
  simp only [decide_eq_true_eq]
  omega

set_option maxHeartbeats 2000000 in
theorem exact_none (t b s NB : Nat) (w : World)
    (hf : ∀ w, Calls Try.prog 10 #[.int .u64 t, .int .u64 b, .bool false, .int .u64 s] w fun e w' => e = .returned (.bool true) ∧ Below w.heap.size w w')
    (hm : ∀ w, Calls Try.prog 8 #[.int .u64 t, .int .u64 b, .bool false, .int .u64 s] w fun e w' => RetMark s NB e ∧ Below w.heap.size w w') :
    Calls Try.prog 5 #[.int .u64 t, .int .u64 b, .bool false, .int .u64 s] w fun e w' => e = .returned (.bool true) ∧ Below w.heap.size w w' := by
  go_enter Try.func5, Try.ntmps5
  go_wp2_with fail
  refine (hf w).mono ?_
  rintro e w1 ⟨rfl, h1⟩
  clear hf
  go_wp2_with fail
  refine (hm w1).mono ?_
  rintro e w2 ⟨rfl, h2⟩
  clear hm
  go_wp2
  all_goals
    go_ret
    exact ⟨rfl, h1.trans (h2.mono h1.size)⟩

set_option maxHeartbeats 2000000 in
theorem exact_above (t b s NB : Nat) (w : World) (hc : t < s)
    (hf : ∀ w, Calls Try.prog 10 #[.int .u64 t, .int .u64 b, .bool true, .int .u64 s] w fun e w' => e = .returned (.bool true) ∧ Below w.heap.size w w')
    (hm : ∀ w, Calls Try.prog 8 #[.int .u64 t, .int .u64 b, .bool true, .int .u64 s] w fun e w' => RetMark s NB e ∧ Below w.heap.size w w') :
    Calls Try.prog 5 #[.int .u64 t, .int .u64 b, .bool true, .int .u64 s] w fun e w' => e = .returned (.bool true) ∧ Below w.heap.size w w' := by
  have hne : ((s : Int) != (t : Int)) = true := by simp; omega
  go_enter Try.func5, Try.ntmps5
  go_wp2_with fail
  refine (hf w).mono ?_
  rintro e w1 ⟨rfl, h1⟩
  clear hf
  go_wp2_with fail
  refine (hm w1).mono ?_
  rintro e w2 ⟨rfl, h2⟩
  clear hm
  go_wp2
  all_goals
    go_ret
    exact ⟨rfl, h1.trans (h2.mono h1.size)⟩

set_option maxHeartbeats 4000000 in
theorem exact_old (t b s d NB : Nat) (w : World) (ht : t < M64) (hb64 : b < M64) (hst : ¬ t < s) (hd : d = t - s) (hwd : IntKind.u64.wrap ((t : Int) - (s : Int)) = (d : Int)) (hd64 : 64 ≤ d) (hNB : b = NB)
    (hf : ∀ w, Calls Try.prog 10 #[.int .u64 t, .int .u64 b, .bool true, .int .u64 s] w fun e w' => e = .returned (.bool false) ∧ Below w.heap.size w w')
    (hm : ∀ w, Calls Try.prog 8 #[.int .u64 t, .int .u64 b, .bool true, .int .u64 s] w fun e w' => RetMark t NB e ∧ Below w.heap.size w w') :
    Calls Try.prog 5 #[.int .u64 t, .int .u64 b, .bool true, .int .u64 s] w fun e w' => e = .returned (.bool true) ∧ Below w.heap.size w w' := by
  have hle : s ≤ t := Nat.le_of_not_lt hst
  have hd6 : (64 : Int) ≤ (d : Int) := by omega
  subst hNB
  have HDD : Hid (d = t - s) := hd
  clear hd
  go_enter Try.func5, Try.ntmps5
  go_wp2_with fail
  refine (hf w).mono ?_
  rintro e w1 ⟨rfl, h1⟩
  clear hf
  go_wp2
  go_loopw [10, 12] (fun rc i wr => ∃ k : Nat, k ≤ 64 ∧ i = .int .u64 k ∧ rc = .bool (recF d b k) ∧ w1 = wr) (fun _ i _ => 64 - (intOf i).toNat)
  case atStart => exact ⟨0, by omega, rfl, by rw [recF_zero], rfl⟩
  case round =>
    obtain ⟨k, hk, rfl, rfl, rfl⟩ := hrel
    by_cases hlt : k < 64
    · by_cases hkt : k ≤ t
      · obtain ⟨r, hr⟩ : ∃ r, r = t - k := ⟨_, rfl⟩
        have hwk : IntKind.u64.wrap ((t : Int) - (k : Int)) = (r : Int) := by rw [hr]; exact wrap_sub hkt ht
        by_cases hkd : k = d
        · have hrs : ((r : Int) == (s : Int)) = true := by have := HDD.out; simp; omega
          have hrec := recF_hit hkd (b := b)
          have HREC : Hid (recF d b (k + 1) = b.testBit k) := hrec
          have HOLD : Hid (recF d b k = false) := recF_before (by omega)
          clear hr hrec hkd
          cases hbt : b.testBit k with
          | true =>
            go_wp2_with (go_at_call 9; refine (bitAt_any b k _ hb64 hlt).mono ?_; rintro e w' ⟨rfl, rfl⟩)
            go_roundw
            case rel => exact ⟨k + 1, by omega, by go_num, by first | (rw [HREC.out, hbt]; done) | rw [HREC.out, hbt, HOLD.out], by first | rfl | trivial⟩
            case measure => simp [intOf]; omega
          | false =>
            go_wp2_with (go_at_call 9; refine (bitAt_any b k _ hb64 hlt).mono ?_; rintro e w' ⟨rfl, rfl⟩)
            go_roundw
            case rel => exact ⟨k + 1, by omega, by go_num, by first | (rw [HREC.out, hbt]; done) | rw [HREC.out, hbt, HOLD.out], by first | rfl | trivial⟩
            case measure => simp [intOf]; omega
        · have hrs : ((r : Int) == (s : Int)) = false := by have := HDD.out; simp; omega
          have HREC : Hid (recF d b (k + 1) = recF d b k) := recF_miss hkd
          clear hr hkd
          cases hbt : b.testBit k with
          | true =>
            go_wp2_with (go_at_call 9; refine (bitAt_any b k _ hb64 hlt).mono ?_; rintro e w' ⟨rfl, rfl⟩)
            go_roundw
            case rel => exact ⟨k + 1, by omega, by go_num, by rw [HREC.out], by first | rfl | trivial⟩
            case measure => simp [intOf]; omega
          | false =>
            go_wp2_with (go_at_call 9; refine (bitAt_any b k _ hb64 hlt).mono ?_; rintro e w' ⟨rfl, rfl⟩)
            go_roundw
            case rel => exact ⟨k + 1, by omega, by go_num, by rw [HREC.out], by first | rfl | trivial⟩
            case measure => simp [intOf]; omega
      · have HREC : Hid (recF d b (k + 1) = recF d b k) := recF_miss (by have := HDD.out; omega)
        go_wp2_with fail
        go_roundw
        case rel => exact ⟨k + 1, by omega, by go_num, by rw [HREC.out], by first | rfl | trivial⟩
        case measure => simp [intOf]; omega
    · obtain rfl : k = 64 := by omega
      have hfin : recF d b 64 = false := recF_before hd64
      go_wp2_with fail
      refine (hm w1).mono ?_
      rintro e w2 ⟨rfl, h2⟩
      clear hm
      go_wp2
      go_ret
      exact ⟨rfl, h1.trans (h2.mono h1.size)⟩

set_option maxHeartbeats 4000000 in
theorem exact_in_set (t b s d NB : Nat) (w : World) (ht : t < M64) (hb64 : b < M64) (hst : ¬ t < s) (hd : d = t - s) (hwd : IntKind.u64.wrap ((t : Int) - (s : Int)) = (d : Int)) (hd64 : d < 64) (hset : b.testBit d = true) (hNB : b = NB)
    (hf : ∀ w, Calls Try.prog 10 #[.int .u64 t, .int .u64 b, .bool true, .int .u64 s] w fun e w' => e = .returned (.bool false) ∧ Below w.heap.size w w')
    (hm : ∀ w, Calls Try.prog 8 #[.int .u64 t, .int .u64 b, .bool true, .int .u64 s] w fun e w' => RetMark t NB e ∧ Below w.heap.size w w') :
    Calls Try.prog 5 #[.int .u64 t, .int .u64 b, .bool true, .int .u64 s] w fun e w' => e = .returned (.bool true) ∧ Below w.heap.size w w' := by
  have hle : s ≤ t := Nat.le_of_not_lt hst
  have hd6 : decide ((64 : Int) ≤ (d : Int)) = false := decide_eq_false (by omega)
  subst hNB
  have HDD : Hid (d = t - s) := hd
  clear hd
  go_enter Try.func5, Try.ntmps5
  go_wp2_with fail
  refine (hf w).mono ?_
  rintro e w1 ⟨rfl, h1⟩
  clear hf
  go_wp2
  go_loopw [10, 12] (fun rc i wr => ∃ k : Nat, k ≤ 64 ∧ i = .int .u64 k ∧ rc = .bool (recF d b k) ∧ w1 = wr) (fun _ i _ => 64 - (intOf i).toNat)
  case atStart => exact ⟨0, by omega, rfl, by rw [recF_zero], rfl⟩
  case round =>
    obtain ⟨k, hk, rfl, rfl, rfl⟩ := hrel
    by_cases hlt : k < 64
    · by_cases hkt : k ≤ t
      · obtain ⟨r, hr⟩ : ∃ r, r = t - k := ⟨_, rfl⟩
        have hwk : IntKind.u64.wrap ((t : Int) - (k : Int)) = (r : Int) := by rw [hr]; exact wrap_sub hkt ht
        by_cases hkd : k = d
        · have hrs : ((r : Int) == (s : Int)) = true := by have := HDD.out; simp; omega
          have hrec := recF_hit hkd (b := b)
          have HREC : Hid (recF d b (k + 1) = b.testBit k) := hrec
          have HOLD : Hid (recF d b k = false) := recF_before (by omega)
          clear hr hrec hkd
          cases hbt : b.testBit k with
          | true =>
            go_wp2_with (go_at_call 9; refine (bitAt_any b k _ hb64 hlt).mono ?_; rintro e w' ⟨rfl, rfl⟩)
            go_roundw
            case rel => exact ⟨k + 1, by omega, by go_num, by first | (rw [HREC.out, hbt]; done) | rw [HREC.out, hbt, HOLD.out], by first | rfl | trivial⟩
            case measure => simp [intOf]; omega
          | false =>
            go_wp2_with (go_at_call 9; refine (bitAt_any b k _ hb64 hlt).mono ?_; rintro e w' ⟨rfl, rfl⟩)
            go_roundw
            case rel => exact ⟨k + 1, by omega, by go_num, by first | (rw [HREC.out, hbt]; done) | rw [HREC.out, hbt, HOLD.out], by first | rfl | trivial⟩
            case measure => simp [intOf]; omega
        · have hrs : ((r : Int) == (s : Int)) = false := by have := HDD.out; simp; omega
          have HREC : Hid (recF d b (k + 1) = recF d b k) := recF_miss hkd
          clear hr hkd
          cases hbt : b.testBit k with
          | true =>
            go_wp2_with (go_at_call 9; refine (bitAt_any b k _ hb64 hlt).mono ?_; rintro e w' ⟨rfl, rfl⟩)
            go_roundw
            case rel => exact ⟨k + 1, by omega, by go_num, by rw [HREC.out], by first | rfl | trivial⟩
            case measure => simp [intOf]; omega
          | false =>
            go_wp2_with (go_at_call 9; refine (bitAt_any b k _ hb64 hlt).mono ?_; rintro e w' ⟨rfl, rfl⟩)
            go_roundw
            case rel => exact ⟨k + 1, by omega, by go_num, by rw [HREC.out], by first | rfl | trivial⟩
            case measure => simp [intOf]; omega
      · have HREC : Hid (recF d b (k + 1) = recF d b k) := recF_miss (by have := HDD.out; omega)
        go_wp2_with fail
        go_roundw
        case rel => exact ⟨k + 1, by omega, by go_num, by rw [HREC.out], by first | rfl | trivial⟩
        case measure => simp [intOf]; omega
    · obtain rfl : k = 64 := by omega
      have hfin : recF d b 64 = true := by simp [recF, hd64, hset]
      go_wp2_with fail
      refine (hm w1).mono ?_
      rintro e w2 ⟨rfl, h2⟩
      clear hm
      go_wp2
      go_ret
      exact ⟨rfl, h1.trans (h2.mono h1.size)⟩

set_option maxHeartbeats 4000000 in
theorem exact_in_clear (t b s d NB : Nat) (w : World) (ht : t < M64) (hb64 : b < M64) (hst : ¬ t < s) (hd : d = t - s) (hwd : IntKind.u64.wrap ((t : Int) - (s : Int)) = (d : Int)) (hd64 : d < 64) (hset : b.testBit d = false) (hNB : ((NB : Int) != (b : Int)) = true)
    (hf : ∀ w, Calls Try.prog 10 #[.int .u64 t, .int .u64 b, .bool true, .int .u64 s] w fun e w' => e = .returned (.bool true) ∧ Below w.heap.size w w')
    (hm : ∀ w, Calls Try.prog 8 #[.int .u64 t, .int .u64 b, .bool true, .int .u64 s] w fun e w' => RetMark t NB e ∧ Below w.heap.size w w') :
    Calls Try.prog 5 #[.int .u64 t, .int .u64 b, .bool true, .int .u64 s] w fun e w' => e = .returned (.bool true) ∧ Below w.heap.size w w' := by
  have hle : s ≤ t := Nat.le_of_not_lt hst
  have hd6 : decide ((64 : Int) ≤ (d : Int)) = false := decide_eq_false (by omega)
  have HDD : Hid (d = t - s) := hd
  clear hd
  go_enter Try.func5, Try.ntmps5
  go_wp2_with fail
  refine (hf w).mono ?_
  rintro e w1 ⟨rfl, h1⟩
  clear hf
  go_wp2
  go_loopw [10, 12] (fun rc i wr => ∃ k : Nat, k ≤ 64 ∧ i = .int .u64 k ∧ rc = .bool (recF d b k) ∧ w1 = wr) (fun _ i _ => 64 - (intOf i).toNat)
  case atStart => exact ⟨0, by omega, rfl, by rw [recF_zero], rfl⟩
  case round =>
    obtain ⟨k, hk, rfl, rfl, rfl⟩ := hrel
    by_cases hlt : k < 64
    · by_cases hkt : k ≤ t
      · obtain ⟨r, hr⟩ : ∃ r, r = t - k := ⟨_, rfl⟩
        have hwk : IntKind.u64.wrap ((t : Int) - (k : Int)) = (r : Int) := by rw [hr]; exact wrap_sub hkt ht
        by_cases hkd : k = d
        · have hrs : ((r : Int) == (s : Int)) = true := by have := HDD.out; simp; omega
          have hrec := recF_hit hkd (b := b)
          have HREC : Hid (recF d b (k + 1) = b.testBit k) := hrec
          have HOLD : Hid (recF d b k = false) := recF_before (by omega)
          clear hr hrec hkd
          cases hbt : b.testBit k with
          | true =>
            go_wp2_with (go_at_call 9; refine (bitAt_any b k _ hb64 hlt).mono ?_; rintro e w' ⟨rfl, rfl⟩)
            go_roundw
            case rel => exact ⟨k + 1, by omega, by go_num, by first | (rw [HREC.out, hbt]; done) | rw [HREC.out, hbt, HOLD.out], by first | rfl | trivial⟩
            case measure => simp [intOf]; omega
          | false =>
            go_wp2_with (go_at_call 9; refine (bitAt_any b k _ hb64 hlt).mono ?_; rintro e w' ⟨rfl, rfl⟩)
            go_roundw
            case rel => exact ⟨k + 1, by omega, by go_num, by first | (rw [HREC.out, hbt]; done) | rw [HREC.out, hbt, HOLD.out], by first | rfl | trivial⟩
            case measure => simp [intOf]; omega
        · have hrs : ((r : Int) == (s : Int)) = false := by have := HDD.out; simp; omega
          have HREC : Hid (recF d b (k + 1) = recF d b k) := recF_miss hkd
          clear hr hkd
          cases hbt : b.testBit k with
          | true =>
            go_wp2_with (go_at_call 9; refine (bitAt_any b k _ hb64 hlt).mono ?_; rintro e w' ⟨rfl, rfl⟩)
            go_roundw
            case rel => exact ⟨k + 1, by omega, by go_num, by rw [HREC.out], by first | rfl | trivial⟩
            case measure => simp [intOf]; omega
          | false =>
            go_wp2_with (go_at_call 9; refine (bitAt_any b k _ hb64 hlt).mono ?_; rintro e w' ⟨rfl, rfl⟩)
            go_roundw
            case rel => exact ⟨k + 1, by omega, by go_num, by rw [HREC.out], by first | rfl | trivial⟩
            case measure => simp [intOf]; omega
      · have HREC : Hid (recF d b (k + 1) = recF d b k) := recF_miss (by have := HDD.out; omega)
        go_wp2_with fail
        go_roundw
        case rel => exact ⟨k + 1, by omega, by go_num, by rw [HREC.out], by first | rfl | trivial⟩
        case measure => simp [intOf]; omega
    · obtain rfl : k = 64 := by omega
      have hfin : recF d b 64 = false := by simp [recF, hset]
      go_wp2_with fail
      refine (hm w1).mono ?_
      rintro e w2 ⟨rfl, h2⟩
      clear hm
      go_wp2
      go_ret
      exact ⟨rfl, h1.trans (h2.mono h1.size)⟩

end Go.Proofs.Qxb6605215a
