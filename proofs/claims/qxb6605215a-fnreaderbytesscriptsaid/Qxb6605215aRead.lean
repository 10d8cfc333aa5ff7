/-
  The reader.
-/
import Derived.Test.Qxb6605215aInts
namespace Go.Proofs.Qxb6605215a
open Go.ChangeShapes Go.WideShapes Go.ChangeAt Go.RowKit
set_option linter.unusedVariables false

/-- A slice of the n bytes S. -/
def IsSl (w : World) (B n : Nat) (S : Nat → Int) (v : Value) : Prop := ∃ ao c, v = .slice ao n c ∧ n ≤ c ∧ IsI .u8 w B ao n S

/-- What a good read leaves in the reader's block b. -/
def ReadPost (w : World) (b n m : Nat) (S : Nat → Int) (e : Ending) (w' : World) : Prop :=
  ∃ v rest, e = .returned v ∧ IsSl w b m S v ∧ w'.cell? ⟨b, 0, none⟩ = some rest ∧ IsSl w b (n - m) (fun i => S (m + i)) rest ∧ w'.cell? ⟨b, 1, none⟩ = some (.bool true) ∧ Below b w w'

theorem cut_head {w : World} {B : Nat} {ao : Option Addr} {n m : Nat} {S : Nat → Int} (h : IsI .u8 w B ao n S) (hm : m ≤ n) : IsI .u8 w B ao m S := by
  refine ⟨Nat.le_trans hm h.1, fun h0 => ?_⟩
  obtain ⟨b, off, hao, hlt, hs⟩ := h.2 (by omega)
  exact ⟨b, off, hao, hlt, fun i hi => hs i (by omega)⟩
theorem cut_tail {w : World} {B : Nat} {ao : Option Addr} {n m : Nat} {S : Nat → Int} (h : IsI .u8 w B ao n S) (hm : m ≤ n) : IsI .u8 w B (ao.map fun x => x.add m) (n - m) (fun i => S (m + i)) := by
  refine ⟨by have := h.1; omega, fun h0 => ?_⟩
  obtain ⟨b, off, hao, hlt, hs⟩ := h.2 (by omega)
  rw [hao]
  refine ⟨b, off + m, ?_, hlt, fun i hi => ?_⟩
  · show some (Addr.add _ m) = _
    unfold Addr.add
    split
    · subst_vars; rfl
    · rfl
  · rw [Nat.add_assoc]; exact hs (m + i) (by omega)
theorem cut_end {w : World} {B : Nat} {ao : Option Addr} {S : Nat → Int} : IsI .u8 w B ao 0 S := ⟨Nat.zero_le _, fun h => absurd h (Nat.lt_irrefl _)⟩

theorem bytes_good (ao : Option Addr) (n c m b : Nat) (S : Nat → Int) (w : World) (h0 : w.cell? ⟨b, 0, none⟩ = some (.slice ao n c)) (h1 : w.cell? ⟨b, 1, none⟩ = some (.bool true)) (f0 : w.frozen? ⟨b, 0, none⟩ = false) (hS : IsI .u8 w b ao n S) (hc : n ≤ c) (hm : m ≤ n) :
    Calls Try.prog 21 #[.pointer (some ⟨b, 0, none⟩), .int .i64 m] w (ReadPost w b n m S) := by
  have hmc : m ≤ c := by omega
  have hlt : ¬ n < m := by omega
  by_cases hcm : c = m
  · subst hcm
    obtain rfl : n = c := by omega
    go_enter Try.func21, Try.ntmps21
    go_wp2
    go_ret
    refine ⟨_, _, rfl, ⟨_, _, rfl, Nat.le_refl _, hS⟩, cell_at _ h0, ⟨_, _, by first | rfl | (rw [Nat.sub_self]; done), by omega, ?_⟩, ?_, below_set (Below.refl _ _) _ _⟩
    · rw [Nat.sub_self]; exact cut_end
    · rw [cell_off _ _ _ _ _ (by decide), h1]
  · go_enter Try.func21, Try.ntmps21
    go_wp2
    go_ret
    refine ⟨_, _, rfl, ⟨_, _, rfl, by omega, cut_head hS hm⟩, cell_at _ h0, ⟨_, _, rfl, by omega, cut_tail hS hm⟩, ?_, below_set (Below.refl _ _) _ _⟩
    rw [cell_off _ _ _ _ _ (by decide), h1]

theorem bytes_bad (ao : Option Addr) (n c m b : Nat) (ok : Bool) (w : World) (h0 : w.cell? ⟨b, 0, none⟩ = some (.slice ao n c)) (h1 : w.cell? ⟨b, 1, none⟩ = some (.bool ok)) (f1 : w.frozen? ⟨b, 1, none⟩ = false) (hbad : ok = true → n < m) :
    Calls Try.prog 21 #[.pointer (some ⟨b, 0, none⟩), .int .i64 m] w fun e w' => e = .returned (.slice none 0 0) ∧ w' = w.setCell ⟨b, 1, none⟩ (.bool false) := by
  cases ok with
  | true =>
    have hlt := hbad rfl
    clear hbad
    go_enter Try.func21, Try.ntmps21
    go_wp2
    go_ret
    exact ⟨rfl, rfl⟩
  | false =>
    clear hbad
    go_enter Try.func21, Try.ntmps21
    go_wp2
    go_ret
    exact ⟨rfl, rfl⟩

/-- What ZZBytes hands back after a good read. -/
def RetGood (w : World) (n m : Nat) (S : Nat → Int) (e : Ending) : Prop :=
  ∃ v rest, e = .returned (.tuple #[v, rest, .bool true]) ∧ IsSl w w.heap.size m S v ∧ IsSl w w.heap.size (n - m) (fun i => S (m + i)) rest

theorem IsI.back {k : IntKind} {w w' : World} {B : Nat} {ao : Option Addr} {n : Nat} {S : Nat → Int} (h : IsI k w' B ao n S) (hb : Below B w w') : IsI k w B ao n S := by
  refine ⟨h.1, fun h0 => ?_⟩
  obtain ⟨b, off, hao, hlt, hs⟩ := h.2 h0
  exact ⟨b, off, hao, hlt, fun i hi => (hb.cell (p := ⟨b, off + i, none⟩) hlt).symm.trans (hs i hi)⟩
theorem IsSl.back {w w' : World} {B n : Nat} {S : Nat → Int} {v : Value} (h : IsSl w' B n S v) (hb : Below B w w') : IsSl w B n S v := by
  obtain ⟨ao, c, rfl, hc, hi⟩ := h
  exact ⟨ao, c, rfl, hc, hi.back hb⟩
theorem IsSl.keep {w w' : World} {B n : Nat} {S : Nat → Int} {v : Value} (h : IsSl w B n S v) (hb : Below B w w') : IsSl w' B n S v := by
  obtain ⟨ao, c, rfl, hc, hi⟩ := h
  exact ⟨ao, c, rfl, hc, hi.kept hb⟩

theorem zzb_good (ao : Option Addr) (n c m : Nat) (S : Nat → Int) (w : World) (hS : IsI .u8 w w.heap.size ao n S) (hc : n ≤ c) (hm : m ≤ n) :
    Calls Try.prog 17 #[.slice ao n c, .bool true, .int .i64 m] w fun e w' => RetGood w n m S e ∧ Below w.heap.size w w' := by
  have c0 : (w.alloc (.cells #[.slice ao n c, .bool true] 47)).cell? ⟨w.heap.size, 0, none⟩ = some (.slice ao n c) := by rw [World.cell?_alloc_at _ _ _ _ rfl]; rfl
  have c1 : (w.alloc (.cells #[.slice ao n c, .bool true] 47)).cell? ⟨w.heap.size, 1, none⟩ = some (.bool true) := by rw [World.cell?_alloc_at _ _ _ _ rfl]; rfl
  have f0 : (w.alloc (.cells #[.slice ao n c, .bool true] 47)).frozen? ⟨w.heap.size, 0, none⟩ = false := World.frozen?_alloc_at _ _ _ _ rfl
  have hal : Below w.heap.size w (w.alloc (.cells #[.slice ao n c, .bool true] 47)) := (Below.refl _ _).alloc (Nat.le_refl _) _
  have h := bytes_good ao n c m w.heap.size S _ c0 c1 f0 (hS.kept hal) hc hm
  clear c0 c1 f0
  go_enter Try.func17, Try.ntmps17
  go_wp2_with fail
  refine h.mono ?_
  clear h
  rintro e w1 ⟨v, rest, rfl, hv, hr0, hr, hr1, hb⟩
  have hv' := hv.back hal
  have hr' := hr.back hal
  clear hv hr
  obtain ⟨a1, c1, rfl, q1⟩ := hv'
  obtain ⟨a2, c2, rfl, q2⟩ := hr'
  go_wp2
  go_quiet (fail)
  go_wp2
  go_ret3
  exact ⟨⟨_, _, rfl, ⟨_, _, rfl, q1⟩, ⟨_, _, rfl, q2⟩⟩, below_drewN (hal.trans hb) _⟩

theorem zzb_bad (ao : Option Addr) (n c m : Nat) (ok : Bool) (w : World) (hbad : ok = true → n < m) :
    Calls Try.prog 17 #[.slice ao n c, .bool ok, .int .i64 m] w fun e w' => e = .returned (.tuple #[.slice none 0 0, .slice ao n c, .bool false]) ∧ Below w.heap.size w w' := by
  have c0 : (w.alloc (.cells #[.slice ao n c, .bool ok] 47)).cell? ⟨w.heap.size, 0, none⟩ = some (.slice ao n c) := by rw [World.cell?_alloc_at _ _ _ _ rfl]; rfl
  have c1 : (w.alloc (.cells #[.slice ao n c, .bool ok] 47)).cell? ⟨w.heap.size, 1, none⟩ = some (.bool ok) := by rw [World.cell?_alloc_at _ _ _ _ rfl]; rfl
  have f1 : (w.alloc (.cells #[.slice ao n c, .bool ok] 47)).frozen? ⟨w.heap.size, 1, none⟩ = false := World.frozen?_alloc_at _ _ _ _ rfl
  have hal : Below w.heap.size w (w.alloc (.cells #[.slice ao n c, .bool ok] 47)) := (Below.refl _ _).alloc (Nat.le_refl _) _
  have h := bytes_bad ao n c m w.heap.size ok _ c0 c1 f1 hbad
  have r0 := cell_off (w.alloc (.cells #[.slice ao n c, .bool ok] 47)) w.heap.size 1 0 (.bool false) (by decide)
  rw [c0] at r0
  have r1 := cell_at (.bool false) c1
  have hb := below_set hal 1 (.bool false)
  clear c0 c1 f1 hal
  go_enter Try.func17, Try.ntmps17
  go_wp2_with fail
  refine h.mono ?_
  clear h
  rintro e w1 ⟨rfl, hw1⟩
  rw [← hw1] at r0 r1 hb
  clear hw1
  go_wp2
  go_quiet (fail)
  go_wp2
  go_ret3
  exact ⟨rfl, below_drewN hb _⟩

/-- It answers some Bool. -/
def RetAny (e : Ending) : Prop := ∃ r : Bool, e = .returned (.bool r)

theorem zzBytes14 (ao bo : Option Addr) (n m c d : Nat) (w : World) (hn : n ≤ maxLen) (hm : m ≤ maxLen) :
    Calls Try.prog 14 #[.slice ao n c, .slice bo m d] w fun e w' => RetAny e ∧ w = w' := by
  have hn' : n < 9223372036854775808 := by unfold maxLen at hn; omega
  have hm' : m < 9223372036854775808 := by unfold maxLen at hm; omega
  clear hn hm
  by_cases h1 : n ≤ 1048576
  · by_cases h2 : m ≤ 1048576
    · by_cases h3 : n + m ≤ 1048576
      · go_enter Try.func14, Try.ntmps14
        go_wp2
        go_ret
        exact ⟨⟨_, rfl⟩, rfl⟩
      · go_enter Try.func14, Try.ntmps14
        go_wp2
        go_ret
        exact ⟨⟨_, rfl⟩, rfl⟩
    · go_enter Try.func14, Try.ntmps14
      go_wp2
      go_ret
      exact ⟨⟨_, rfl⟩, rfl⟩
  · go_enter Try.func14, Try.ntmps14
    go_wp2
    go_ret
    exact ⟨⟨_, rfl⟩, rfl⟩

end Go.Proofs.Qxb6605215a
