import Derived.Test.Qxb6605215aRows
import Derived.WalkKit
import Derived.ProofKit
import Derived.OpenShut
import Derived.ShutString
import Derived.WalkSpells
import Derived.WalkLawsBesides
import Derived.Deep.QuietTactic
import Derived.BigQuiet
import Derived.Below
import Derived.WalkSmall
import Derived.Laws.Bits64b
namespace Go.Proofs.Qxb6605215a
open Go.ChangeShapes Go.WideShapes Go.ChangeAt Go.RowKit
set_option linter.unusedVariables false

/-- What mark leaves in the window's block b. -/
def MarkPost (w : World) (b : Nat) (T B : Int) (w' : World) : Prop :=
  w'.cell? ⟨b, 0, none⟩ = some (.int .u64 T) ∧ w'.cell? ⟨b, 1, none⟩ = some (.int .u64 B) ∧ w'.cell? ⟨b, 2, none⟩ = some (.bool true) ∧ Below b w w'

theorem cell_at {w : World} {b o : Nat} (v : Value) {u : Value} (h : w.cell? ⟨b, o, none⟩ = some u) : (w.setCell ⟨b, o, none⟩ v).cell? ⟨b, o, none⟩ = some v := World.cell?_setCell_same _ _ _ h
theorem cell_off (w : World) (b o o' : Nat) (v : Value) (h : o ≠ o') : (w.setCell ⟨b, o, none⟩ v).cell? ⟨b, o', none⟩ = w.cell? ⟨b, o', none⟩ :=
  World.cell?_setCell_other _ _ _ _ (fun e => h (by injection e))
theorem below_set {w : World} {b : Nat} {a : World} (h : Below b a w) (o : Nat) (v : Value) : Below b a (w.setCell ⟨b, o, none⟩ v) := h.setCell (p := ⟨b, o, none⟩) (Nat.le_refl _) v

theorem mark_none (top bits seq : Int) (w : World) (b : Nat) (h0 : w.cell? ⟨b, 0, none⟩ = some (.int .u64 top)) (h1 : w.cell? ⟨b, 1, none⟩ = some (.int .u64 bits)) (f0 : w.frozen? ⟨b, 0, none⟩ = false) (f1 : w.frozen? ⟨b, 1, none⟩ = false) (h2 : w.cell? ⟨b, 2, none⟩ = some (.bool false)) (f2 : w.frozen? ⟨b, 2, none⟩ = false) :
    Calls Try.prog 19 #[.pointer (some ⟨b, 0, none⟩), .int .u64 seq] w fun e w' => e = .returned (.tuple #[]) ∧ MarkPost w b seq 1 w' := by
  go_enter Try.func19, Try.ntmps19
  go_wp2
  go_end0
  refine ⟨rfl, ?_, ?_, ?_, below_set (below_set (below_set (Below.refl _ _) _ _) _ _) _ _⟩
  · rw [cell_off _ _ _ _ _ (by decide), cell_off _ _ _ _ _ (by decide), cell_at _ h0]
  · rw [cell_off _ _ _ _ _ (by decide), cell_at (u := .int .u64 bits)]
    rw [cell_off _ _ _ _ _ (by decide), h1]
  · rw [cell_at (u := .bool false)]
    rw [cell_off _ _ _ _ _ (by decide), cell_off _ _ _ _ _ (by decide), h2]

theorem mark_above (top bits seq : Int) (w : World) (b : Nat) (h0 : w.cell? ⟨b, 0, none⟩ = some (.int .u64 top)) (h1 : w.cell? ⟨b, 1, none⟩ = some (.int .u64 bits)) (f0 : w.frozen? ⟨b, 0, none⟩ = false) (f1 : w.frozen? ⟨b, 1, none⟩ = false) (h2 : w.cell? ⟨b, 2, none⟩ = some (.bool true)) (hc : top < seq) (D : Int) (hw : IntKind.u64.wrap (seq - top) = D) (hD0 : 0 ≤ D) (hD : D < 64) :
    Calls Try.prog 19 #[.pointer (some ⟨b, 0, none⟩), .int .u64 seq] w fun e w' => e = .returned (.tuple #[]) ∧ MarkPost w b seq (Go.bits BinOp.or IntKind.u64 (IntKind.u64.wrap (bits * 2 ^ D.toNat)) 1) w' := by
  go_enter Try.func19, Try.ntmps19
  go_wp2
  go_end0
  refine ⟨rfl, ?_, ?_, ?_, below_set (below_set (Below.refl _ _) _ _) _ _⟩
  · rw [cell_at (u := .int .u64 top)]
    rw [cell_off _ _ _ _ _ (by decide), h0]
  · rw [cell_off _ _ _ _ _ (by decide), cell_at _ h1]
  · rw [cell_off _ _ _ _ _ (by decide), cell_off _ _ _ _ _ (by decide), h2]

theorem mark_far (top bits seq : Int) (w : World) (b : Nat) (h0 : w.cell? ⟨b, 0, none⟩ = some (.int .u64 top)) (h1 : w.cell? ⟨b, 1, none⟩ = some (.int .u64 bits)) (f0 : w.frozen? ⟨b, 0, none⟩ = false) (f1 : w.frozen? ⟨b, 1, none⟩ = false) (h2 : w.cell? ⟨b, 2, none⟩ = some (.bool true)) (hc : top < seq) (D : Int) (hw : IntKind.u64.wrap (seq - top) = D) (hD : ¬ D < 64) :
    Calls Try.prog 19 #[.pointer (some ⟨b, 0, none⟩), .int .u64 seq] w fun e w' => e = .returned (.tuple #[]) ∧ MarkPost w b seq 1 w' := by
  go_enter Try.func19, Try.ntmps19
  go_wp2
  go_end0
  refine ⟨rfl, ?_, ?_, ?_, below_set (below_set (Below.refl _ _) _ _) _ _⟩
  · rw [cell_at (u := .int .u64 top)]
    rw [cell_off _ _ _ _ _ (by decide), h0]
  · rw [cell_off _ _ _ _ _ (by decide), cell_at _ h1]
  · rw [cell_off _ _ _ _ _ (by decide), cell_off _ _ _ _ _ (by decide), h2]

theorem mark_below (top bits seq : Int) (w : World) (b : Nat) (h0 : w.cell? ⟨b, 0, none⟩ = some (.int .u64 top)) (h1 : w.cell? ⟨b, 1, none⟩ = some (.int .u64 bits)) (f0 : w.frozen? ⟨b, 0, none⟩ = false) (f1 : w.frozen? ⟨b, 1, none⟩ = false) (h2 : w.cell? ⟨b, 2, none⟩ = some (.bool true)) (hc : ¬ top < seq) (D : Int) (hw : IntKind.u64.wrap (top - seq) = D) (hD0 : 0 ≤ D) :
    Calls Try.prog 19 #[.pointer (some ⟨b, 0, none⟩), .int .u64 seq] w fun e w' => e = .returned (.tuple #[]) ∧ MarkPost w b top (Go.bits BinOp.or IntKind.u64 bits (IntKind.u64.wrap (2 ^ min D.toNat 64))) w' := by
  go_enter Try.func19, Try.ntmps19
  go_wp2
  go_region
  go_wp2
  go_end0
  refine ⟨rfl, ?_, ?_, ?_, (below_set (Below.refl _ _) _ _).drew⟩
  · show (w.setCell _ _).cell? _ = _
    rw [cell_off _ _ _ _ _ (by decide), h0]
  · exact cell_at _ h1
  · show (w.setCell _ _).cell? _ = _
    rw [cell_off _ _ _ _ _ (by decide), h2]

/-- What ZZMark hands back. -/
def RetMark (T B : Int) (e : Ending) : Prop := e = .returned (.tuple #[.int .u64 T, .int .u64 B, .bool true])

theorem zzMark_of (top bits seq T B : Int) (seen : Bool) (w : World)
    (h : Calls Try.prog 19 #[.pointer (some ⟨w.heap.size, 0, none⟩), .int .u64 seq] (w.alloc (.cells #[.int .u64 top, .int .u64 bits, .bool seen] 42)) fun e w' => e = .returned (.tuple #[]) ∧ MarkPost (w.alloc (.cells #[.int .u64 top, .int .u64 bits, .bool seen] 42)) w.heap.size T B w') :
    Calls Try.prog 8 #[.int .u64 top, .int .u64 bits, .bool seen, .int .u64 seq] w fun e w' => RetMark T B e ∧ Below w.heap.size w w' := by
  go_enter Try.func8, Try.ntmps8
  go_wp2_with fail
  refine h.mono ?_
  clear h
  rintro e w1 ⟨rfl, c0, c1, c2, hb⟩
  go_wp2
  go_quiet (fail)
  go_wp2
  go_ret3
  exact ⟨rfl, below_drewN (((Below.refl _ _).alloc (Nat.le_refl _) _).trans hb) _⟩

theorem bitAt_raw (x i : Int) (w : World) (hi : 0 ≤ i) (hi2 : i < 64) :
    Calls Try.prog 9 #[.int .u64 x, .int .u64 i] w fun e w' => e = .returned (.bool (Go.bits BinOp.and IntKind.u64 (x / 2 ^ i.toNat) 1 == 1)) ∧ w = w' := by
  go_enter Try.func9, Try.ntmps9
  go_wp2
  go_ret
  exact ⟨rfl, rfl⟩

/-! ### fresh -/
theorem fresh_none (top bits seq : Int) (w : World) :
    Calls Try.prog 10 #[.int .u64 top, .int .u64 bits, .bool false, .int .u64 seq] w fun e w' => e = .returned (.bool true) ∧ Below w.heap.size w w' := by
  go_enter Try.func10, Try.ntmps10
  go_wp2
  go_ret
  exact ⟨rfl, (Below.refl _ _).alloc (Nat.le_refl _) _⟩
theorem fresh_above (top bits seq : Int) (w : World) (hc : top < seq) :
    Calls Try.prog 10 #[.int .u64 top, .int .u64 bits, .bool true, .int .u64 seq] w fun e w' => e = .returned (.bool true) ∧ Below w.heap.size w w' := by
  go_enter Try.func10, Try.ntmps10
  go_wp2
  go_ret
  exact ⟨rfl, (Below.refl _ _).alloc (Nat.le_refl _) _⟩
theorem fresh_old (top bits seq : Int) (w : World) (hc : ¬ top < seq) (D : Int) (hw : IntKind.u64.wrap (top - seq) = D) (hD : 64 ≤ D) :
    Calls Try.prog 10 #[.int .u64 top, .int .u64 bits, .bool true, .int .u64 seq] w fun e w' => e = .returned (.bool false) ∧ Below w.heap.size w w' := by
  go_enter Try.func10, Try.ntmps10
  go_wp2
  go_ret
  exact ⟨rfl, (Below.refl _ _).alloc (Nat.le_refl _) _⟩
theorem fresh_in (top bits seq : Int) (w : World) (hc : ¬ top < seq) (D : Int) (hw : IntKind.u64.wrap (top - seq) = D) (hD0 : 0 ≤ D) (hD : D < 64) :
    Calls Try.prog 10 #[.int .u64 top, .int .u64 bits, .bool true, .int .u64 seq] w fun e w' => e = .returned (.bool (Go.bits BinOp.and IntKind.u64 bits (IntKind.u64.wrap (2 ^ D.toNat)) == 0)) ∧ Below w.heap.size w w' := by
  go_enter Try.func10, Try.ntmps10
  go_wp2
  go_quiet (fail)
  go_wp2
  go_ret
  exact ⟨rfl, below_drewN ((Below.refl _ _).alloc (Nat.le_refl _) _) _⟩

end Go.Proofs.Qxb6605215a
