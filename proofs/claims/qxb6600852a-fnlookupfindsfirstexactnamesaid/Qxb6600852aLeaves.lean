import Derived.Test.Qxb6600852aRows
import Derived.WalkKit
import Derived.ProofKit
import Derived.OpenShut
import Derived.ShutString
import Derived.WalkSpells
import Derived.WalkLawsBesides
import Derived.Deep.QuietTactic
import Derived.BigQuiet
import Derived.Below
import Derived.WalkSmall
namespace Go.Proofs.Qxb6600852a
open Go.ChangeShapes Go.WideShapes Go.ChangeAt Go.RowKit
set_option linter.unusedVariables false

/-- It hands back some bool; true only where P holds. -/
def RetB (P : Prop) (e : Ending) : Prop := ∃ r : Bool, e = .returned (.bool r) ∧ (r = true → P)

/-- A slice of n strings. -/
def IsStrs (w : World) (ao : Option Addr) (n : Nat) (S : Nat → ByteArray) : Prop :=
  n ≤ maxLen ∧ (0 < n → ∃ b off, ao = some ⟨b, off, none⟩ ∧ b < w.heap.size ∧ ∀ i, i < n → w.cell? ⟨b, off + i, none⟩ = some (.string (S i)))

set_option maxRecDepth 100000 in
set_option maxHeartbeats 4000000 in
theorem zzBytes_any (ao bo : Option Addr) (n m ca cb : Nat) (A B : Nat → ByteArray) (s : ByteArray) (w : World) (ha : IsStrs w ao n A) (hb : IsStrs w bo m B) :
    Calls Try.prog 8 #[.slice ao n ca, .slice bo m cb, .string s] w fun e w' => RetB True e ∧ w = w' := by
  obtain ⟨hn, ha⟩ := ha
  obtain ⟨hm, hb⟩ := hb
  unfold maxLen at hn hm
  go_enter Try.func8, Try.ntmps8
  go_wp2
  · go_ret
    exact ⟨⟨_, rfl, fun _ => trivial⟩, rfl⟩
  go_loop [7, 8] (fun z i => ∃ (q : Int) (k : Nat), k ≤ n ∧ i = .int .i64 k ∧ z = .int .i64 q) (fun _ i => n - (intOf i).toNat)
  case atStart => exact ⟨_, 0, Nat.zero_le _, rfl, rfl⟩
  case round =>
    obtain ⟨q, k, hk, rfl, rfl⟩ := hrel
    by_cases hlt : k < n
    · obtain ⟨b, off, rfl, _, h⟩ := ha (by omega)
      have h0 := h k hlt
      clear h ha hb
      go_wp2
      all_goals first
        | (go_ret; exact ⟨⟨_, rfl, fun _ => trivial⟩, rfl⟩)
        | exact ⟨⟨_, k + 1, by omega, by go_num, rfl⟩, by simp [intOf]; omega⟩
    · clear ha
      go_wp2
      all_goals try (go_ret; exact ⟨⟨_, rfl, fun _ => trivial⟩, rfl⟩)
      go_loop [7, 9] (fun z i => ∃ (q : Int) (k : Nat), k ≤ m ∧ i = .int .i64 k ∧ z = .int .i64 q) (fun _ i => m - (intOf i).toNat)
      case atStart => exact ⟨_, 0, Nat.zero_le _, rfl, rfl⟩
      case round =>
        obtain ⟨q, k, hk, rfl, rfl⟩ := hrel
        by_cases hlt : k < m
        · obtain ⟨b, off, rfl, _, h⟩ := hb (by omega)
          have h0 := h k hlt
          clear h hb
          go_wp2
          all_goals first
            | (go_ret; exact ⟨⟨_, rfl, fun _ => trivial⟩, rfl⟩)
            | exact ⟨⟨_, k + 1, by omega, by go_num, rfl⟩, by simp [intOf]; omega⟩
        · clear hb
          go_wp2
          all_goals
            go_ret
            exact ⟨⟨_, rfl, fun _ => trivial⟩, rfl⟩

set_option maxRecDepth 100000 in
set_option maxHeartbeats 4000000 in
theorem zzSizes_in (ao bo : Option Addr) (n m ca cb : Nat) (A B : Nat → ByteArray) (s : ByteArray) (w : World) (ha : IsStrs w ao n A) (hb : IsStrs w bo m B) (hn1 : n ≤ 65536) (hm1 : m ≤ 65536) :
    Calls Try.prog 9 #[.slice ao n ca, .slice bo m cb, .string s] w fun e w' => RetB (n ≤ 65536 ∧ m ≤ 65536) e ∧ w = w' := by
  obtain ⟨hn, ha⟩ := ha
  obtain ⟨hm, hb⟩ := hb
  unfold maxLen at hn hm
  go_enter Try.func9, Try.ntmps9
  go_wp2
  all_goals try (go_ret; exact ⟨⟨_, rfl, fun _ => by first | exact ⟨hn1, hm1⟩ | trivial⟩, rfl⟩)
  go_loop [7, 8] (fun z i => ∃ (q : Int) (k : Nat), k ≤ n ∧ i = .int .i64 k ∧ z = .int .i64 q) (fun _ i => n - (intOf i).toNat)
  case atStart => exact ⟨_, 0, Nat.zero_le _, rfl, rfl⟩
  case round =>
    obtain ⟨q, k, hk, rfl, rfl⟩ := hrel
    by_cases hlt : k < n
    · obtain ⟨b, off, rfl, _, h⟩ := ha (by omega)
      have h0 := h k hlt
      clear h ha hb
      go_wp2
      all_goals first
        | (go_ret; exact ⟨⟨_, rfl, fun _ => by first | exact ⟨hn1, hm1⟩ | trivial⟩, rfl⟩)
        | exact ⟨⟨_, k + 1, by omega, by go_num, rfl⟩, by simp [intOf]; omega⟩
    · clear ha
      go_wp2
      all_goals try (go_ret; exact ⟨⟨_, rfl, fun _ => by first | exact ⟨hn1, hm1⟩ | trivial⟩, rfl⟩)
      go_loop [7, 9] (fun z i => ∃ (q : Int) (k : Nat), k ≤ m ∧ i = .int .i64 k ∧ z = .int .i64 q) (fun _ i => m - (intOf i).toNat)
      case atStart => exact ⟨_, 0, Nat.zero_le _, rfl, rfl⟩
      case round =>
        obtain ⟨q, k, hk, rfl, rfl⟩ := hrel
        by_cases hlt : k < m
        · obtain ⟨b, off, rfl, _, h⟩ := hb (by omega)
          have h0 := h k hlt
          clear h hb
          go_wp2
          all_goals first
            | (go_ret; exact ⟨⟨_, rfl, fun _ => by first | exact ⟨hn1, hm1⟩ | trivial⟩, rfl⟩)
            | exact ⟨⟨_, k + 1, by omega, by go_num, rfl⟩, by simp [intOf]; omega⟩
        · clear hb
          go_wp2
          all_goals
            go_ret
            exact ⟨⟨_, rfl, fun _ => by first | exact ⟨hn1, hm1⟩ | trivial⟩, rfl⟩

theorem zzSizes_any (ao bo : Option Addr) (n m ca cb : Nat) (A B : Nat → ByteArray) (s : ByteArray) (w : World) (ha : IsStrs w ao n A) (hb : IsStrs w bo m B) :
    Calls Try.prog 9 #[.slice ao n ca, .slice bo m cb, .string s] w fun e w' => RetB (n ≤ 65536 ∧ m ≤ 65536) e ∧ w = w' := by
  by_cases h1 : n ≤ 65536
  · by_cases h2 : m ≤ 65536
    · exact zzSizes_in ao bo n m ca cb A B s w ha hb h1 h2
    · go_enter Try.func9, Try.ntmps9
      go_wp2
      go_ret
      exact ⟨⟨_, rfl, fun h => by cases h⟩, rfl⟩
  · go_enter Try.func9, Try.ntmps9
    go_wp2
    go_ret
    exact ⟨⟨_, rfl, fun h => by cases h⟩, rfl⟩

end Go.Proofs.Qxb6600852a
