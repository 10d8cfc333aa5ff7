import Derived.Test.Qxb6604791aRows
import Derived.WalkKit
import Derived.ProofKit
import Derived.OpenShut
import Derived.ShutString
import Derived.WalkSpells
import Derived.WalkLawsBesides
import Derived.Deep.QuietTactic
import Derived.BigQuiet
import Derived.Below
namespace Go.Proofs.Qxb6604791a
open Go.ChangeShapes Go.WideShapes Go.ChangeAt Go.RowKit

/-- It hands back some integer. -/
def RetI (e : Ending) : Prop := ∃ r, e = .returned (.int .i64 r)
/-- It hands back some bool; true only where P holds. -/
def RetB (P : Prop) (e : Ending) : Prop := ∃ r : Bool, e = .returned (.bool r) ∧ (r = true → P)

theorem addLen_any (n l : Int) (w : World) :
    Calls Try.prog 38 #[.int .i64 n, .int .i64 l] w fun e w' => RetI e ∧ w = w' := by
  go_enter Try.func38, Try.ntmps38
  go_wp2
  all_goals
    go_ret
    exact ⟨⟨_, rfl⟩, rfl⟩

structure HK where
  a : ByteArray
  c : ByteArray
  v : ByteArray
  l : ByteArray

def eqK (x y : HK) : Bool := x.a.toList == y.a.toList && x.c.toList == y.c.toList && x.v.toList == y.v.toList && x.l.toList == y.l.toList

theorem eqHK_any (xa xc xv xl ya yc yv yl : ByteArray) (w : World) :
    Calls Try.prog 21 #[.agg #[.string xa, .string xc, .string xv, .string xl], .agg #[.string ya, .string yc, .string yv, .string yl]] w
      fun e w' => e = .returned (.bool (eqK ⟨xa, xc, xv, xl⟩ ⟨ya, yc, yv, yl⟩)) ∧ Below w.heap.size w w' := by
  go_enter Try.func21, Try.ntmps21
  go_wp2
  all_goals
    go_ret
    exact ⟨by simp [eqK, *], ((Below.refl _ _).alloc (Nat.le_refl _) _).alloc (by simp) _⟩

/-- The first n keys of K lie in block b from off on. -/
def Seg (w : World) (b off n : Nat) (K : Nat → HK) : Prop :=
  ∀ i, i < n → w.cell? ⟨b, off + i * 4, none⟩ = some (.string (K i).a) ∧ w.cell? ⟨b, off + i * 4 + 1, none⟩ = some (.string (K i).c) ∧
    w.cell? ⟨b, off + i * 4 + 2, none⟩ = some (.string (K i).v) ∧ w.cell? ⟨b, off + i * 4 + 3, none⟩ = some (.string (K i).l)

/-- A slice of n keys. -/
def IsKeys (w : World) (ao : Option Addr) (n : Nat) (K : Nat → HK) : Prop :=
  n ≤ maxLen ∧ (0 < n → ∃ b off, ao = some ⟨b, off, none⟩ ∧ b < w.heap.size ∧ Seg w b off n K)

theorem hkBytes_any (ao : Option Addr) (n cap : Nat) (K : Nat → HK) (m : Int) (w : World) (h : IsKeys w ao n K) :
    Calls Try.prog 31 #[.int .i64 m, .slice ao n cap] w fun e w' => RetI e ∧ w = w' := by
  obtain ⟨hn, h⟩ := h
  unfold maxLen at hn
  go_enter Try.func31, Try.ntmps31
  go_wp2
  go_loop [0, 5] (fun n0 i => ∃ (m : Int) (k : Nat), k ≤ n ∧ i = .int .i64 k ∧ n0 = .int .i64 m) (fun _ i => n - (intOf i).toNat)
  case atStart => exact ⟨m, 0, Nat.zero_le _, rfl, rfl⟩
  case round =>
    obtain ⟨m, k, hk, rfl, rfl⟩ := hrel
    by_cases hlt : k < n
    · obtain ⟨b, off, rfl, _, h⟩ := h (by omega)
      obtain ⟨h0, h1, h2, h3⟩ := h k hlt
      clear h
      go_wp2_with (go_at_call 38; refine (addLen_any _ _ _).mono ?_; rintro e w' ⟨⟨r, rfl⟩, rfl⟩)
      · go_ret
        exact ⟨⟨_, rfl⟩, rfl⟩
      · exact ⟨⟨_, k + 1, by omega, by go_num, rfl⟩, by simp [intOf]; omega⟩
    · go_wp2
      go_ret
      exact ⟨⟨_, rfl⟩, rfl⟩

theorem interleaveFits_any (ao bo : Option Addr) (n m ca cb : Nat) (A B : Nat → HK) (w : World) (ha : IsKeys w ao n A) (hb : IsKeys w bo m B) :
    Calls Try.prog 18 #[.slice ao n ca, .slice bo m cb] w fun e w' => RetB (n ≤ 4096 ∧ m ≤ 4096) e ∧ w = w' := by
  by_cases h1 : n ≤ 4096
  · by_cases h2 : m ≤ 4096
    · go_enter Try.func18, Try.ntmps18
      go_wp2_with fail
      refine (hkBytes_any _ _ _ A _ _ ha).mono ?_
      rintro e w' ⟨⟨r, rfl⟩, rfl⟩
      go_wp2_with fail
      refine (hkBytes_any _ _ _ B _ _ hb).mono ?_
      rintro e w' ⟨⟨r', rfl⟩, rfl⟩
      go_wp2
      go_ret
      exact ⟨⟨_, rfl, fun _ => ⟨h1, h2⟩⟩, rfl⟩
    · go_enter Try.func18, Try.ntmps18
      go_wp2
      go_ret
      exact ⟨⟨_, rfl, fun h => by cases h⟩, rfl⟩
  · go_enter Try.func18, Try.ntmps18
    go_wp2
    go_ret
    exact ⟨⟨_, rfl, fun h => by cases h⟩, rfl⟩

theorem mergeFits_any (ao bo : Option Addr) (n m ca cb : Nat) (A B : Nat → HK) (w : World) (ha : IsKeys w ao n A) (hb : IsKeys w bo m B) :
    Calls Try.prog 11 #[.slice ao n ca, .slice bo m cb] w fun e w' => RetB (n ≤ 65536 ∧ m ≤ 65536) e ∧ w = w' := by
  by_cases h1 : n ≤ 65536
  · by_cases h2 : m ≤ 65536
    · go_enter Try.func11, Try.ntmps11
      go_wp2_with fail
      refine (hkBytes_any _ _ _ A _ _ ha).mono ?_
      rintro e w' ⟨⟨r, rfl⟩, rfl⟩
      go_wp2_with fail
      refine (hkBytes_any _ _ _ B _ _ hb).mono ?_
      rintro e w' ⟨⟨r', rfl⟩, rfl⟩
      go_wp2
      go_ret
      exact ⟨⟨_, rfl, fun _ => ⟨h1, h2⟩⟩, rfl⟩
    · go_enter Try.func11, Try.ntmps11
      go_wp2
      go_ret
      exact ⟨⟨_, rfl, fun h => by cases h⟩, rfl⟩
  · go_enter Try.func11, Try.ntmps11
    go_wp2
    go_ret
    exact ⟨⟨_, rfl, fun h => by cases h⟩, rfl⟩

end Go.Proofs.Qxb6604791a
