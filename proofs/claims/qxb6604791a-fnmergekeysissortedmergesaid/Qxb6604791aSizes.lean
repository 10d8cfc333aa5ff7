import Derived.Test.Qxb6604791aLeaves
namespace Go.Proofs.Qxb6604791a
open Go.ChangeShapes Go.WideShapes Go.ChangeAt Go.RowKit

set_option maxRecDepth 100000 in
set_option maxHeartbeats 4000000 in
theorem zzBytesI_any (ao bo : Option Addr) (n m ca cb : Nat) (A B : Nat → HK) (w : World) (ha : IsKeys w ao n A) (hb : IsKeys w bo m B) :
    Calls Try.prog 17 #[.slice ao n ca, .slice bo m cb] w fun e w' => RetB True e ∧ w = w' := by
  obtain ⟨hn, ha⟩ := ha
  obtain ⟨hm, hb⟩ := hb
  unfold maxLen at hn hm
  go_enter Try.func17, Try.ntmps17
  go_wp2
  · go_ret
    exact ⟨⟨_, rfl, fun _ => trivial⟩, rfl⟩
  go_loop [5, 6] (fun z i => ∃ (q : Int) (k : Nat), k ≤ n ∧ i = .int .i64 k ∧ z = .int .i64 q) (fun _ i => n - (intOf i).toNat)
  case atStart => exact ⟨_, 0, Nat.zero_le _, rfl, rfl⟩
  case round =>
    obtain ⟨q, k, hk, rfl, rfl⟩ := hrel
    by_cases hlt : k < n
    · obtain ⟨b, off, rfl, _, h⟩ := ha (by omega)
      obtain ⟨h0, h1, h2, h3⟩ := h k hlt
      clear h ha hb
      go_wp2
      all_goals first
        | (go_ret; exact ⟨⟨_, rfl, fun _ => trivial⟩, rfl⟩)
        | exact ⟨⟨_, k + 1, by omega, by go_num, rfl⟩, by simp [intOf]; omega⟩
    · clear ha
      go_wp2
      · go_ret
        exact ⟨⟨_, rfl, fun _ => trivial⟩, rfl⟩
      · go_ret
        exact ⟨⟨_, rfl, fun _ => trivial⟩, rfl⟩
      go_loop [5, 7] (fun z i => ∃ (q : Int) (k : Nat), k ≤ m ∧ i = .int .i64 k ∧ z = .int .i64 q) (fun _ i => m - (intOf i).toNat)
      case atStart => exact ⟨_, 0, Nat.zero_le _, rfl, rfl⟩
      case round =>
        obtain ⟨q, k, hk, rfl, rfl⟩ := hrel
        by_cases hlt : k < m
        · obtain ⟨b, off, rfl, _, h⟩ := hb (by omega)
          obtain ⟨h0, h1, h2, h3⟩ := h k hlt
          clear h hb
          go_wp2
          all_goals first
            | (go_ret; exact ⟨⟨_, rfl, fun _ => trivial⟩, rfl⟩)
            | exact ⟨⟨_, k + 1, by omega, by go_num, rfl⟩, by simp [intOf]; omega⟩
        · clear hb
          go_wp2
          go_ret
          exact ⟨⟨_, rfl, fun _ => trivial⟩, rfl⟩

set_option maxRecDepth 100000 in
set_option maxHeartbeats 4000000 in
theorem zzBytesM_any (ao bo : Option Addr) (n m ca cb : Nat) (A B : Nat → HK) (w : World) (ha : IsKeys w ao n A) (hb : IsKeys w bo m B) :
    Calls Try.prog 10 #[.slice ao n ca, .slice bo m cb] w fun e w' => RetB True e ∧ w = w' := by
  obtain ⟨hn, ha⟩ := ha
  obtain ⟨hm, hb⟩ := hb
  unfold maxLen at hn hm
  go_enter Try.func10, Try.ntmps10
  go_wp2
  · go_ret
    exact ⟨⟨_, rfl, fun _ => trivial⟩, rfl⟩
  go_loop [5, 6] (fun z i => ∃ (q : Int) (k : Nat), k ≤ n ∧ i = .int .i64 k ∧ z = .int .i64 q) (fun _ i => n - (intOf i).toNat)
  case atStart => exact ⟨_, 0, Nat.zero_le _, rfl, rfl⟩
  case round =>
    obtain ⟨q, k, hk, rfl, rfl⟩ := hrel
    by_cases hlt : k < n
    · obtain ⟨b, off, rfl, _, h⟩ := ha (by omega)
      obtain ⟨h0, h1, h2, h3⟩ := h k hlt
      clear h ha hb
      go_wp2
      all_goals first
        | (go_ret; exact ⟨⟨_, rfl, fun _ => trivial⟩, rfl⟩)
        | exact ⟨⟨_, k + 1, by omega, by go_num, rfl⟩, by simp [intOf]; omega⟩
    · clear ha
      go_wp2
      · go_ret
        exact ⟨⟨_, rfl, fun _ => trivial⟩, rfl⟩
      · go_ret
        exact ⟨⟨_, rfl, fun _ => trivial⟩, rfl⟩
      go_loop [5, 7] (fun z i => ∃ (q : Int) (k : Nat), k ≤ m ∧ i = .int .i64 k ∧ z = .int .i64 q) (fun _ i => m - (intOf i).toNat)
      case atStart => exact ⟨_, 0, Nat.zero_le _, rfl, rfl⟩
      case round =>
        obtain ⟨q, k, hk, rfl, rfl⟩ := hrel
        by_cases hlt : k < m
        · obtain ⟨b, off, rfl, _, h⟩ := hb (by omega)
          obtain ⟨h0, h1, h2, h3⟩ := h k hlt
          clear h hb
          go_wp2
          all_goals first
            | (go_ret; exact ⟨⟨_, rfl, fun _ => trivial⟩, rfl⟩)
            | exact ⟨⟨_, k + 1, by omega, by go_num, rfl⟩, by simp [intOf]; omega⟩
        · clear hb
          go_wp2
          go_ret
          exact ⟨⟨_, rfl, fun _ => trivial⟩, rfl⟩
end Go.Proofs.Qxb6604791a
