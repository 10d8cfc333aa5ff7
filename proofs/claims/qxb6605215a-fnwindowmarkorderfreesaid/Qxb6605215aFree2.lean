import Derived.Test.Qxb6605215aFree
namespace Go.Proofs.Qxb6605215a
open Go.ChangeShapes Go.WideShapes Go.ChangeAt Go.RowKit

theorem marks (t b : Nat) (seen : Bool) (x y : Nat) (ht : t < M64) (hb : b < M64) (hx : x < M64) (hy : y < M64) :
    Marks t b seen x y (wantT t seen x y) (mB (mT t seen x) (mB t b seen x) true y) where
  one := by
    refine ⟨mT t seen x, mB t b seen x, mT t seen y, mB t b seen y, fun w => zzMark_any t b x seen w ht hb hx, fun w => ?_, fun w => zzMark_any t b y seen w ht hb hy, fun w => ?_⟩
    · have := zzMark_any (mT t seen x) (mB t b seen x) y true w (mT_lt _ _ _ ht hx) (mB_lt _ _ _ _ hb) hy
      rwa [mT_mT] at this
    · have := zzMark_any (mT t seen y) (mB t b seen y) x true w (mT_lt _ _ _ ht hy) (mB_lt _ _ _ _ hb) hx
      rwa [mT_mT, wantT_comm, ← free_eq t b seen x y hb] at this
  lt := mB_lt _ _ _ _ (mB_lt _ _ _ _ hb)

theorem free_walk (t b x y : Nat) (seen : Bool) (w : World) (ht : t < M64) (hb : b < M64) (hx : x < M64) (hy : y < M64) :
    Calls Try.prog 4 #[.int .u64 t, .int .u64 b, .bool seen, .int .u64 x, .int .u64 y] w fun e w' => e = .returned (.bool true) ∧ Below w.heap.size w w' := by
  have hm := marks t b seen x y ht hb hx hy
  have fa := free_bitA t b seen x y
  have fb := free_bitB t b seen x y
  by_cases htop : seen = true ∧ max x y < t
  · obtain ⟨rfl, hlt⟩ := htop
    have e : wantT t true x y = t := by unfold wantT; rw [mT_true]; omega
    rw [e] at hm fa fb
    exact free_top t b x y _ _ _ w (by omega) (by omega) hm (wrap_sub (by omega) ht) (wrap_sub (by omega) ht) fa fb
  · by_cases hxy : x < y
    · have e : wantT t seen x y = y := by
        unfold wantT
        cases seen with
        | false => rw [mT_false]; omega
        | true => rw [mT_true]; have : ¬ max x y < t := fun h => htop ⟨rfl, h⟩; omega
      rw [e] at hm fa fb
      have h0 := fb (by omega)
      rw [Nat.sub_self] at h0
      cases seen with
      | false => exact free_y_none t b x y _ _ w hxy hm (wrap_sub (by omega) hy) fa h0
      | true => exact free_y_seen t b x y _ _ w hxy (fun h => htop ⟨rfl, by omega⟩) hm (wrap_sub (by omega) hy) fa h0
    · have e : wantT t seen x y = x := by
        unfold wantT
        cases seen with
        | false => rw [mT_false]; omega
        | true => rw [mT_true]; have : ¬ max x y < t := fun h => htop ⟨rfl, h⟩; omega
      rw [e] at hm fa fb
      have h0 := fa (by omega)
      rw [Nat.sub_self] at h0
      cases seen with
      | false => exact free_x_none t b x y _ _ w hxy hm (wrap_sub (by omega) hx) fb h0
      | true => exact free_x_seen t b x y _ _ w hxy (fun h => htop ⟨rfl, by omega⟩) hm (wrap_sub (by omega) hx) fb h0

end Go.Proofs.Qxb6605215a
