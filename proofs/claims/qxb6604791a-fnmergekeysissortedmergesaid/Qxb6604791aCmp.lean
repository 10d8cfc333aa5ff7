import Derived.Test.Qxb6604791aKeys
namespace Go.Proofs.Qxb6604791a
open Go.ChangeShapes Go.WideShapes Go.ChangeAt Go.RowKit

theorem drop_byte (s : ByteArray) (k : Nat) (h : k < s.size) : s.data.toList.drop k = s[k] :: s.data.toList.drop (k + 1) := by
  rw [List.drop_eq_getElem_cons (by simpa using h)]; rfl

def restB (x y : ByteArray) (k : Nat) : Int := Lib.compareBytes (x.data.toList.drop k) (y.data.toList.drop k)

theorem drew3 (w : World) (a b c : Nat) : ∃ n, ((w.drewN a).drewN b).drewN c = w.drewN n := ⟨a + b + c, by rw [World.drewN_drewN, World.drewN_drewN, Nat.add_assoc]⟩

theorem rest_lt {x y : ByteArray} {k : Nat} (hx : k < x.size) (hy : k < y.size) (h : x[k].toNat < y[k].toNat) : restB x y k = -1 := by
  unfold restB
  rw [drop_byte x k hx, drop_byte y k hy, Lib.compareBytes, if_pos (UInt8.lt_iff_toNat_lt.2 (by omega))]
theorem rest_gt {x y : ByteArray} {k : Nat} (hx : k < x.size) (hy : k < y.size) (h0 : ((x[k].toNat : Int) != (y[k].toNat : Int)) = true) (h : ¬ x[k].toNat < y[k].toNat) : restB x y k = 1 := by
  have hne : (x[k].toNat : Int) ≠ (y[k].toNat : Int) := by simpa using h0
  unfold restB
  rw [drop_byte x k hx, drop_byte y k hy, Lib.compareBytes, if_neg (fun e => h (by have := UInt8.lt_iff_toNat_lt.1 e; omega)), if_pos (UInt8.lt_iff_toNat_lt.2 (by omega))]
theorem rest_eq {x y : ByteArray} {k : Nat} (hx : k < x.size) (hy : k < y.size) (h0 : ((x[k].toNat : Int) != (y[k].toNat : Int)) = false) : restB x y (k + 1) = restB x y k := by
  have he : (x[k].toNat : Int) = (y[k].toNat : Int) := by simpa using h0
  have hn : ¬ x[k] < y[k] := fun e => by have := UInt8.lt_iff_toNat_lt.1 e; omega
  have hn2 : ¬ y[k] < x[k] := fun e => by have := UInt8.lt_iff_toNat_lt.1 e; omega
  unfold restB
  rw [drop_byte x k hx, drop_byte y k hy, Lib.compareBytes, if_neg hn, if_neg hn2]
theorem rest_end {x y : ByteArray} {k : Nat} (hkx : k ≤ x.size) (hky : k ≤ y.size) (h : ¬ (k < x.size ∧ k < y.size)) : restB x y k = if x.size < y.size then -1 else if y.size < x.size then 1 else 0 := by
  have lx : x.data.toList.length = x.size := rfl
  have ly : y.data.toList.length = y.size := rfl
  unfold restB
  by_cases h1 : k < x.size
  · have h2 : y.size = k := by omega
    have e : y.data.toList.drop k = [] := List.drop_eq_nil_of_le (by omega)
    rw [drop_byte x k h1, e, Lib.compareBytes, if_neg (by omega), if_pos (by omega)]
  · have h1' : x.size = k := by omega
    have e : x.data.toList.drop k = [] := List.drop_eq_nil_of_le (by omega)
    rw [e]
    by_cases h2 : k < y.size
    · rw [drop_byte y k h2, Lib.compareBytes, if_pos (by omega)]
    · have e2 : y.data.toList.drop k = [] := List.drop_eq_nil_of_le (by omega)
      rw [e2, Lib.compareBytes, if_neg (by omega), if_neg (by omega)]

set_option maxHeartbeats 1000000 in
theorem cmpStr_any (x y : ByteArray) (w : World) (hx : x.size ≤ maxLen) :
    Calls Try.prog 39 #[.string x, .string y] w fun e w' => e = .returned (.int .i64 (cmpB x y)) ∧ ∃ n, w' = w.drewN n := by
  unfold maxLen at hx
  go_enter Try.func39, Try.ntmps39
  go_wp2
  go_loopw [5] (fun i wr => ∃ k : Nat, k ≤ x.size ∧ k ≤ y.size ∧ i = .int .i64 k ∧ restB x y k = cmpB x y ∧ ∃ n, wr = w.drewN n) (fun i _ => x.size - (intOf i).toNat)
  case atStart => exact ⟨0, Nat.zero_le _, Nat.zero_le _, rfl, rfl, 0, rfl⟩
  case round =>
    obtain ⟨k, hkx, hky, rfl, hrest, n, rfl⟩ := hrel
    have HR : Hid (restB x y k = cmpB x y) := hrest
    clear hrest
    by_cases h1 : k < x.size
    · by_cases h2 : k < y.size
      · go_wp2
        go_quiet (fail)
        go_wp2
        · go_quiet (fail)
          go_wp2
          · go_ret
            exact ⟨ret_int (by rw [← HR.out]; exact (rest_lt h1 h2 ‹_›).symm), drew3 _ _ _ _⟩
          · go_ret
            exact ⟨ret_int (by rw [← HR.out]; exact (rest_gt h1 h2 ‹_› ‹_›).symm), drew3 _ _ _ _⟩
        · exact ⟨⟨k + 1, h1, h2, by go_num, by rw [← HR.out]; exact rest_eq h1 h2 ‹_›, _, rfl⟩, by simp [intOf]; omega⟩
      · have he := rest_end hkx hky (fun h => h2 h.2)
        rw [HR.out] at he
        have HE : Hid (cmpB x y = if x.size < y.size then -1 else if y.size < x.size then 1 else 0) := he
        clear he
        go_wp2
        all_goals
          go_ret
          exact ⟨ret_int (by rw [HE.out]; first | (rw [if_pos (by omega)]; done) | (rw [if_neg (by omega), if_pos (by omega)]; done) | (rw [if_neg (by omega), if_neg (by omega)])), _, rfl⟩
    · have he := rest_end hkx hky (fun h => h1 h.1)
      rw [HR.out] at he
      have HE : Hid (cmpB x y = if x.size < y.size then -1 else if y.size < x.size then 1 else 0) := he
      clear he
      go_wp2
      all_goals
        go_ret
        exact ⟨ret_int (by rw [HE.out]; first | (rw [if_pos (by omega)]; done) | (rw [if_neg (by omega), if_pos (by omega)]; done) | (rw [if_neg (by omega), if_neg (by omega)])), _, rfl⟩

/-- The strings of a key are of a length that Go can say. -/
def HK.ok (k : HK) : Prop := k.a.size ≤ maxLen ∧ k.c.size ≤ maxLen ∧ k.v.size ≤ maxLen ∧ k.l.size ≤ maxLen

set_option maxHeartbeats 1000000 in
theorem cmpHK_any (xa xc xv xl ya yc yv yl : ByteArray) (w : World) (h : HK.ok ⟨xa, xc, xv, xl⟩) :
    Calls Try.prog 32 #[.agg #[.string xa, .string xc, .string xv, .string xl], .agg #[.string ya, .string yc, .string yv, .string yl]] w
      fun e w' => e = .returned (.int .i64 (cmpK ⟨xa, xc, xv, xl⟩ ⟨ya, yc, yv, yl⟩)) ∧ Below w.heap.size w w' := by
  obtain ⟨h1, h2, h3, h4⟩ := h
  have B0 : Below w.heap.size w ((w.alloc (.cells #[.string xa, .string xc, .string xv, .string xl] 32)).alloc (.cells #[.string ya, .string yc, .string yv, .string yl] 32)) := ((Below.refl _ _).alloc (Nat.le_refl _) _).alloc (by simp) _
  go_enter Try.func32, Try.ntmps32
  go_wp2_with fail
  refine (cmpStr_any _ _ _ h1).mono ?_
  rintro e w' ⟨rfl, n1, rfl⟩
  by_cases c1 : (cmpB xa ya != 0) = true
  · go_wp2_with fail
    go_ret
    exact ⟨ret_int (cmpK1 (x := ⟨xa, xc, xv, xl⟩) (y := ⟨ya, yc, yv, yl⟩) c1), by first | exact below_drewN B0 _ | exact below_drewN (below_drewN B0 _) _ | exact below_drewN (below_drewN (below_drewN B0 _) _) _⟩
  · replace c1 : (cmpB xa ya != 0) = false := by simpa using c1
    go_wp2_with fail
    refine (cmpStr_any _ _ _ h2).mono ?_
    rintro e w' ⟨rfl, n2, rfl⟩
    by_cases c2 : (cmpB xc yc != 0) = true
    · go_wp2_with fail
      go_ret
      exact ⟨ret_int (cmpK2 (x := ⟨xa, xc, xv, xl⟩) (y := ⟨ya, yc, yv, yl⟩) c1 c2), by first | exact below_drewN B0 _ | exact below_drewN (below_drewN B0 _) _ | exact below_drewN (below_drewN (below_drewN B0 _) _) _⟩
    · replace c2 : (cmpB xc yc != 0) = false := by simpa using c2
      go_wp2_with fail
      refine (cmpStr_any _ _ _ h3).mono ?_
      rintro e w' ⟨rfl, n3, rfl⟩
      by_cases c3 : (cmpB xv yv != 0) = true
      · go_wp2_with fail
        go_ret
        exact ⟨ret_int (cmpK3 (x := ⟨xa, xc, xv, xl⟩) (y := ⟨ya, yc, yv, yl⟩) c1 c2 c3), by first | exact below_drewN B0 _ | exact below_drewN (below_drewN B0 _) _ | exact below_drewN (below_drewN (below_drewN B0 _) _) _⟩
      · replace c3 : (cmpB xv yv != 0) = false := by simpa using c3
        go_wp2_with fail
        refine (cmpStr_any _ _ _ h4).mono ?_
        rintro e w' ⟨rfl, n4, rfl⟩
        go_wp2_with fail
        go_ret
        exact ⟨ret_int (cmpK4 (x := ⟨xa, xc, xv, xl⟩) (y := ⟨ya, yc, yv, yl⟩) c1 c2 c3), by first | exact below_drewN B0 _ | exact below_drewN (below_drewN B0 _) _ | exact below_drewN (below_drewN (below_drewN B0 _) _) _⟩

end Go.Proofs.Qxb6604791a
