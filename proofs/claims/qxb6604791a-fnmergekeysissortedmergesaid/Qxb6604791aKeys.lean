import Derived.Test.Qxb6604791aLeaves
import Derived.Deep.RegionHeld3
import Derived.Lib.Bytealg
import Derived.WalkSmall
namespace Go.Proofs.Qxb6604791a
open Go.ChangeShapes Go.WideShapes Go.ChangeAt Go.RowKit

theorem make_any (a c v l : ByteArray) (w : World) :
    Calls Try.prog 23 #[.string a, .string c, .string v, .string l] w fun e w' => e = .returned (.agg #[.string a, .string c, .string v, .string l]) ∧ Below w.heap.size w w' := by
  go_enter Try.func23, Try.ntmps23
  go_wp2
  exact bodyPost_ret (v := .agg #[.string a, .string c, .string v, .string l]) (by simp [results, Try.results23, go_sem]) rfl ⟨rfl, (Below.refl _ _).alloc (Nat.le_refl _) _⟩

theorem fields_any (a c v l : ByteArray) (w : World) :
    Calls Try.prog 33 #[.agg #[.string a, .string c, .string v, .string l]] w fun e w' => e = .returned (.tuple #[.string a, .string c, .string v, .string l]) ∧ Below w.heap.size w w' := by
  go_enter Try.func33, Try.ntmps33
  go_wp2
  go_quiet (fail)
  go_wp2
  exact bodyPost_ret (v := .tuple #[.string a, .string c, .string v, .string l]) (by simp [results, Try.results33, go_sem]) rfl ⟨rfl, below_drewN ((Below.refl _ _).alloc (Nat.le_refl _) _) _⟩

theorem cmpString_any (a b : ByteArray) (w : World) :
    Calls Try.prog 41 #[.string a, .string b] w fun e w' => e = .returned (.int .i64 (Lib.compareBytes a.data.toList b.data.toList)) ∧ w = w' := by
  go_enter Try.func41, Try.ntmps41
  go_wp2
  rw [run_callFunc_extern Try.func42 (by kernel_rfl) (by kernel_rfl) (by kernel_rfl) (e := Extern.BytealgCompare.compare) (by kernel_rfl), Lib.run_compareString]
  simp only [Result.andThen]
  rw [Oper.upon_value]
  go_wp2
  go_ret
  exact ⟨rfl, rfl⟩

theorem strCompare_any (a b : ByteArray) (w : World) :
    Calls Try.prog 40 #[.string a, .string b] w fun e w' => e = .returned (.int .i64 (Lib.compareBytes a.data.toList b.data.toList)) ∧ w = w' := by
  go_enter Try.func40, Try.ntmps40
  go_wp2_with (go_at_call 41; refine (cmpString_any _ _ _).mono ?_; rintro e w' ⟨rfl, rfl⟩)
  go_ret
  exact ⟨rfl, rfl⟩

def cmpB (a b : ByteArray) : Int := Lib.compareBytes a.data.toList b.data.toList

def cmpK (x y : HK) : Int :=
  if cmpB x.a y.a != 0 then cmpB x.a y.a else if cmpB x.c y.c != 0 then cmpB x.c y.c else if cmpB x.v y.v != 0 then cmpB x.v y.v else cmpB x.l y.l
theorem ret_int {k : IntKind} {a b : Int} (h : a = b) : Ending.returned (.int k a) = .returned (.int k b) := by rw [h]
theorem cmpK1 {x y : HK} (h : (cmpB x.a y.a != 0) = true) : cmpB x.a y.a = cmpK x y := by unfold cmpK; rw [if_pos h]
theorem cmpK2 {x y : HK} (h : (cmpB x.a y.a != 0) = false) (h2 : (cmpB x.c y.c != 0) = true) : cmpB x.c y.c = cmpK x y := by unfold cmpK; rw [if_neg (by simp [h]), if_pos h2]
theorem cmpK3 {x y : HK} (h : (cmpB x.a y.a != 0) = false) (h2 : (cmpB x.c y.c != 0) = false) (h3 : (cmpB x.v y.v != 0) = true) : cmpB x.v y.v = cmpK x y := by unfold cmpK; rw [if_neg (by simp [h]), if_neg (by simp [h2]), if_pos h3]
theorem cmpK4 {x y : HK} (h : (cmpB x.a y.a != 0) = false) (h2 : (cmpB x.c y.c != 0) = false) (h3 : (cmpB x.v y.v != 0) = false) : cmpB x.l y.l = cmpK x y := by unfold cmpK; rw [if_neg (by simp [h]), if_neg (by simp [h2]), if_neg (by simp [h3])]

theorem strCmp_any (a b : ByteArray) (w : World) :
    Calls Try.prog 40 #[.string a, .string b] w fun e w' => e = .returned (.int .i64 (cmpB a b)) ∧ w = w' := strCompare_any a b w

theorem compare_any (xa xc xv xl ya yc yv yl : ByteArray) (w : World) :
    Calls Try.prog 36 #[.agg #[.string xa, .string xc, .string xv, .string xl], .agg #[.string ya, .string yc, .string yv, .string yl]] w
      fun e w' => e = .returned (.int .i64 (cmpK ⟨xa, xc, xv, xl⟩ ⟨ya, yc, yv, yl⟩)) ∧ Below w.heap.size w w' := by
  go_enter Try.func36, Try.ntmps36
  go_wp2_with (go_at_call 40; refine (strCmp_any _ _ _).mono ?_; rintro e w' ⟨rfl, rfl⟩)
  · go_ret
    exact ⟨ret_int (cmpK1 (x := ⟨xa, xc, xv, xl⟩) (y := ⟨ya, yc, yv, yl⟩) ‹_›), ((Below.refl _ _).alloc (Nat.le_refl _) _).alloc (by simp) _⟩
  · go_ret
    exact ⟨ret_int (cmpK2 (x := ⟨xa, xc, xv, xl⟩) (y := ⟨ya, yc, yv, yl⟩) ‹_› ‹_›), ((Below.refl _ _).alloc (Nat.le_refl _) _).alloc (by simp) _⟩
  · go_ret
    exact ⟨ret_int (cmpK3 (x := ⟨xa, xc, xv, xl⟩) (y := ⟨ya, yc, yv, yl⟩) ‹_› ‹_› ‹_›), ((Below.refl _ _).alloc (Nat.le_refl _) _).alloc (by simp) _⟩
  · go_ret
    exact ⟨ret_int (cmpK4 (x := ⟨xa, xc, xv, xl⟩) (y := ⟨ya, yc, yv, yl⟩) ‹_› ‹_› ‹_›), ((Below.refl _ _).alloc (Nat.le_refl _) _).alloc (by simp) _⟩

end Go.Proofs.Qxb6604791a
