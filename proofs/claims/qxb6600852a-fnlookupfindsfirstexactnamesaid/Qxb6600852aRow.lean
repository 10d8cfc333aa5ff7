import Derived.Test.Qxb6600852aRowsOf
import Derived.Test.Qxb6600852aTail
namespace Go.Proofs.Qxb6600852a
open Go.ChangeShapes Go.WideShapes Go.ChangeAt Go.RowKit
set_option linter.unusedVariables false

/-- A scope as the laws build it. -/
def scV (a t d : ByteArray) (o : Bool) : Value := .agg #[.string a, .string t, .string d, .slice none 0 0, .bool o, .slice none 0 0]

/-- The six cells of a scope at offset o of block g. -/
def SixAt (w : World) (g o : Nat) (v : Nat → Value) : Prop := ∀ j, j < 6 → w.cell? ⟨g, o + j, none⟩ = some (v j)
def scC (a t d : ByteArray) (od : Bool) : Nat → Value
  | 0 => .string a
  | 1 => .string t
  | 2 => .string d
  | 3 => .slice none 0 0
  | 4 => .bool od
  | _ => .slice none 0 0

/-- A scope laid cell by cell. -/
def lay6 (w : World) (g o : Nat) (a t d : ByteArray) (od : Bool) : World :=
  ((((((w.setCell ⟨g, o, none⟩ (.string a)).setCell ⟨g, o + 1, none⟩ (.string t)).setCell ⟨g, o + 2, none⟩ (.string d)).setCell ⟨g, o + 3, none⟩ (.slice none 0 0)).setCell ⟨g, o + 4, none⟩ (.bool od)).setCell ⟨g, o + 5, none⟩ (.slice none 0 0))

theorem lay6_at {w : World} {g o : Nat} {a t d : ByteArray} {od : Bool} (h : ∀ j, j < 6 → ∃ v, w.cell? ⟨g, o + j, none⟩ = some v) : SixAt (lay6 w g o a t d od) g o (scC a t d od) := by
  obtain ⟨v0, h0⟩ := h 0 (by omega)
  obtain ⟨v1, h1⟩ := h 1 (by omega)
  obtain ⟨v2, h2⟩ := h 2 (by omega)
  obtain ⟨v3, h3⟩ := h 3 (by omega)
  obtain ⟨v4, h4⟩ := h 4 (by omega)
  obtain ⟨v5, h5⟩ := h 5 (by omega)
  rw [Nat.add_zero] at h0
  intro j hj
  unfold lay6
  match j, hj with
  | 0, _ =>
    rw [cell_off _ _ _ _ _ (by omega), cell_off _ _ _ _ _ (by omega), cell_off _ _ _ _ _ (by omega), cell_off _ _ _ _ _ (by omega), cell_off _ _ _ _ _ (by omega)]
    exact cell_at _ h0
  | 1, _ =>
    rw [cell_off _ _ _ _ _ (by omega), cell_off _ _ _ _ _ (by omega), cell_off _ _ _ _ _ (by omega), cell_off _ _ _ _ _ (by omega)]
    exact cell_at _ (u := v1) (by rw [cell_off _ _ _ _ _ (by omega), h1])
  | 2, _ =>
    rw [cell_off _ _ _ _ _ (by omega), cell_off _ _ _ _ _ (by omega), cell_off _ _ _ _ _ (by omega)]
    exact cell_at _ (u := v2) (by rw [cell_off _ _ _ _ _ (by omega), cell_off _ _ _ _ _ (by omega), h2])
  | 3, _ =>
    rw [cell_off _ _ _ _ _ (by omega), cell_off _ _ _ _ _ (by omega)]
    exact cell_at _ (u := v3) (by rw [cell_off _ _ _ _ _ (by omega), cell_off _ _ _ _ _ (by omega), cell_off _ _ _ _ _ (by omega), h3])
  | 4, _ =>
    rw [cell_off _ _ _ _ _ (by omega)]
    exact cell_at _ (u := v4) (by rw [cell_off _ _ _ _ _ (by omega), cell_off _ _ _ _ _ (by omega), cell_off _ _ _ _ _ (by omega), cell_off _ _ _ _ _ (by omega), h4])
  | 5, _ =>
    exact cell_at _ (u := v5) (by rw [cell_off _ _ _ _ _ (by omega), cell_off _ _ _ _ _ (by omega), cell_off _ _ _ _ _ (by omega), cell_off _ _ _ _ _ (by omega), cell_off _ _ _ _ _ (by omega), h5])
theorem lay6_other {w : World} {g o g' o' : Nat} {a t d : ByteArray} {od : Bool} (h : g' ≠ g ∨ o' < o ∨ o + 6 ≤ o') : (lay6 w g o a t d od).cell? ⟨g', o', none⟩ = w.cell? ⟨g', o', none⟩ := by
  unfold lay6
  rw [World.cell?_setCell_other _ _ _ _ (fun e => by injection e; omega), World.cell?_setCell_other _ _ _ _ (fun e => by injection e; omega), World.cell?_setCell_other _ _ _ _ (fun e => by injection e; omega),
    World.cell?_setCell_other _ _ _ _ (fun e => by injection e; omega), World.cell?_setCell_other _ _ _ _ (fun e => by injection e; omega), World.cell?_setCell_other _ _ _ _ (fun e => by injection e; omega)]
theorem lay6_frozen {w : World} {g o : Nat} {a t d : ByteArray} {od : Bool} (p : Addr) : (lay6 w g o a t d od).frozen? p = w.frozen? p := by
  unfold lay6
  simp only [World.frozen?_setCell]
theorem lay6_below {w W : World} {g o B : Nat} {a t d : ByteArray} {od : Bool} (h : Below B W w) (hg : B ≤ g) : Below B W (lay6 w g o a t d od) :=
  (((((h.setCell (p := ⟨g, o, none⟩) hg _).setCell (p := ⟨g, o + 1, none⟩) hg _).setCell (p := ⟨g, o + 2, none⟩) hg _).setCell (p := ⟨g, o + 3, none⟩) hg _).setCell (p := ⟨g, o + 4, none⟩) hg _).setCell (p := ⟨g, o + 5, none⟩) hg _

set_option maxRecDepth 100000 in
set_option maxHeartbeats 4000000 in
theorem row_in (b off b2 off2 : Nat) (n m ca cb i : Nat) (a t : ByteArray) (w : World) (hb : b < w.heap.size) (hb2 : b2 < w.heap.size) (ha : w.cell? ⟨b, off + i, none⟩ = some (.string a)) (ht : w.cell? ⟨b2, off2 + i, none⟩ = some (.string t)) (hi : i < n) (him : i < m) (hn : n ≤ 65536) (hm : m ≤ 65536) :
    Calls Try.prog 15 #[.slice (some ⟨b, off, none⟩) n ca, .slice (some ⟨b2, off2, none⟩) m cb, .int .i64 i] w fun e w' => e = .returned (scV a t (itoaS i) ((i : Int) % 2 == 1)) ∧ Below w.heap.size w w' := by
  obtain ⟨i0, hi0, hz0, hz1, hz2⟩ := info_parts Try.info30
  go_enter Try.func15, Try.ntmps15
  go_wp2
  have c0 : ∀ j, (w.alloc (Obj.cells #[.string ⟨#[]⟩, .string ⟨#[]⟩, .string ⟨#[]⟩, .slice none 0 0, .bool false, .slice none 0 0] 30)).cell? ⟨w.heap.size, j, none⟩ = #[Value.string ⟨#[]⟩, .string ⟨#[]⟩, .string ⟨#[]⟩, .slice none 0 0, .bool false, .slice none 0 0][j]? := fun j => World.cell?_alloc_at _ _ _ _ rfl
  have f0 : ∀ j, (w.alloc (Obj.cells #[.string ⟨#[]⟩, .string ⟨#[]⟩, .string ⟨#[]⟩, .slice none 0 0, .bool false, .slice none 0 0] 30)).frozen? ⟨w.heap.size, j, none⟩ = false := fun j => World.frozen?_alloc_at _ _ _ _ rfl
  have hal : Below w.heap.size w (w.alloc (Obj.cells #[.string ⟨#[]⟩, .string ⟨#[]⟩, .string ⟨#[]⟩, .slice none 0 0, .bool false, .slice none 0 0] 30)) := (Below.refl _ _).alloc (Nat.le_refl _) _
  have hg : w.heap.size < (w.alloc (Obj.cells #[.string ⟨#[]⟩, .string ⟨#[]⟩, .string ⟨#[]⟩, .slice none 0 0, .bool false, .slice none 0 0] 30)).heap.size := by simp
  rw [← hal.cell (p := ⟨b, off + i, none⟩) hb] at ha
  generalize w.alloc (Obj.cells #[.string ⟨#[]⟩, .string ⟨#[]⟩, .string ⟨#[]⟩, .slice none 0 0, .bool false, .slice none 0 0] 30) = wa at *
  have hb' : b < wa.heap.size := by omega
  clear ht hb hb2
  obtain ⟨ov, hov⟩ := exists_ov wa
  have hoc := hov.cell
  have hof := hov.frozen
  refine hov.tail 11 (by kernel_rfl) (by kernel_rfl) ?_
  dsimp only [List.take, List.drop]
  repeat (go_big_quiet_step ((go_at_call 19; exact hov.call (itoa_any _ _ (by omega)))))
  refine wpQuiet_nil ?_
  intro w' hw'
  obtain ⟨w1, hw''⟩ := hw'
  subst hw''
  have k0 := fun j => (hoc w1 w.heap.size j hg).trans (c0 j)
  have kf := fun j => (hof w1 w.heap.size j hg).trans (f0 j)
  have k00 := k0 0
  have k01 := k0 1
  have k02 := k0 2
  have k03 := k0 3
  have k04 := k0 4
  have k05 := k0 5
  have hsix := lay6_at (w := ov w1) (g := w.heap.size) (o := 0) (a := a) (t := t) (d := itoaS i) (od := ((i : Int) % 2 == 1)) (fun j hj => by
    rw [Nat.zero_add, k0 j]; match j, hj with | 0, _ => exact ⟨_, rfl⟩ | 1, _ => exact ⟨_, rfl⟩ | 2, _ => exact ⟨_, rfl⟩ | 3, _ => exact ⟨_, rfl⟩ | 4, _ => exact ⟨_, rfl⟩ | 5, _ => exact ⟨_, rfl⟩)
  have hbel : Below w.heap.size w (lay6 (ov w1) w.heap.size 0 a t (itoaS i) ((i : Int) % 2 == 1)) := lay6_below (hal.trans ((hov.below w1).mono (Nat.le_of_lt hg))) (Nat.le_refl _)
  clear hoc hof c0 f0 k0
  simp at k00 k01 k02 k03 k04 k05
  go_wp2
  show bodyPost Try.prog Try.f15 _ _ _ (lay6 (ov w1) w.heap.size 0 a t (itoaS i) ((i : Int) % 2 == 1))
  have e0 := hsix 0 (by omega)
  have e1 := hsix 1 (by omega)
  have e2 := hsix 2 (by omega)
  have e3 := hsix 3 (by omega)
  have e4 := hsix 4 (by omega)
  have e5 := hsix 5 (by omega)
  simp only [Nat.zero_add, scC] at e0 e1 e2 e3 e4 e5
  clear hsix
  generalize lay6 (ov w1) w.heap.size 0 a t (itoaS i) ((i : Int) % 2 == 1) = w6 at *
  exact bodyPost_ret (v := scV a t (itoaS i) ((i : Int) % 2 == 1)) (by simp [results, Try.results15, go_sem, scV, e0, e1, e2, e3, e4, e5]) rfl ⟨rfl, hbel⟩

set_option maxRecDepth 100000 in
set_option maxHeartbeats 4000000 in
theorem row_out (b off : Nat) (to : Option Addr) (n m ca cb i : Nat) (a : ByteArray) (w : World) (hb : b < w.heap.size) (ha : w.cell? ⟨b, off + i, none⟩ = some (.string a)) (hi : i < n) (him : ¬ i < m) (hn : n ≤ 65536) (hm : m ≤ 65536) :
    Calls Try.prog 15 #[.slice (some ⟨b, off, none⟩) n ca, .slice to m cb, .int .i64 i] w fun e w' => e = .returned (scV a ⟨#[]⟩ (itoaS i) ((i : Int) % 2 == 1)) ∧ Below w.heap.size w w' := by
  obtain ⟨i0, hi0, hz0, hz1, hz2⟩ := info_parts Try.info30
  go_enter Try.func15, Try.ntmps15
  go_wp2
  have c0 : ∀ j, (w.alloc (Obj.cells #[.string ⟨#[]⟩, .string ⟨#[]⟩, .string ⟨#[]⟩, .slice none 0 0, .bool false, .slice none 0 0] 30)).cell? ⟨w.heap.size, j, none⟩ = #[Value.string ⟨#[]⟩, .string ⟨#[]⟩, .string ⟨#[]⟩, .slice none 0 0, .bool false, .slice none 0 0][j]? := fun j => World.cell?_alloc_at _ _ _ _ rfl
  have f0 : ∀ j, (w.alloc (Obj.cells #[.string ⟨#[]⟩, .string ⟨#[]⟩, .string ⟨#[]⟩, .slice none 0 0, .bool false, .slice none 0 0] 30)).frozen? ⟨w.heap.size, j, none⟩ = false := fun j => World.frozen?_alloc_at _ _ _ _ rfl
  have hal : Below w.heap.size w (w.alloc (Obj.cells #[.string ⟨#[]⟩, .string ⟨#[]⟩, .string ⟨#[]⟩, .slice none 0 0, .bool false, .slice none 0 0] 30)) := (Below.refl _ _).alloc (Nat.le_refl _) _
  have hg : w.heap.size < (w.alloc (Obj.cells #[.string ⟨#[]⟩, .string ⟨#[]⟩, .string ⟨#[]⟩, .slice none 0 0, .bool false, .slice none 0 0] 30)).heap.size := by simp
  rw [← hal.cell (p := ⟨b, off + i, none⟩) hb] at ha
  generalize w.alloc (Obj.cells #[.string ⟨#[]⟩, .string ⟨#[]⟩, .string ⟨#[]⟩, .slice none 0 0, .bool false, .slice none 0 0] 30) = wa at *
  have hb' : b < wa.heap.size := by omega
  clear hb
  obtain ⟨ov, hov⟩ := exists_ov wa
  have hoc := hov.cell
  have hof := hov.frozen
  refine hov.tail 11 (by kernel_rfl) (by kernel_rfl) ?_
  dsimp only [List.take, List.drop]
  repeat (go_big_quiet_step ((go_at_call 19; exact hov.call (itoa_any _ _ (by omega)))))
  refine wpQuiet_nil ?_
  intro w' hw'
  obtain ⟨w1, hw''⟩ := hw'
  subst hw''
  have k0 := fun j => (hoc w1 w.heap.size j hg).trans (c0 j)
  have kf := fun j => (hof w1 w.heap.size j hg).trans (f0 j)
  have k00 := k0 0
  have k01 := k0 1
  have k02 := k0 2
  have k03 := k0 3
  have k04 := k0 4
  have k05 := k0 5
  have hsix := lay6_at (w := ov w1) (g := w.heap.size) (o := 0) (a := a) (t := ⟨#[]⟩) (d := itoaS i) (od := ((i : Int) % 2 == 1)) (fun j hj => by
    rw [Nat.zero_add, k0 j]; match j, hj with | 0, _ => exact ⟨_, rfl⟩ | 1, _ => exact ⟨_, rfl⟩ | 2, _ => exact ⟨_, rfl⟩ | 3, _ => exact ⟨_, rfl⟩ | 4, _ => exact ⟨_, rfl⟩ | 5, _ => exact ⟨_, rfl⟩)
  have hbel : Below w.heap.size w (lay6 (ov w1) w.heap.size 0 a ⟨#[]⟩ (itoaS i) ((i : Int) % 2 == 1)) := lay6_below (hal.trans ((hov.below w1).mono (Nat.le_of_lt hg))) (Nat.le_refl _)
  clear hoc hof c0 f0 k0
  simp at k00 k01 k02 k03 k04 k05
  go_wp2
  show bodyPost Try.prog Try.f15 _ _ _ (lay6 (ov w1) w.heap.size 0 a ⟨#[]⟩ (itoaS i) ((i : Int) % 2 == 1))
  have e0 := hsix 0 (by omega)
  have e1 := hsix 1 (by omega)
  have e2 := hsix 2 (by omega)
  have e3 := hsix 3 (by omega)
  have e4 := hsix 4 (by omega)
  have e5 := hsix 5 (by omega)
  simp only [Nat.zero_add, scC] at e0 e1 e2 e3 e4 e5
  clear hsix
  generalize lay6 (ov w1) w.heap.size 0 a ⟨#[]⟩ (itoaS i) ((i : Int) % 2 == 1) = w6 at *
  exact bodyPost_ret (v := scV a ⟨#[]⟩ (itoaS i) ((i : Int) % 2 == 1)) (by simp [results, Try.results15, go_sem, scV, e0, e1, e2, e3, e4, e5]) rfl ⟨rfl, hbel⟩


/-- The title at i: empty past the end. -/
def tt (T : Nat → ByteArray) (m i : Nat) : ByteArray := if i < m then T i else ⟨#[]⟩
/-- The scope at i. -/
def rowV (N T : Nat → ByteArray) (m i : Nat) : Value := scV (N i) (tt T m i) (itoaS i) ((i : Int) % 2 == 1)

theorem row_any (no to : Option Addr) (n m ca cb i : Nat) (N T : Nat → ByteArray) (w : World) (hN : IsStrs w no n N) (hT : IsStrs w to m T) (hi : i < n) (hn : n ≤ 65536) (hm : m ≤ 65536) :
    Calls Try.prog 15 #[.slice no n ca, .slice to m cb, .int .i64 i] w fun e w' => e = .returned (rowV N T m i) ∧ Below w.heap.size w w' := by
  obtain ⟨b, off, rfl, hb, hs⟩ := hN.2 (by omega)
  unfold rowV tt
  by_cases him : i < m
  · rw [if_pos him]
    obtain ⟨b2, off2, rfl, hb2, hs2⟩ := hT.2 (by omega)
    exact row_in b off b2 off2 n m ca cb i _ _ w hb hb2 (hs i hi) (hs2 i him) hi him hn hm
  · rw [if_neg him]
    exact row_out b off to n m ca cb i _ w hb (hs i hi) hi him hn hm

end Go.Proofs.Qxb6600852a
