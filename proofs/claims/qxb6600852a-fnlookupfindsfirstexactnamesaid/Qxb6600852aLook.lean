import Derived.Test.Qxb6600852aIndex
namespace Go.Proofs.Qxb6600852a
open Go.ChangeShapes Go.WideShapes Go.ChangeAt Go.RowKit
set_option linter.unusedVariables false

/-- What lookup hands back. -/
def RetLk (N T : Nat → ByteArray) (m : Nat) (name : ByteArray) (n : Nat) (e : Ending) : Prop :=
  (e = .returned (.tuple #[scV ⟨#[]⟩ ⟨#[]⟩ ⟨#[]⟩ false, .bool false]) ∧ ∀ i, i < n → eqN (N i) name = false) ∨
  ∃ k : Nat, k < n ∧ e = .returned (.tuple #[rowV N T m k, .bool true]) ∧ eqN (N k) name = true ∧ ∀ i, i < k → eqN (N i) name = false

/-- A block of a zero scope. -/
structure Fresh6 (W w : World) : Prop where
  lt : W.heap.size < w.heap.size
  bel : Below W.heap.size W w
  cells : ∀ j, j < 6 → ∃ v, w.cell? ⟨W.heap.size, 0 + j, none⟩ = some v
  frozen : ∀ j, w.frozen? ⟨W.heap.size, j, none⟩ = false

theorem Fresh6.start (w : World) (c : Array Value) (t : TypeId) (hc : c.size = 6) : Fresh6 w (w.alloc (.cells c t)) := by
  refine ⟨by simp, (Below.refl _ _).alloc (Nat.le_refl _) _, fun j hj => ?_, fun j => World.frozen?_alloc_at _ _ _ _ rfl⟩
  rw [World.cell?_alloc_at _ _ _ _ rfl, Nat.zero_add]
  exact ⟨c[j], by simp⟩
theorem Fresh6.kept {W w w' : World} (h : Fresh6 W w) (hb : Below w.heap.size w w') : Fresh6 W w' :=
  ⟨Nat.lt_of_lt_of_le h.lt hb.size, h.bel.trans (hb.mono (Nat.le_of_lt h.lt)), fun j hj => by obtain ⟨v, hv⟩ := h.cells j hj; exact ⟨v, (hb.cell (p := ⟨W.heap.size, 0 + j, none⟩) h.lt).trans hv⟩, fun j => (hb.frozen (p := ⟨W.heap.size, j, none⟩) h.lt).trans (h.frozen j)⟩

theorem Fresh6.laid {W w : World} (h : Fresh6 W w) (a t d : ByteArray) (od : Bool) : Below W.heap.size W (lay6 w W.heap.size 0 a t d od) ∧
    (lay6 w W.heap.size 0 a t d od).cell? ⟨W.heap.size, 0, none⟩ = some (.string a) ∧ (lay6 w W.heap.size 0 a t d od).cell? ⟨W.heap.size, 1, none⟩ = some (.string t) ∧ (lay6 w W.heap.size 0 a t d od).cell? ⟨W.heap.size, 2, none⟩ = some (.string d) ∧
    (lay6 w W.heap.size 0 a t d od).cell? ⟨W.heap.size, 3, none⟩ = some (.slice none 0 0) ∧ (lay6 w W.heap.size 0 a t d od).cell? ⟨W.heap.size, 4, none⟩ = some (.bool od) ∧ (lay6 w W.heap.size 0 a t d od).cell? ⟨W.heap.size, 5, none⟩ = some (.slice none 0 0) := by
  have hs := lay6_at (w := w) (g := W.heap.size) (o := 0) (a := a) (t := t) (d := d) (od := od) h.cells
  exact ⟨lay6_below h.bel (Nat.le_refl _), hs 0 (by omega), hs 1 (by omega), hs 2 (by omega), hs 3 (by omega), hs 4 (by omega), hs 5 (by omega)⟩

theorem Fresh6.six {W w : World} (h : Fresh6 W w) : ∃ v0 v1 v2 v3 v4 v5, w.cell? ⟨W.heap.size, 0, none⟩ = some v0 ∧ w.cell? ⟨W.heap.size, 1, none⟩ = some v1 ∧ w.cell? ⟨W.heap.size, 2, none⟩ = some v2 ∧ w.cell? ⟨W.heap.size, 3, none⟩ = some v3 ∧ w.cell? ⟨W.heap.size, 4, none⟩ = some v4 ∧ w.cell? ⟨W.heap.size, 5, none⟩ = some v5 := by
  obtain ⟨v0, h0⟩ := h.cells 0 (by omega)
  obtain ⟨v1, h1⟩ := h.cells 1 (by omega)
  obtain ⟨v2, h2⟩ := h.cells 2 (by omega)
  obtain ⟨v3, h3⟩ := h.cells 3 (by omega)
  obtain ⟨v4, h4⟩ := h.cells 4 (by omega)
  obtain ⟨v5, h5⟩ := h.cells 5 (by omega)
  exact ⟨v0, v1, v2, v3, v4, v5, h0, h1, h2, h3, h4, h5⟩

set_option maxRecDepth 100000 in
set_option maxHeartbeats 1000000 in
theorem lookup_any (g n m : Nat) (N T : Nat → ByteArray) (name : ByteArray) (w : World) (ht : TRow w g n n N T m) (hn : n ≤ 65536) :
    Calls Try.prog 18 #[.slice (some ⟨g, 0, none⟩) n n, .string name] w fun e w' => RetLk N T m name n e ∧ Below w.heap.size w w' := by
  obtain ⟨i0, hi0, hz0, hz1, hz2⟩ := info_parts Try.info30
  have hfr := Fresh6.start w #[.string ⟨#[]⟩, .string ⟨#[]⟩, .string ⟨#[]⟩, .slice none 0 0, .bool false, .slice none 0 0] 30 rfl
  have ht1 := ht.kept hfr.bel
  have hix := idx_any g n m N T name _ ht1 hn
  go_enter Try.func18, Try.ntmps18
  go_wp2_with fail
  refine hix.mono ?_
  clear hix
  rintro e w1 ⟨⟨r, rfl, hr⟩, hb1⟩
  have hfr1 := hfr.kept hb1
  have ht2 := ht1.kept hb1
  clear hfr ht1 hb1 ht
  obtain ⟨v0, v1, v2, v3, v4, v5, c0, c1, c2, c3, c4, c5⟩ := hfr1.six
  have hff := hfr1.frozen
  rcases hr with ⟨rfl, hno⟩ | ⟨k, hk, rfl, hy, hno⟩
  · go_wp2
    obtain ⟨hbel, e0, e1, e2, e3, e4, e5⟩ := hfr1.laid ⟨#[]⟩ ⟨#[]⟩ ⟨#[]⟩ false
    show bodyPost Try.prog Try.f18 _ _ _ (lay6 w1 w.heap.size 0 ⟨#[]⟩ ⟨#[]⟩ ⟨#[]⟩ false)
    generalize lay6 w1 w.heap.size 0 ⟨#[]⟩ ⟨#[]⟩ ⟨#[]⟩ false = w6 at *
    exact bodyPost_ret (v := .tuple #[scV ⟨#[]⟩ ⟨#[]⟩ ⟨#[]⟩ false, .bool false]) (by simp [results, Try.results18, go_sem, scV, e0, e1, e2, e3, e4, e5]) rfl ⟨.inl ⟨rfl, hno⟩, hbel⟩
  · obtain ⟨q0, q1, q2, q3, q4, q5⟩ := ht2.six hk
    obtain ⟨od, hod⟩ : ∃ od, od = ((k : Int) % 2 == 1) := ⟨_, rfl⟩
    rw [← hod] at q4
    have HOD : Hid (od = ((k : Int) % 2 == 1)) := hod
    clear hod
    obtain ⟨a, ha⟩ : ∃ a, a = N k := ⟨_, rfl⟩
    obtain ⟨t, htt⟩ : ∃ t, t = tt T m k := ⟨_, rfl⟩
    obtain ⟨d, hd⟩ : ∃ d, d = itoaS k := ⟨_, rfl⟩
    rw [← ha] at q0
    rw [← htt] at q1
    rw [← hd] at q2
    have HA : Hid (a = N k ∧ t = tt T m k ∧ d = itoaS k) := ⟨ha, htt, hd⟩
    clear ha htt hd
    have HR : Hid (RetLk N T m name n (.returned (.tuple #[scV a t d od, .bool true]))) := by
      obtain ⟨h1, h2, h3⟩ := HA.out
      refine .inr ⟨k, hk, ?_, hy, hno⟩
      rw [h1, h2, h3, HOD.out, rowV]
    clear HA HOD
    go_wp2
    obtain ⟨hbel, e0, e1, e2, e3, e4, e5⟩ := hfr1.laid a t d od
    show bodyPost Try.prog Try.f18 _ _ _ (lay6 w1 w.heap.size 0 a t d od)
    generalize lay6 w1 w.heap.size 0 a t d od = w6 at *
    exact bodyPost_ret (v := .tuple #[scV a t d od, .bool true]) (by simp [results, Try.results18, go_sem, scV, e0, e1, e2, e3, e4, e5]) rfl ⟨HR.out, hbel⟩

end Go.Proofs.Qxb6600852a
