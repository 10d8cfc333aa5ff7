import Derived.Test.Qxb6600852aTable
namespace Go.Proofs.Qxb6600852a
open Go.ChangeShapes Go.WideShapes Go.ChangeAt Go.RowKit
set_option linter.unusedVariables false

/-- Are the two strings the same, byte for byte? -/
def eqN (a b : ByteArray) : Bool := a.toList == b.toList

theorem clo_any (a t d : ByteArray) (od : Bool) (name : ByteArray) (p : Nat) (w : World) (hp : p < w.heap.size) (hc : w.cell? ⟨p, 0, none⟩ = some (.string name)) :
    Calls Try.prog 22 #[.agg #[.string a, .string t, .string d, .slice none 0 0, .bool od, .slice none 0 0], .pointer (some ⟨p, 0, none⟩)] w fun e w' => e = .returned (.bool (eqN a name)) ∧ Below w.heap.size w w' := by
  go_enter Try.func22, Try.ntmps22
  go_wp2
  go_ret
  exact ⟨rfl, (Below.refl _ _).alloc (Nat.le_refl _) _⟩

/-- r is the first index whose name is the wanted one, or -1. -/
def IsFirst (N : Nat → ByteArray) (name : ByteArray) (n : Nat) (r : Int) : Prop :=
  (r = -1 ∧ ∀ i, i < n → eqN (N i) name = false) ∨ ∃ k : Nat, k < n ∧ r = (k : Int) ∧ eqN (N k) name = true ∧ ∀ i, i < k → eqN (N i) name = false

/-- It hands back that index. -/
def RetIx (N : Nat → ByteArray) (name : ByteArray) (n : Nat) (e : Ending) : Prop := ∃ r, e = .returned (.int .i64 r) ∧ IsFirst N name n r

theorem TRow.six {w : World} {g n k : Nat} {N T : Nat → ByteArray} {m i : Nat} (h : TRow w g n k N T m) (hi : i < k) :
    w.cell? ⟨g, i * 6, none⟩ = some (.string (N i)) ∧ w.cell? ⟨g, i * 6 + 1, none⟩ = some (.string (tt T m i)) ∧ w.cell? ⟨g, i * 6 + 2, none⟩ = some (.string (itoaS i)) ∧
    w.cell? ⟨g, i * 6 + 3, none⟩ = some (.slice none 0 0) ∧ w.cell? ⟨g, i * 6 + 4, none⟩ = some (.bool ((i : Int) % 2 == 1)) ∧ w.cell? ⟨g, i * 6 + 5, none⟩ = some (.slice none 0 0) :=
  ⟨h.rows i hi 0 (by omega), h.rows i hi 1 (by omega), h.rows i hi 2 (by omega), h.rows i hi 3 (by omega), h.rows i hi 4 (by omega), h.rows i hi 5 (by omega)⟩

set_option maxRecDepth 100000 in
set_option maxHeartbeats 4000000 in
theorem find_any (g n m p : Nat) (N T : Nat → ByteArray) (name : ByteArray) (w : World) (ht : TRow w g n n N T m) (hp : p < w.heap.size) (hc : w.cell? ⟨p, 0, none⟩ = some (.string name)) (hn : n ≤ 65536) :
    Calls Try.prog 21 #[.slice (some ⟨g, 0, none⟩) n n, .func (Fn.func 22) #[] #[.pointer (some ⟨p, 0, none⟩)]] w fun e w' => RetIx N name n e ∧ Below w.heap.size w w' := by
  go_enter Try.func21, Try.ntmps21
  go_wp2
  go_loopw [8] (fun i wr => ∃ k : Nat, k ≤ n ∧ i = .int .i64 k ∧ (∀ j, j < k → eqN (N j) name = false) ∧ Below w.heap.size w wr) (fun i _ => n - (intOf i).toNat)
  case atStart => exact ⟨0, Nat.zero_le _, rfl, fun j hj => absurd hj (Nat.not_lt_zero _), Below.refl _ _⟩
  case round =>
    obtain ⟨k, hk, rfl, hno, hnx⟩ := hrel
    by_cases hlt : k < n
    · obtain ⟨e0, e1, e2, e3, e4, e5⟩ := (ht.kept hnx).six hlt
      have hcr := (hnx.cell (p := ⟨p, 0, none⟩) hp).trans hc
      have hpr : p < wr.heap.size := Nat.lt_of_lt_of_le hp hnx.size
      have HNO : Hid (∀ j, j < k → eqN (N j) name = false) := hno
      clear hno
      obtain ⟨od, hod⟩ : ∃ od, od = ((k : Int) % 2 == 1) := ⟨_, rfl⟩
      rw [← hod] at e4
      clear hod
      have hclo := clo_any (N k) (tt T m k) (itoaS k) od name p wr hpr hcr
      cases heq : eqN (N k) name with
      | true =>
        rw [heq] at hclo
        go_wp2_with fail
        refine hclo.mono ?_
        rintro e w1 ⟨rfl, hb1⟩
        clear hclo
        go_wp2
        go_ret
        exact ⟨⟨_, rfl, .inr ⟨k, hlt, rfl, heq, HNO.out⟩⟩, hnx.trans (hb1.mono hnx.size)⟩
      | false =>
        rw [heq] at hclo
        go_wp2_with fail
        refine hclo.mono ?_
        rintro e w1 ⟨rfl, hb1⟩
        clear hclo
        have HN2 : Hid (∀ j, j < k + 1 → eqN (N j) name = false) := fun j hj => by
          by_cases e : j = k
          · subst e; exact heq
          · exact HNO.out j (by omega)
        go_wp2
        go_roundw
        case rel => exact ⟨k + 1, by omega, by go_num, HN2.out, hnx.trans (hb1.mono hnx.size)⟩
        case measure => simp [intOf]; omega
    · have e : k = n := by omega
      subst e
      go_wp2
      go_ret
      exact ⟨⟨_, rfl, .inl ⟨rfl, hno⟩⟩, hnx⟩

theorem idx_any (g n m : Nat) (N T : Nat → ByteArray) (name : ByteArray) (w : World) (ht : TRow w g n n N T m) (hn : n ≤ 65536) :
    Calls Try.prog 20 #[.slice (some ⟨g, 0, none⟩) n n, .string name] w fun e w' => RetIx N name n e ∧ Below w.heap.size w w' := by
  have hal : Below w.heap.size w (w.alloc (.cells #[.string name] 9)) := (Below.refl _ _).alloc (Nat.le_refl _) _
  have hf := find_any g n m w.heap.size N T name (w.alloc (.cells #[.string name] 9)) (ht.kept hal) (by simp) (by rw [World.cell?_alloc_at _ _ _ _ rfl]; rfl) hn
  clear ht
  go_enter Try.func20, Try.ntmps20
  go_wp2_with fail
  refine hf.mono ?_
  rintro e w1 ⟨⟨r, rfl, hr⟩, hb1⟩
  go_wp2
  go_ret
  exact ⟨⟨_, rfl, hr⟩, hal.trans (hb1.mono hal.size)⟩

end Go.Proofs.Qxb6600852a
