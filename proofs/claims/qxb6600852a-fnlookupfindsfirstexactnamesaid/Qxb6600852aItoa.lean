import Derived.Test.Qxb6600852aLeaves
import Derived.Laws.BytesArg
namespace Go.Proofs.Qxb6600852a
open Go.ChangeShapes Go.WideShapes Go.ChangeAt Go.RowKit
set_option linter.unusedVariables false

/-- The decimal digits, from the last to the first, laid ahead of acc. -/
def digs : Nat → Nat → List Int → List Int
  | 0, _, acc => acc
  | f + 1, n, acc => if n = 0 then acc else digs f (n / 10) ((48 + (n : Int) % 10) :: acc)
def itoaS (n : Nat) : ByteArray := if n = 0 then ⟨#[48]⟩ else strOfNums (digs 20 n [])

theorem digs_pos {f n : Nat} {acc : List Int} (h : 0 < n) : digs (f + 1) n acc = digs f (n / 10) ((48 + (n : Int) % 10) :: acc) := by
  unfold digs; rw [if_neg (by omega)]
  cases f <;> rfl
theorem digs_zero (f : Nat) (acc : List Int) : digs f 0 acc = acc := by
  cases f <;> simp [digs]

/-- The buffer's cells, from q on, hold acc. -/
def Buf (w : World) (g : Nat) (acc : List Int) (q : Nat) : Prop :=
  q + acc.length = 24 ∧ (∀ i, i < acc.length → w.cell? ⟨g, q + i, none⟩ = some (.int .u8 (acc.getD i 0))) ∧ (∀ j, j < 24 → ∃ v, w.cell? ⟨g, j, none⟩ = some v) ∧ ∀ j, w.frozen? ⟨g, j, none⟩ = false

theorem cell_at {w : World} {b o : Nat} (v : Value) {u : Value} (h : w.cell? ⟨b, o, none⟩ = some u) : (w.setCell ⟨b, o, none⟩ v).cell? ⟨b, o, none⟩ = some v := World.cell?_setCell_same _ _ _ h
theorem cell_off (w : World) (b o o' : Nat) (v : Value) (h : o ≠ o') : (w.setCell ⟨b, o, none⟩ v).cell? ⟨b, o', none⟩ = w.cell? ⟨b, o', none⟩ :=
  World.cell?_setCell_other _ _ _ _ (fun e => h (by injection e))

theorem Buf.step {w : World} {g r : Nat} {acc : List Int} (h : Buf w g acc (r + 1)) (x : Int) : Buf (w.setCell ⟨g, r, none⟩ (.int .u8 x)) g (x :: acc) r := by
  obtain ⟨h1, h2, h3, h4⟩ := h
  refine ⟨by simp; omega, fun i hi => ?_, fun j hj => ?_, fun j => ?_⟩
  · cases i with
    | zero =>
      obtain ⟨v, hv⟩ := h3 r (by omega)
      exact cell_at _ hv
    | succ i =>
      rw [cell_off _ _ _ _ _ (by omega), show r + (i + 1) = r + 1 + i by omega, h2 i (by simpa using hi)]
      simp
  · by_cases e : j = r
    · subst e
      obtain ⟨v, hv⟩ := h3 j hj
      exact ⟨_, cell_at _ hv⟩
    · rw [cell_off _ _ _ _ _ (fun h => e h.symm)]
      exact h3 j hj
  · rw [World.frozen?_setCell]
    exact h4 j

theorem Buf.start (w : World) (c : Array Value) (t : TypeId) (hc : c.size = 24) : Buf (w.alloc (.cells c t)) w.heap.size [] 24 := by
  refine ⟨rfl, (fun i hi => by cases hi), (fun j hj => ?_), fun j => World.frozen?_alloc_at _ _ _ _ rfl⟩
  rw [World.cell?_alloc_at _ _ _ _ rfl]
  exact ⟨c[j], by simp⟩

set_option maxHeartbeats 4000000 in
theorem itoa_pos (n : Nat) (w : World) (h0 : 0 < n) (hn : n ≤ 65536) :
    Calls Try.prog 19 #[.int .i64 n] w fun e w' => e = .returned (.string (strOfNums (digs 20 n []))) ∧ Below w.heap.size w w' := by
  go_enter Try.func19, Try.ntmps19
  go_wp2
  go_loopw [0, 4] (fun a p wr => ∃ (m f : Nat) (acc : List Int), f ≤ 20 ∧ m < 10 ^ f ∧ m ≤ 65536 ∧ (0 < m ∨ f < 20) ∧ a = .int .i64 m ∧ p = .int .i64 ((f + 4 : Nat) : Int) ∧ Buf wr w.heap.size acc (f + 4) ∧ digs f m acc = digs 20 n [] ∧ Below w.heap.size w wr) (fun a _ _ => (intOf a).toNat)
  case atStart => exact ⟨n, 20, [], Nat.le_refl _, by omega, hn, .inl h0, rfl, rfl, Buf.start w _ _ rfl, rfl, (Below.refl _ _).alloc (Nat.le_refl _) _⟩
  case round =>
    obtain ⟨m, f, acc, hf, hmf, hm6, hmp, rfl, rfl, hbuf, hd, hnx⟩ := hrel
    have HD : Hid (digs f m acc = digs 20 n []) := hd
    have HF : Hid (m < 10 ^ f) := hmf
    clear hd hmf
    by_cases hm : 0 < m
    · obtain ⟨f, rfl⟩ : ∃ g, f = g + 1 := by
        cases f with
        | zero => have := HF.out; simp at this; omega
        | succ g => exact ⟨g, rfl⟩
      obtain ⟨r, hr⟩ : ∃ r, f + 4 = r := ⟨_, rfl⟩
      have hr24 : r < 24 := by omega
      have e1 : f + 1 + 4 = r + 1 := by omega
      rw [e1] at hbuf ⊢
      obtain ⟨v, hv⟩ := hbuf.2.2.1 r hr24
      have hfr := hbuf.2.2.2
      have HR : Hid (f + 4 = r) := hr
      clear hr e1
      go_wp2
      refine ⟨⟨m / 10, f, (48 + (m : Int) % 10) :: acc, by omega, ?_, by omega, .inr (by omega), by go_num, by rw [HR.out], ?_, ?_, ?_⟩, by simp [intOf]; omega⟩
      · have := HF.out
        rw [Nat.pow_succ] at this
        omega
      · rw [HR.out]
        exact hbuf.step _
      · rw [← HD.out, digs_pos hm]
      · exact hnx.setCell (p := ⟨w.heap.size, r, none⟩) (Nat.le_refl _) _
    · obtain rfl : m = 0 := by omega
      obtain ⟨q, hq⟩ : ∃ q, f + 4 = q := ⟨_, rfl⟩
      have hq24 : q < 24 := by omega
      rw [hq] at hbuf ⊢
      have hconv : (convert 40 9 (.slice (some ⟨w.heap.size, q, none⟩) (24 - q) (24 - q))).run Try.prog wr = .ok (.string (strOfNums acc)) wr :=
        run_convert_bytes_arg wr 40 5 Try.underlying40 Try.underlying5 _ q (24 - q) (24 - q) acc (by have := hbuf.1; omega) (fun i hi => hbuf.2.1 i (by have := hbuf.1; omega)) 9 Try.underlying9
      have hqi : (q : Int) ≤ 24 := by omega
      clear hq
      go_wp2
      go_ret
      refine ⟨?_, hnx⟩
      have e := HD.out
      rw [digs_zero] at e
      rw [← e]
      rfl

theorem itoa_any (n : Nat) (w : World) (hn : n ≤ 65536) :
    Calls Try.prog 19 #[.int .i64 n] w fun e w' => e = .returned (.string (itoaS n)) ∧ Below w.heap.size w w' := by
  unfold itoaS
  by_cases h : n = 0
  · subst h
    rw [if_pos rfl]
    go_enter Try.func19, Try.ntmps19
    go_wp2
    go_ret
    exact ⟨rfl, Below.refl _ _⟩
  · rw [if_neg h]
    exact itoa_pos n w (by omega) hn

end Go.Proofs.Qxb6600852a
