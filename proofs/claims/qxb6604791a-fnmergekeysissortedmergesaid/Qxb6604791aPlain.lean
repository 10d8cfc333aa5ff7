import Derived.Test.Qxb6604791aKeys
namespace Go.Proofs.Qxb6604791a
open Go.ChangeShapes Go.WideShapes Go.ChangeAt Go.RowKit

def hk0 : HK := ⟨⟨#[]⟩, ⟨#[]⟩, ⟨#[]⟩, ⟨#[]⟩⟩
def kAt (l : List HK) (i : Nat) : HK := l.getD i hk0

def mrgIn (x : HK) (f : List HK → List HK) : List HK → List HK
  | [] => x :: f []
  | y :: bs => if cmpK x y < 0 then x :: f (y :: bs) else y :: mrgIn x f bs
def mrg : List HK → List HK → List HK
  | [] => fun bs => bs
  | x :: l => mrgIn x (mrg l)

theorem mrg_nil (bs : List HK) : mrg [] bs = bs := rfl
theorem mrg_nil_right : ∀ l : List HK, mrg l [] = l
  | [] => rfl
  | x :: l => by show x :: mrg l [] = _; rw [mrg_nil_right l]
theorem mrg_cons (x y : HK) (l bs : List HK) : mrg (x :: l) (y :: bs) = if cmpK x y < 0 then x :: mrg l (y :: bs) else y :: mrg (x :: l) bs := rfl
theorem mrg_lt {x y : HK} {l bs : List HK} (h : cmpK x y < 0) : mrg (x :: l) (y :: bs) = x :: mrg l (y :: bs) := by rw [mrg_cons, if_pos h]
theorem mrg_ge {x y : HK} {l bs : List HK} (h : ¬ cmpK x y < 0) : mrg (x :: l) (y :: bs) = y :: mrg (x :: l) bs := by rw [mrg_cons, if_neg h]
theorem mrg_length : ∀ (l bs : List HK), (mrg l bs).length = l.length + bs.length
  | [], bs => by simp [mrg_nil]
  | x :: l, bs => by
    induction bs with
    | nil => rw [mrg_nil_right]; simp
    | cons y bs ih =>
      by_cases h : cmpK x y < 0
      · rw [mrg_lt h, List.length_cons, mrg_length l (y :: bs)]; simp; omega
      · rw [mrg_ge h, List.length_cons, ih]; simp; omega

/-- The cells of a list of keys. -/
def cellsK (k : HK) : List Value := [.string k.a, .string k.c, .string k.v, .string k.l]
def flat : List HK → List Value
  | [] => []
  | k :: ks => cellsK k ++ flat ks
theorem flat_length : ∀ ks : List HK, (flat ks).length = ks.length * 4
  | [] => rfl
  | k :: ks => by simp [flat, cellsK, flat_length ks]; omega
theorem flat_append : ∀ xs ys : List HK, flat (xs ++ ys) = flat xs ++ flat ys
  | [], _ => rfl
  | k :: ks, ys => by simp [flat, flat_append ks ys]
theorem flat_one (k : HK) : flat [k] = cellsK k := by simp [flat]
theorem flat_oneCell (ks : List HK) : ∀ u ∈ flat ks, u.oneCell' = true := by
  induction ks with
  | nil => intro u hu; cases hu
  | cons k ks ih =>
    intro u hu
    simp only [flat, cellsK, List.mem_append, List.mem_cons, List.not_mem_nil, or_false] at hu
    rcases hu with (rfl | rfl | rfl | rfl) | h
    · rfl
    · rfl
    · rfl
    · rfl
    · exact ih u h
theorem flat_at : ∀ (ks : List HK) (i : Nat), i < ks.length → (flat ks)[i * 4]? = some (.string (kAt ks i).a) ∧ (flat ks)[i * 4 + 1]? = some (.string (kAt ks i).c) ∧ (flat ks)[i * 4 + 2]? = some (.string (kAt ks i).v) ∧ (flat ks)[i * 4 + 3]? = some (.string (kAt ks i).l)
  | [], _, h => by cases h
  | k :: ks, 0, _ => by simp [flat, cellsK, kAt]
  | k :: ks, i + 1, h => by
    have ih := flat_at ks i (by simpa using h)
    have e : kAt (k :: ks) (i + 1) = kAt ks i := by simp [kAt]
    rw [e]
    have e0 : (i + 1) * 4 = (i * 4) + 4 := by omega
    have f : ∀ j, (flat (k :: ks))[j + 4]? = (flat ks)[j]? := fun j => by
      show (cellsK k ++ flat ks)[j + 4]? = _
      rw [List.getElem?_append_right (by simp [cellsK])]
      simp [cellsK]
    rw [e0, show i * 4 + 4 + 1 = i * 4 + 1 + 4 by omega, show i * 4 + 4 + 2 = i * 4 + 2 + 4 by omega, show i * 4 + 4 + 3 = i * 4 + 3 + 4 by omega, f, f, f, f]
    exact ih
theorem kAt_cons (k : HK) (ks : List HK) (i : Nat) : kAt (k :: ks) (i + 1) = kAt ks i := by simp [kAt]
theorem kAt_zero (k : HK) (ks : List HK) : kAt (k :: ks) 0 = k := rfl

/-- A slice of the keys ks lies in memory. -/
def KeysAt (w : World) (ao : Option Addr) (ks : List HK) : Prop := IsKeys w ao ks.length (kAt ks)

theorem KeysAt.cells {w : World} {ao : Option Addr} {ks : List HK} (h : KeysAt w ao ks) : ∀ ad, ao = some ad → ∀ j u, (flat ks)[j]? = some u → w.cell? (ad.add j) = some u := by
  intro ad had j u hu
  have hj : j < ks.length * 4 := by have := (List.getElem?_eq_some_iff.1 hu).1; rwa [flat_length] at this
  obtain ⟨b, off, hao, _, hs⟩ := h.2 (by omega)
  rw [hao] at had
  obtain rfl := Option.some.inj had
  obtain ⟨c0, c1, c2, c3⟩ := hs (j / 4) (by omega)
  obtain ⟨x0, x1, x2, x3⟩ := flat_at ks (j / 4) (by omega)
  have hadd : (⟨b, off, none⟩ : Addr).add j = ⟨b, off + j, none⟩ := by unfold Addr.add; split <;> simp_all
  rw [hadd]
  have hm : j % 4 = 0 ∨ j % 4 = 1 ∨ j % 4 = 2 ∨ j % 4 = 3 := by omega
  rcases hm with hm | hm | hm | hm
  · have e : j = j / 4 * 4 := by omega
    rw [← hu, e, x0, ← c0]
  · have e : j = j / 4 * 4 + 1 := by omega
    rw [← hu, e, x1, ← c1]
    rfl
  · have e : j = j / 4 * 4 + 2 := by omega
    rw [← hu, e, x2, ← c2]
    rfl
  · have e : j = j / 4 * 4 + 3 := by omega
    rw [← hu, e, x3, ← c3]
    rfl

theorem KeysAt.kept {w w' : World} {ao : Option Addr} {ks : List HK} (h : KeysAt w ao ks) (hb : Below w.heap.size w w') : KeysAt w' ao ks := by
  refine ⟨h.1, fun h0 => ?_⟩
  obtain ⟨b, off, hao, hlt, hs⟩ := h.2 h0
  refine ⟨b, off, hao, Nat.lt_of_lt_of_le hlt hb.size, fun i hi => ?_⟩
  obtain ⟨c0, c1, c2, c3⟩ := hs i hi
  exact ⟨(hb.cell (p := ⟨b, off + i * 4, none⟩) hlt).trans c0, (hb.cell (p := ⟨b, off + i * 4 + 1, none⟩) hlt).trans c1, (hb.cell (p := ⟨b, off + i * 4 + 2, none⟩) hlt).trans c2, (hb.cell (p := ⟨b, off + i * 4 + 3, none⟩) hlt).trans c3⟩

/-- The first key, and what is behind it. -/
theorem KeysAt.head {w : World} {ao : Option Addr} {k : HK} {ks : List HK} (h : KeysAt w ao (k :: ks)) : ∃ b off, ao = some ⟨b, off, none⟩ ∧ b < w.heap.size ∧
    w.cell? ⟨b, off, none⟩ = some (.string k.a) ∧ w.cell? ⟨b, off + 1, none⟩ = some (.string k.c) ∧ w.cell? ⟨b, off + 2, none⟩ = some (.string k.v) ∧ w.cell? ⟨b, off + 3, none⟩ = some (.string k.l) ∧
    ∀ ao', (0 < ks.length → ao' = some ⟨b, off + 4, none⟩) → KeysAt w ao' ks := by
  obtain ⟨b, off, hao, hlt, hs⟩ := h.2 (by simp)
  obtain ⟨c0, c1, c2, c3⟩ := hs 0 (by simp)
  refine ⟨b, off, hao, hlt, by simpa [kAt_zero] using c0, by simpa [kAt_zero] using c1, by simpa [kAt_zero] using c2, by simpa [kAt_zero] using c3, fun ao' h' => ⟨?_, fun h0 => ⟨b, off + 4, h' h0, hlt, fun i hi => ?_⟩⟩⟩
  · have := h.1; simp only [List.length_cons] at this; omega
  · obtain ⟨c0, c1, c2, c3⟩ := hs (i + 1) (by simpa using hi)
    rw [kAt_cons] at c0 c1 c2 c3
    have e : off + (i + 1) * 4 = off + 4 + i * 4 := by omega
    rw [e] at c0 c1 c2 c3
    exact ⟨c0, c1, c2, c3⟩

theorem KeysAt.of_row {w : World} {g : Nat} {e : TypeId} {n cap : Nat} {ks : List HK} (hn : n = ks.length) (h : w.ownsRow g e 4 (.slice (some ⟨g, 0, none⟩) n cap) n (flat ks)) : KeysAt w (some ⟨g, 0, none⟩) ks := by
  subst hn
  refine ⟨?_, fun h0 => ⟨g, 0, rfl, (h.lt _ rfl).2, fun i hi => ?_⟩⟩
  · rcases h.2 with ⟨h1, _⟩ | ⟨g', cap, cur, h1, h2, h3, h4, h5, r⟩
    · cases h1
    · omega
  · obtain ⟨x0, x1, x2, x3⟩ := flat_at ks i hi
    rw [← x0, ← x1, ← x2, ← x3, Nat.zero_add]
    exact ⟨h.cellAt _ (by omega), h.cellAt _ (by omega), h.cellAt _ (by omega), h.cellAt _ (by omega)⟩

end Go.Proofs.Qxb6604791a
