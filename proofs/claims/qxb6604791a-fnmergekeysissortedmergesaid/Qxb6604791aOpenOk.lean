import Derived.Test.Qxb6604791aPlain
import Derived.Test.Qxb6604791aCmp
import Derived.Lib.SmallJoins
import Derived.ChangeOld
import Derived.Carry
namespace Go.Proofs.Qxb6604791a.OpenOk
open Go.ChangeShapes Go.WideShapes Go.ChangeAt Go.RowKit Go.Deep Go.Joins

theorem cells32 : Try.prog.cellsOf 32 = 4 := by kernel_rfl
theorem cells9 : Try.prog.cellsOf 9 = 1 := by kernel_rfl

theorem addr_add (b off j : Nat) : (⟨b, off, none⟩ : Addr).add j = ⟨b, off + j, none⟩ := by unfold Addr.add; split <;> simp_all

section
variable {H : Type} {enc : TypeId × Value → H} {W : World} {base : Nat} {spare : Nat → Bool} {held : Bool}

/-- Four cells that read as a key. -/
theorem open_key {fuel : Nat} {cs : List Value} {x : DataW H × List MemPlace} (h : DataW.trod enc Try.prog W base spare held fuel 32 cs = some x) : ∃ k : HK, cs = cellsK k ∧ k.ok := by
  obtain ⟨y0, y1, y2, y3, n, _, hl, h0, h1, h2, h3⟩ := trod_struct4 Try.underlying32 h
  rw [cells32] at hl
  simp only [cells9] at h0 h1 h2 h3
  match cs, hl with
  | [c0, c1, c2, c3], _ =>
    obtain ⟨a, e0, _, s0⟩ := DataW.trod_string Try.underlying9 h0
    obtain ⟨c, e1, _, s1⟩ := DataW.trod_string Try.underlying9 h1
    obtain ⟨v, e2, _, s2⟩ := DataW.trod_string Try.underlying9 h2
    obtain ⟨l, e3, _, s3⟩ := DataW.trod_string Try.underlying9 h3
    simp at e0 e1 e2 e3
    exact ⟨⟨a, c, v, l⟩, by simp [cellsK, e0, e1, e2, e3], s0, s1, s2, s3⟩

/-- A slice of keys, opened. -/
theorem open_keys {fuel : Nat} {a0 : Option Addr} {len cap : Nat} {x : DataW H × List MemPlace} (h : DataW.trod enc Try.prog W base spare held fuel 22 [.slice a0 len cap] = some x) :
    ∃ ks : List HK, ks.length = len ∧ KeysAt W a0 ks ∧ ∀ k ∈ ks, k.ok := by
  rcases open_slice Try.underlying22 h with ⟨hcs, _⟩ | ⟨a, len', cap', m, n, D, Pl, hcs, _, hl, hm, hmm, _, hx⟩
  · simp at hcs
    obtain ⟨rfl, rfl, rfl⟩ := hcs
    exact ⟨[], rfl, ⟨Nat.zero_le _, fun h => by cases h⟩, fun k hk => by cases hk⟩
  · simp at hcs
    obtain ⟨rfl, rfl, rfl⟩ := hcs
    have hlm : len ≤ m := by rw [hmm]; split <;> omega
    have hk : ∀ i, i < len → ∃ k : HK, (∀ j, j < 4 → W.cell? ((a.add (i * 4)).add j) = (cellsK k)[j]?) ∧ k.ok := fun i hi => by
      obtain ⟨cs', h1, h2⟩ := hx i (by omega)
      rw [cells32] at h1
      obtain ⟨k, rfl, hok⟩ := open_key h2
      exact ⟨k, (World.cells?_some h1).2.2, hok⟩
    have hinh : ∃ K : Nat → HK, ∀ i, i < len → (∀ j, j < 4 → W.cell? ((a.add (i * 4)).add j) = (cellsK (K i))[j]?) ∧ (K i).ok := by
      classical
      refine ⟨fun i => if hi : i < len then Classical.choose (hk i hi) else hk0, fun i hi => ?_⟩
      simp only [dif_pos hi]
      exact Classical.choose_spec (hk i hi)
    obtain ⟨K, hK⟩ := hinh
    refine ⟨(List.range len).map K, by simp, ⟨?_, fun h0 => ?_⟩, fun k hk => ?_⟩
    · simp; omega
    · simp only [List.length_map, List.length_range] at h0 ⊢
      obtain ⟨b, off, spot⟩ := a
      have hs : spot = none := by
        have e : ((⟨b, off, spot⟩ : Addr).add (0 * 4)).add 0 = ⟨b, off, spot⟩ := by unfold Addr.add; simp
        have := (hK 0 h0).1 0 (by omega)
        rw [e] at this
        exact World.cell?_spot (a := ⟨b, off, spot⟩) (v := .string (K 0).a) (this.trans rfl)
      subst hs
      have hc : ∀ i, i < len → ∀ j, j < 4 → W.cell? ⟨b, off + i * 4 + j, none⟩ = (cellsK (K i))[j]? := fun i hi j hj => by
        have := (hK i hi).1 j hj
        rwa [addr_add, addr_add] at this
      refine ⟨b, off, rfl, ?_, fun i hi => ?_⟩
      · have := hc 0 h0 0 (by omega)
        exact World.block_lt_of_cell? W _ (this.trans rfl)
      · have e : kAt ((List.range len).map K) i = K i := by simp [kAt, hi]
        rw [e]
        exact ⟨hc i hi 0 (by omega), hc i hi 1 (by omega), hc i hi 2 (by omega), hc i hi 3 (by omega)⟩
    · obtain ⟨i, hi, rfl⟩ := List.mem_map.1 hk
      exact (hK i (List.mem_range.1 hi)).2
end

end Go.Proofs.Qxb6604791a.OpenOk
