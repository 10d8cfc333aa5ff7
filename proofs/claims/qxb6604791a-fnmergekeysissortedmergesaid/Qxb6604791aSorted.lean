import Derived.Test.Qxb6604791aCmp
import Derived.Test.Qxb6604791aDp
namespace Go.Proofs.Qxb6604791a
open Go.ChangeShapes Go.WideShapes Go.ChangeAt Go.RowKit

/-- The first n keys stand in order. -/
def SortedN (n : Nat) (K : Nat → HK) : Prop := ∀ t, t + 1 < n → cmpK (K t) (K (t + 1)) ≤ 0
/-- It says whether they do. -/
def RetSorted (n : Nat) (K : Nat → HK) (e : Ending) : Prop := ∃ r : Bool, e = .returned (.bool r) ∧ (r = true ↔ SortedN n K)

theorem sorted_small {n : Nat} {K : Nat → HK} (h : n ≤ 1) : SortedN n K := fun t ht => by omega

set_option maxRecDepth 100000 in
set_option maxHeartbeats 4000000 in
theorem sortedHK_any (ao : Option Addr) (n cap : Nat) (K : Nat → HK) (w : World) (h : IsKeys w ao n K) (hok : ∀ i, i < n → (K i).ok) :
    Calls Try.prog 12 #[.slice ao n cap] w fun e w' => RetSorted n K e ∧ Below w.heap.size w w' := by
  obtain ⟨hn, h⟩ := h
  unfold maxLen at hn
  by_cases hn1 : n ≤ 1
  · clear h
    go_enter Try.func12, Try.ntmps12
    go_wp2
    refine wp_loop_rounds 1 ?_
    rw [rounds_succ]
    go_wp2
    go_ret
    exact ⟨⟨true, rfl, fun _ => sorted_small hn1, fun _ => rfl⟩, Below.refl _ _⟩
  obtain ⟨b, off, rfl, hb, hs⟩ := h (by omega)
  clear h
  go_enter Try.func12, Try.ntmps12
  go_wp2
  go_loopw [3] (fun i wr => ∃ q : Nat, q + 1 ≤ n ∧ i = .int .i64 ((q : Int) + 1) ∧ SortedN (q + 1) K ∧ Below w.heap.size w wr) (fun i _ => n - (intOf i).toNat)
  case atStart => exact ⟨0, by omega, rfl, sorted_small (by omega), Below.refl _ _⟩
  case round =>
    obtain ⟨q, hq, rfl, hsq, hnx⟩ := hrel
    have HS : Hid (SortedN (q + 1) K) := hsq
    clear hsq
    by_cases hlt : q + 1 < n
    · obtain ⟨x0, x1, x2, x3⟩ := hs q (by omega)
      obtain ⟨y0, y1, y2, y3⟩ := hs (q + 1) (by omega)
      rw [← hnx.cell (p := ⟨b, off + q * 4, none⟩) hb] at x0
      rw [← hnx.cell (p := ⟨b, off + q * 4 + 1, none⟩) hb] at x1
      rw [← hnx.cell (p := ⟨b, off + q * 4 + 2, none⟩) hb] at x2
      rw [← hnx.cell (p := ⟨b, off + q * 4 + 3, none⟩) hb] at x3
      rw [← hnx.cell (p := ⟨b, off + (q + 1) * 4, none⟩) hb] at y0
      rw [← hnx.cell (p := ⟨b, off + (q + 1) * 4 + 1, none⟩) hb] at y1
      rw [← hnx.cell (p := ⟨b, off + (q + 1) * 4 + 2, none⟩) hb] at y2
      rw [← hnx.cell (p := ⟨b, off + (q + 1) * 4 + 3, none⟩) hb] at y3
      have hbw : b < wr.heap.size := Nat.lt_of_lt_of_le hb hnx.size
      have hokq := hok q (by omega)
      have HK : Hid (HK.ok ⟨(K q).a, (K q).c, (K q).v, (K q).l⟩) := hokq
      clear hokq hok hs
      obtain ⟨ov, hov⟩ := exists_ov wr
      have hoc := hov.cell
      by_cases hc : 0 < cmpK ⟨(K q).a, (K q).c, (K q).v, (K q).l⟩ ⟨(K (q + 1)).a, (K (q + 1)).c, (K (q + 1)).v, (K (q + 1)).l⟩
      · go_wp2_with fail
        refine hov.all (by kernel_rfl) (by kernel_rfl) ?_
        repeat (go_big_quiet_step ((go_at_call 32; exact hov.call (cmpHK_any _ _ _ _ _ _ _ _ _ HK.out))))
        refine wpQuiet_nil ?_
        intro w' hw'
        obtain ⟨w1, hw''⟩ := hw'
        subst hw''
        go_wp2
        go_ret
        exact ⟨⟨false, rfl, (fun h => by cases h), (fun h => absurd (h q hlt) (Int.not_le.2 hc))⟩, hnx.trans ((hov.below w1).mono hnx.size)⟩
      · have HC : Hid (¬ 0 < cmpK (K q) (K (q + 1))) := hc
        go_wp2_with fail
        refine hov.all (by kernel_rfl) (by kernel_rfl) ?_
        repeat (go_big_quiet_step ((go_at_call 32; exact hov.call (cmpHK_any _ _ _ _ _ _ _ _ _ HK.out))))
        refine wpQuiet_nil ?_
        intro w' hw'
        obtain ⟨w1, hw''⟩ := hw'
        subst hw''
        go_wp2
        refine ⟨⟨q + 1, by omega, by go_num, ?_, hnx.trans ((hov.below w1).mono hnx.size)⟩, by simp [intOf]; omega⟩
        intro t ht
        by_cases e : t = q
        · subst e; exact HC.out
        · exact HS.out t (by omega)
    · go_wp2
      go_ret
      have e : n = q + 1 := by omega
      subst e
      exact ⟨⟨true, rfl, fun _ => HS.out, fun _ => rfl⟩, hnx⟩

/-- The greedy match of sortedInterleaves. -/
def grN (A B R : Nat → HK) (n m : Nat) : Nat → Nat → Nat → Nat → Bool
  | 0, i, j, _ => decide (i = n) && decide (j = m)
  | f + 1, i, j, k => if i < n ∧ eqK (A i) (R k) = true then grN A B R n m f (i + 1) j (k + 1) else if j < m ∧ eqK (B j) (R k) = true then grN A B R n m f i (j + 1) (k + 1) else false

theorem grN_cases {A B R : Nat → HK} {n m f i j k : Nat} (h : grN A B R n m (f + 1) i j k = true) :
    (i < n ∧ eqK (A i) (R k) = true ∧ grN A B R n m f (i + 1) j (k + 1) = true) ∨
    (i < n ∧ eqK (A i) (R k) = false ∧ j < m ∧ eqK (B j) (R k) = true ∧ grN A B R n m f i (j + 1) (k + 1) = true) ∨
    (¬ i < n ∧ j < m ∧ eqK (B j) (R k) = true ∧ grN A B R n m f i (j + 1) (k + 1) = true) := by
  unfold grN at h
  by_cases h1 : i < n ∧ eqK (A i) (R k) = true
  · rw [if_pos h1] at h
    exact .inl ⟨h1.1, h1.2, h⟩
  · rw [if_neg h1] at h
    by_cases h2 : j < m ∧ eqK (B j) (R k) = true
    · rw [if_pos h2] at h
      by_cases h3 : i < n
      · exact .inr (.inl ⟨h3, by cases he : eqK (A i) (R k) with | false => rfl | true => exact absurd ⟨h3, he⟩ h1, h2.1, h2.2, h⟩)
      · exact .inr (.inr ⟨h3, h2.1, h2.2, h⟩)
    · rw [if_neg h2] at h
      cases h

set_option maxRecDepth 100000 in
set_option maxHeartbeats 8000000 in
theorem sinter_any (ro ao bo : Option Addr) (n m cr ca cb : Nat) (R A B : Nat → HK) (w : World) (hr : IsKeys w ro (n + m) R) (ha : IsKeys w ao n A) (hb : IsKeys w bo m B) (hn : n ≤ 65536) (hm : m ≤ 65536)
    (hgr : grN A B R n m (n + m) 0 0 0 = true) :
    Calls Try.prog 16 #[.slice ro (n + m : Nat) cr, .slice ao n ca, .slice bo m cb] w fun e w' => e = .returned (.bool true) ∧ Below w.heap.size w w' := by
  replace hr := hr.2
  replace ha := ha.2
  replace hb := hb.2
  have HG : Hid (grN A B R n m (n + m) 0 0 0 = true) := hgr
  clear hgr
  go_enter Try.func16, Try.ntmps16
  go_wp2
  go_loopw [7, 8, 9] (fun si sj sk wr => ∃ (i j k f : Nat), i ≤ n ∧ j ≤ m ∧ k + f = n + m ∧ i + j = k ∧ si = .int .i64 i ∧ sj = .int .i64 j ∧ sk = .int .i64 k ∧ grN A B R n m f i j k = true ∧ Below w.heap.size w wr) (fun _ _ sk _ => n + m - (intOf sk).toNat)
  case atStart => exact ⟨0, 0, 0, n + m, Nat.zero_le _, Nat.zero_le _, by omega, rfl, rfl, rfl, rfl, HG.out, Below.refl _ _⟩
  case round =>
    clear HG
    obtain ⟨i, j, k, f, hin, hjm, hkf, hijk, rfl, rfl, rfl, hg, hnx⟩ := hrel
    by_cases hlt : k < n + m
    · obtain ⟨f, rfl⟩ : ∃ g, f = g + 1 := ⟨f - 1, by omega⟩
      have hij : i + j < n + m := by omega
      obtain ⟨br, obr, rfl, hbr, hsr⟩ := hr (by omega)
      obtain ⟨r0, r1, r2, r3⟩ := hsr k (by omega)
      rw [← hnx.cell (p := ⟨br, obr + k * 4, none⟩) hbr] at r0
      rw [← hnx.cell (p := ⟨br, obr + k * 4 + 1, none⟩) hbr] at r1
      rw [← hnx.cell (p := ⟨br, obr + k * 4 + 2, none⟩) hbr] at r2
      rw [← hnx.cell (p := ⟨br, obr + k * 4 + 3, none⟩) hbr] at r3
      have hbrw : br < wr.heap.size := Nat.lt_of_lt_of_le hbr hnx.size
      obtain ⟨ov, hov⟩ := exists_ov wr
      have hoc := hov.cell
      have HKF : Hid (k + (f + 1) = n + m) := hkf
      have HIJ : Hid (i + j = k) := hijk
      clear hkf hijk
      rcases grN_cases hg with ⟨h1, h2, h3⟩ | ⟨h1, h2, h3, h4, h5⟩ | ⟨h1, h2, h3, h4⟩
      · have H3 : Hid (grN A B R n m f (i + 1) j (k + 1) = true) := h3
        obtain ⟨ba, oa, rfl, hba, hsa⟩ := ha (by omega)
        obtain ⟨a0, a1, a2, a3⟩ := hsa i h1
        rw [← hnx.cell (p := ⟨ba, oa + i * 4, none⟩) hba] at a0
        rw [← hnx.cell (p := ⟨ba, oa + i * 4 + 1, none⟩) hba] at a1
        rw [← hnx.cell (p := ⟨ba, oa + i * 4 + 2, none⟩) hba] at a2
        rw [← hnx.cell (p := ⟨ba, oa + i * 4 + 3, none⟩) hba] at a3
        have hbaw : ba < wr.heap.size := Nat.lt_of_lt_of_le hba hnx.size
        clear hg h3 hsa hsr hr hb
        go_wp2_with fail
        refine hov.all (by kernel_rfl) (by kernel_rfl) ?_
        repeat (go_big_quiet_step ((go_at_call 21; exact hov.call (eqHK_true h2 _))))
        refine wpQuiet_nil ?_
        intro w' hw'
        obtain ⟨w1, hw''⟩ := hw'
        subst hw''
        go_wp2
        exact ⟨⟨i + 1, j, k + 1, f, h1, hjm, by have := HKF.out; omega, by have := HIJ.out; omega, by go_num, rfl, by go_num, H3.out, hnx.trans ((hov.below w1).mono hnx.size)⟩, by simp [intOf]; omega⟩
      · have H5 : Hid (grN A B R n m f i (j + 1) (k + 1) = true) := h5
        obtain ⟨ba, oa, rfl, hba, hsa⟩ := ha (by omega)
        obtain ⟨a0, a1, a2, a3⟩ := hsa i h1
        obtain ⟨bb, ob, rfl, hbb, hsb⟩ := hb (by omega)
        obtain ⟨b0, b1, b2, b3⟩ := hsb j h3
        rw [← hnx.cell (p := ⟨ba, oa + i * 4, none⟩) hba] at a0
        rw [← hnx.cell (p := ⟨ba, oa + i * 4 + 1, none⟩) hba] at a1
        rw [← hnx.cell (p := ⟨ba, oa + i * 4 + 2, none⟩) hba] at a2
        rw [← hnx.cell (p := ⟨ba, oa + i * 4 + 3, none⟩) hba] at a3
        rw [← hnx.cell (p := ⟨bb, ob + j * 4, none⟩) hbb] at b0
        rw [← hnx.cell (p := ⟨bb, ob + j * 4 + 1, none⟩) hbb] at b1
        rw [← hnx.cell (p := ⟨bb, ob + j * 4 + 2, none⟩) hbb] at b2
        rw [← hnx.cell (p := ⟨bb, ob + j * 4 + 3, none⟩) hbb] at b3
        have hbaw : ba < wr.heap.size := Nat.lt_of_lt_of_le hba hnx.size
        have hbbw : bb < wr.heap.size := Nat.lt_of_lt_of_le hbb hnx.size
        clear hg h5 hsa hsb hsr hr
        go_wp2_with fail
        refine hov.all (by kernel_rfl) (by kernel_rfl) ?_
        repeat (go_big_quiet_step ((go_at_call 21; exact hov.call (eqHK_false h2 _))))
        refine wpQuiet_nil ?_
        intro w' hw'
        obtain ⟨w1, hw''⟩ := hw'
        subst hw''
        have hb1 := hov.below w1
        have q0 := (hb1.cell (p := ⟨br, obr + k * 4, none⟩) hbrw).trans r0
        have q1 := (hb1.cell (p := ⟨br, obr + k * 4 + 1, none⟩) hbrw).trans r1
        have q2 := (hb1.cell (p := ⟨br, obr + k * 4 + 2, none⟩) hbrw).trans r2
        have q3 := (hb1.cell (p := ⟨br, obr + k * 4 + 3, none⟩) hbrw).trans r3
        have p0 := (hb1.cell (p := ⟨bb, ob + j * 4, none⟩) hbbw).trans b0
        have p1 := (hb1.cell (p := ⟨bb, ob + j * 4 + 1, none⟩) hbbw).trans b1
        have p2 := (hb1.cell (p := ⟨bb, ob + j * 4 + 2, none⟩) hbbw).trans b2
        have p3 := (hb1.cell (p := ⟨bb, ob + j * 4 + 3, none⟩) hbbw).trans b3
        have hnx1 := hnx.trans (hb1.mono hnx.size)
        have hbrw1 : br < (ov w1).heap.size := Nat.lt_of_lt_of_le hbr hnx1.size
        have hbbw1 : bb < (ov w1).heap.size := Nat.lt_of_lt_of_le hbb hnx1.size
        obtain ⟨W1, hW1⟩ : ∃ W1, W1 = ov w1 := ⟨_, rfl⟩
        rw [← hW1] at q0 q1 q2 q3 p0 p1 p2 p3 hnx1 hbrw1 hbbw1 ⊢
        clear hW1 hb1 hoc hov
        obtain ⟨ov2, hov2⟩ := exists_ov W1
        have hoc2 := hov2.cell
        go_wp2_with fail
        refine hov2.all (by kernel_rfl) (by kernel_rfl) ?_
        repeat (go_big_quiet_step ((go_at_call 21; exact hov2.call (eqHK_true h4 _))))
        refine wpQuiet_nil ?_
        intro w' hw'
        obtain ⟨w2, hw''⟩ := hw'
        subst hw''
        go_wp2
        exact ⟨⟨i, j + 1, k + 1, f, hin, h3, by have := HKF.out; omega, by have := HIJ.out; omega, rfl, by go_num, by go_num, H5.out, hnx1.trans ((hov2.below w2).mono hnx1.size)⟩, by simp [intOf]; omega⟩
      · have H4 : Hid (grN A B R n m f i (j + 1) (k + 1) = true) := h4
        obtain ⟨bb, ob, rfl, hbb, hsb⟩ := hb (by omega)
        obtain ⟨b0, b1, b2, b3⟩ := hsb j h2
        rw [← hnx.cell (p := ⟨bb, ob + j * 4, none⟩) hbb] at b0
        rw [← hnx.cell (p := ⟨bb, ob + j * 4 + 1, none⟩) hbb] at b1
        rw [← hnx.cell (p := ⟨bb, ob + j * 4 + 2, none⟩) hbb] at b2
        rw [← hnx.cell (p := ⟨bb, ob + j * 4 + 3, none⟩) hbb] at b3
        have hbbw : bb < wr.heap.size := Nat.lt_of_lt_of_le hbb hnx.size
        have hd : decide ((i : Int) < (n : Int)) = false := decide_eq_false (by omega)
        clear hg h4 hsb hsr hr
        go_wp2_with fail
        refine hov.all (by kernel_rfl) (by kernel_rfl) ?_
        repeat (go_big_quiet_step (fail))
        refine wpQuiet_nil ?_
        intro w' hw'
        obtain ⟨w1, hw''⟩ := hw'
        subst hw''
        have hb1 := hov.below w1
        have q0 := (hb1.cell (p := ⟨br, obr + k * 4, none⟩) hbrw).trans r0
        have q1 := (hb1.cell (p := ⟨br, obr + k * 4 + 1, none⟩) hbrw).trans r1
        have q2 := (hb1.cell (p := ⟨br, obr + k * 4 + 2, none⟩) hbrw).trans r2
        have q3 := (hb1.cell (p := ⟨br, obr + k * 4 + 3, none⟩) hbrw).trans r3
        have p0 := (hb1.cell (p := ⟨bb, ob + j * 4, none⟩) hbbw).trans b0
        have p1 := (hb1.cell (p := ⟨bb, ob + j * 4 + 1, none⟩) hbbw).trans b1
        have p2 := (hb1.cell (p := ⟨bb, ob + j * 4 + 2, none⟩) hbbw).trans b2
        have p3 := (hb1.cell (p := ⟨bb, ob + j * 4 + 3, none⟩) hbbw).trans b3
        have hnx1 := hnx.trans (hb1.mono hnx.size)
        have hbrw1 : br < (ov w1).heap.size := Nat.lt_of_lt_of_le hbr hnx1.size
        have hbbw1 : bb < (ov w1).heap.size := Nat.lt_of_lt_of_le hbb hnx1.size
        obtain ⟨W1, hW1⟩ : ∃ W1, W1 = ov w1 := ⟨_, rfl⟩
        rw [← hW1] at q0 q1 q2 q3 p0 p1 p2 p3 hnx1 hbrw1 hbbw1 ⊢
        clear hW1 hb1 hoc hov
        obtain ⟨ov2, hov2⟩ := exists_ov W1
        have hoc2 := hov2.cell
        go_wp2_with fail
        refine hov2.all (by kernel_rfl) (by kernel_rfl) ?_
        repeat (go_big_quiet_step ((go_at_call 21; exact hov2.call (eqHK_true h3 _))))
        refine wpQuiet_nil ?_
        intro w' hw'
        obtain ⟨w2, hw''⟩ := hw'
        subst hw''
        go_wp2
        exact ⟨⟨i, j + 1, k + 1, f, hin, h2, by have := HKF.out; omega, by have := HIJ.out; omega, rfl, by go_num, by go_num, H4.out, hnx1.trans ((hov2.below w2).mono hnx1.size)⟩, by simp [intOf]; omega⟩
    · obtain rfl : f = 0 := by omega
      have e1 : i = n := by omega
      have e2 : j = m := by omega
      subst e1 e2
      go_wp2
      go_ret
      exact ⟨rfl, hnx⟩

end Go.Proofs.Qxb6604791a
