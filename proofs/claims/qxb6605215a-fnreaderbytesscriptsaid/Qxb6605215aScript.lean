import Derived.Test.Qxb6605215aRead
namespace Go.Proofs.Qxb6605215a
open Go.ChangeShapes Go.WideShapes Go.ChangeAt Go.RowKit
set_option linter.unusedVariables false

theorem IsSl.up {w : World} {B B' n : Nat} {S : Nat → Int} {v : Value} (h : IsSl w B n S v) (hb : B ≤ B') : IsSl w B' n S v := by
  obtain ⟨ao, c, rfl, hc, hi⟩ := h
  exact ⟨ao, c, rfl, hc, hi.up hb⟩
theorem shiftS (S : Nat → Int) (p z : Nat) : (fun i => (fun i => S (p + i)) (z + i)) = fun i => S (p + z + i) := by
  funext i; show S (p + (z + i)) = _; rw [Nat.add_assoc]

theorem nneq32 : ∀ (w : World) (a : Option Addr) (n c n' c' : Nat), (binOp .neq 32 (.slice a n c) (.slice none 0 0)).run Try.prog w = .ok (.bool (!a.isNone)) w := fun w a n c n' c' => run_neq_slice_nil w _ _ a n c Try.underlying32

set_option maxRecDepth 100000 in
set_option maxHeartbeats 8000000 in
theorem script_in (ao bo : Option Addr) (n m c d : Nat) (S Z : Nat → Int) (w : World) (ha : IsI .u8 w w.heap.size ao n S) (hb : IsI .i64 w w.heap.size bo m Z) (hn : n ≤ 524288) (hm : m ≤ 65536) :
    Calls Try.prog 7 #[.slice ao n c, .slice bo m d] w fun e w' => e = .returned (.bool true) ∧ Below w.heap.size w w' := by
  have h14 := zzBytes14 ao bo n m c d w ha.1 hb.1
  go_enter Try.func7, Try.ntmps7
  go_wp2_with fail
  refine h14.mono ?_
  clear h14
  rintro e w1 ⟨⟨r, rfl⟩, rfl⟩
  cases r with
  | false =>
    go_wp2
    go_ret
    exact ⟨rfl, Below.refl _ _⟩
  | true =>
    go_wp2
    go_loopw [5] (fun i wr => ∃ k : Nat, k ≤ m ∧ i = .int .i64 k ∧ (∀ j, j < k → 0 ≤ Z j) ∧ w = wr) (fun i _ => m - (intOf i).toNat)
    case atStart => exact ⟨0, Nat.zero_le _, rfl, fun j hj => absurd hj (Nat.not_lt_zero _), rfl⟩
    case round =>
      obtain ⟨k, hk, rfl, hpos, rfl⟩ := hrel
      by_cases hlt : k < m
      · obtain ⟨b, off, rfl, hb1, hs1⟩ := hb.2 (by omega)
        have h1 := hs1 k hlt
        by_cases hneg : Z k < 0
        · go_wp2
          go_ret
          exact ⟨rfl, Below.refl _ _⟩
        · have hd : decide (Z k < 0) = false := decide_eq_false hneg
          have HP : Hid (∀ j, j < k + 1 → 0 ≤ Z j) := fun j hj => by
            by_cases e : j = k
            · subst e; omega
            · exact hpos j (by omega)
          clear hpos hs1
          go_wp2
          go_roundw
          case rel => exact ⟨k + 1, by omega, by go_num, HP.out, by first | rfl | trivial⟩
          case measure => simp [intOf]; omega
      · obtain rfl : k = m := by omega
        go_wp2_with fail
        refine (clone32_any ao n c S w ha (by omega)).mono ?_
        rintro e w1 ⟨⟨ab, rfl, hab⟩, hb1⟩
        go_wp2_with fail
        refine (clone33_any bo k d Z w1 ((hb.kept hb1).up hb1.size) (by omega)).mono ?_
        rintro e w2 ⟨⟨az, rfl, haz⟩, hb2⟩
        have hab2 := (hab.kept hb2).up hb2.size
        have hbel := hb1.trans (hb2.mono hb1.size)
        clear hb1 hb2 hab ha hb
        go_wp2
        go_loopw [6, 7, 8, 9, 10] (fun cur ok pos fl kk wr => ∃ (j p : Nat) (f : Bool), j ≤ k ∧ p ≤ n ∧ kk = .int .i64 j ∧ pos = .int .i64 p ∧ fl = .bool f ∧ ok = .bool (!f) ∧ IsSl wr wr.heap.size (n - p) (fun i => S (p + i)) cur ∧ Below w2.heap.size w2 wr) (fun _ _ _ _ kk _ => k - (intOf kk).toNat)
        case atStart => exact ⟨0, 0, false, Nat.zero_le _, Nat.zero_le _, rfl, rfl, rfl, rfl, ⟨ab, n, rfl, Nat.le_refl _, by simpa using hab2⟩, Below.refl _ _⟩
        case round =>
          obtain ⟨j, p, f, hj, hp, rfl, rfl, rfl, rfl, ⟨ac, cc, rfl, hcc, hic⟩, hbe⟩ := hrel
          by_cases hlt2 : j < k
          · obtain ⟨zb, zoff, rfl, hzb, hzs⟩ := haz.2 (by omega)
            have hz := hzs j hlt2
            rw [← hbe.cell (p := ⟨zb, zoff + j, none⟩) hzb] at hz
            have hz0 := hpos j hlt2
            obtain ⟨z, hzz⟩ : ∃ z : Nat, Z j = (z : Int) := ⟨(Z j).toNat, by omega⟩
            rw [hzz] at hz
            clear hzs hzz hz0
            cases f with
            | true =>
              go_wp2_with fail
              refine (zzb_bad ac (n - p) cc z false _ (fun h => by cases h)).mono ?_
              rintro e w3 ⟨rfl, hb3⟩
              have hq := (hic.kept hb3).up hb3.size
              have hbe3 := hbe.trans (hb3.mono hbe.size)
              clear hic hb3 hbe
              have hnn := nneq32
              go_wp2
              go_roundw
              case rel => exact ⟨j + 1, p, true, by omega, hp, by go_num, rfl, rfl, rfl, ⟨_, _, rfl, hcc, hq⟩, hbe3⟩
              case measure => simp [intOf]; omega
            | false =>
              by_cases hfit : z ≤ n - p
              · go_wp2_with fail
                refine (zzb_good ac (n - p) cc z _ _ hic hcc hfit).mono ?_
                rintro e w3 ⟨⟨v, rest, rfl, ⟨av, cv, rfl, hcv, hiv⟩, hrest⟩, hb3⟩
                have hrest3 := (hrest.keep hb3).up hb3.size
                rw [shiftS, show n - p - z = n - (p + z) by omega] at hrest3
                have hiv3 := (hiv.kept hb3).up hb3.size
                have hbe3 := hbe.trans (hb3.mono hbe.size)
                have hab3 := (hab2.kept hbe3).up hbe3.size
                have hnp : ((n : Int) - (p : Int)) = ((n - p : Nat) : Int) := by omega
                obtain ⟨ar, cr, rfl, hcr, hir⟩ := hrest3
                clear hrest hiv hbe hb3 hic
                go_wp2
                go_loopw [15] (fun i wi => ∃ l : Nat, l ≤ z ∧ i = .int .i64 l ∧ Below w3.heap.size w3 wi) (fun i _ => z - (intOf i).toNat)
                case atStart => exact ⟨0, Nat.zero_le _, rfl, Below.refl _ _⟩
                case round =>
                  obtain ⟨l, hl, rfl, hbl⟩ := hrel
                  by_cases hlz : l < z
                  · obtain ⟨b1, o1, rfl, hb1, hs1⟩ := hiv3.2 (by omega)
                    obtain ⟨b2, o2, rfl, hb2, hs2⟩ := hab3.2 (by omega)
                    have h1 := hs1 l hlz
                    have h2 := hs2 (p + l) (by omega)
                    rw [← hbl.cell (p := ⟨b1, o1 + l, none⟩) hb1] at h1
                    rw [← hbl.cell (p := ⟨b2, o2 + (p + l), none⟩) hb2] at h2
                    have hpl : p + l < n := by omega
                    clear hs1 hs2 hiv3 hab3 hir hab2
                    go_wp2
                    go_quiet (fail)
                    go_wp2
                    go_roundw
                    case rel => exact ⟨l + 1, by omega, by go_num, below_drewN hbl _⟩
                    case measure => simp [intOf]; omega
                  · obtain rfl : l = z := by omega
                    have hir4 := (hir.kept hbl).up hbl.size
                    have hbe4 := hbe3.trans (hbl.mono hbe3.size)
                    clear hir hbl hbe3 hiv3
                    go_wp2
                    go_roundw
                    case rel => exact ⟨j + 1, p + l, false, by omega, by omega, by go_num, by go_num, rfl, rfl, ⟨_, _, rfl, hcr, hir4⟩, hbe4⟩
                    case measure => simp [intOf]; omega
              · go_wp2_with fail
                refine (zzb_bad ac (n - p) cc z true _ (fun h => by omega)).mono ?_
                rintro e w3 ⟨rfl, hb3⟩
                have hq := (hic.kept hb3).up hb3.size
                have hbe3 := hbe.trans (hb3.mono hbe.size)
                clear hic hb3 hbe
                have hnn := nneq32
                have hnp : ((n : Int) - (p : Int)) = ((n - p : Nat) : Int) := by omega
                go_wp2
                go_roundw
                case rel => exact ⟨j + 1, p, true, by omega, hp, by go_num, rfl, rfl, rfl, ⟨_, _, rfl, hcc, hq⟩, hbe3⟩
                case measure => simp [intOf]; omega
          · have habr := (hab2.kept hbe).up hbe.size
            have hbelr := hbel.trans (hbe.mono hbel.size)
            by_cases hnp : n = p
            · subst hnp
              rw [Nat.sub_self] at hic hcc
              cases f with
              | true =>
                go_wp2_with (go_at_call 18; refine (same_any ac ab 0 cc 0 _ _ _ hic cut_end).mono ?_; rintro e w4 ⟨rfl, hb4⟩)
                go_ret
                exact ⟨rfl, hbelr.trans (hb4.mono hbelr.size)⟩
              | false =>
                go_wp2_with (go_at_call 18; refine (same_any ac ab 0 cc 0 _ _ _ hic cut_end).mono ?_; rintro e w4 ⟨rfl, hb4⟩)
                go_ret
                exact ⟨rfl, hbelr.trans (hb4.mono hbelr.size)⟩
            · have htail := cut_tail habr hp
              cases f with
              | true =>
                go_wp2_with (go_at_call 18; refine (same_any ac _ (n - p) cc (n - p) _ _ _ hic htail).mono ?_; rintro e w4 ⟨rfl, hb4⟩)
                go_ret
                exact ⟨rfl, hbelr.trans (hb4.mono hbelr.size)⟩
              | false =>
                go_wp2_with (go_at_call 18; refine (same_any ac _ (n - p) cc (n - p) _ _ _ hic htail).mono ?_; rintro e w4 ⟨rfl, hb4⟩)
                go_ret
                exact ⟨rfl, hbelr.trans (hb4.mono hbelr.size)⟩

end Go.Proofs.Qxb6605215a
