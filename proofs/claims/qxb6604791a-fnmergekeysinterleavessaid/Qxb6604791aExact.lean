import Derived.Test.Qxb6604791aDp
import Derived.Deep.RegionWith
namespace Go.Proofs.Qxb6604791a
open Go.ChangeShapes Go.WideShapes Go.ChangeAt Go.RowKit

theorem start_dp0 (B R : Nat → HK) : ∀ s, s ≤ 0 → (fun s => if s = 0 then true else false : Nat → Bool) s = dp0 B R s := by
  intro s hs
  obtain rfl : s = 0 := by omega
  rfl

theorem step1 {w wr w1 : World} {ov : World → World} {m q : Nat} {T : Nat → Bool} {B R : Nat → HK} (hrow : BRow wr w.heap.size m T) (hnx : Below w.heap.size w wr) (hov : IsOv wr ov) (hT : ∀ s, s ≤ q → T s = dp0 B R s) (hq : q + 1 ≤ m)
    {v : Bool} (hv : v = dp0 B R (q + 1)) :
    ∃ (q' : Nat) (T' : Nat → Bool), q' ≤ m ∧ Value.int .i64 ((q : Int) + 1 + 1) = .int .i64 ((q' : Int) + 1) ∧ BRow ((ov w1).setCell ⟨w.heap.size, q + 1, none⟩ (.bool v)) w.heap.size m T' ∧ (∀ s, s ≤ q' → T' s = dp0 B R s) ∧
      Below w.heap.size w ((ov w1).setCell ⟨w.heap.size, q + 1, none⟩ (.bool v)) := by
  have h := BRow.step (w1 := w1) (T' := fun s => if s = q + 1 then v else T s) hrow hnx hov (q + 1) v (if_pos rfl) (fun s _ h => if_neg h)
  refine ⟨q + 1, _, hq, by go_num, h.1, fun s hs => ?_, h.2⟩
  by_cases e : s = q + 1
  · subst e; simp [hv]
  · simp only [if_neg e]; exact hT s (by omega)

theorem step2 {w wr w1 : World} {ov : World → World} {m p : Nat} {T : Nat → Bool} {A B R : Nat → HK} (hrow : BRow wr w.heap.size m T) (hnx : Below w.heap.size w wr) (hov : IsOv wr ov) (hT : ∀ s, s ≤ m → T s = dp A B R p s)
    {v : Bool} (hv : v = dp A B R (p + 1) 0) :
    ∃ (q' : Nat) (T' : Nat → Bool), q' ≤ m ∧ Value.int .i64 1 = .int .i64 ((q' : Int) + 1) ∧ BRow ((ov w1).setCell ⟨w.heap.size, 0, none⟩ (.bool v)) w.heap.size m T' ∧ (∀ s, s ≤ q' → T' s = dp A B R (p + 1) s) ∧ (∀ s, q' < s → s ≤ m → T' s = dp A B R p s) ∧
      Below w.heap.size w ((ov w1).setCell ⟨w.heap.size, 0, none⟩ (.bool v)) := by
  have h := BRow.step (w1 := w1) (T' := fun s => if s = 0 then v else T s) hrow hnx hov 0 v (if_pos rfl) (fun s _ h => if_neg h)
  refine ⟨0, _, Nat.zero_le _, rfl, h.1, fun s hs => ?_, fun s h0 hs => ?_, h.2⟩
  · obtain rfl : s = 0 := by omega
    simp [hv]
  · simp only [if_neg (by omega : ¬ s = 0)]; exact hT s hs

theorem step3 {w wr w1 : World} {ov : World → World} {m p q : Nat} {T : Nat → Bool} {A B R : Nat → HK} (hrow : BRow wr w.heap.size m T) (hnx : Below w.heap.size w wr) (hov : IsOv wr ov) (hT : ∀ s, s ≤ q → T s = dp A B R (p + 1) s) (hT2 : ∀ s, q < s → s ≤ m → T s = dp A B R p s) (hq : q + 1 ≤ m)
    {v : Bool} (hv : v = dp A B R (p + 1) (q + 1)) :
    ∃ (q' : Nat) (T' : Nat → Bool), q' ≤ m ∧ Value.int .i64 ((q : Int) + 1 + 1) = .int .i64 ((q' : Int) + 1) ∧ BRow ((ov w1).setCell ⟨w.heap.size, q + 1, none⟩ (.bool v)) w.heap.size m T' ∧ (∀ s, s ≤ q' → T' s = dp A B R (p + 1) s) ∧ (∀ s, q' < s → s ≤ m → T' s = dp A B R p s) ∧
      Below w.heap.size w ((ov w1).setCell ⟨w.heap.size, q + 1, none⟩ (.bool v)) := by
  have h := BRow.step (w1 := w1) (T' := fun s => if s = q + 1 then v else T s) hrow hnx hov (q + 1) v (if_pos rfl) (fun s _ h => if_neg h)
  refine ⟨q + 1, _, hq, by go_num, h.1, fun s hs => ?_, fun s h0 hs => ?_, h.2⟩
  · by_cases e : s = q + 1
    · subst e; simp [hv]
    · simp only [if_neg e]; exact hT s (by omega)
  · simp only [if_neg (by omega : ¬ s = q + 1)]; exact hT2 s (by omega) hs

theorem dp0_t {B R : Nat → HK} {q : Nat} (h : dp0 B R q = true) : eqK ⟨(B q).a, (B q).c, (B q).v, (B q).l⟩ ⟨(R q).a, (R q).c, (R q).v, (R q).l⟩ = dp0 B R (q + 1) := by
  show eqK (B q) (R q) = (dp0 B R q && eqK (B q) (R q)); rw [h, Bool.true_and]
theorem dp0_f {B R : Nat → HK} {q : Nat} (h : dp0 B R q = false) : false = dp0 B R (q + 1) := by
  show false = (dp0 B R q && eqK (B q) (R q)); rw [h, Bool.false_and]
theorem dpz_t {A B R : Nat → HK} {p : Nat} (h : dp A B R p 0 = true) : eqK ⟨(A p).a, (A p).c, (A p).v, (A p).l⟩ ⟨(R p).a, (R p).c, (R p).v, (R p).l⟩ = dp A B R (p + 1) 0 := by
  show eqK (A p) (R p) = (dp A B R p 0 && eqK (A p) (R p)); rw [h, Bool.true_and]
theorem dpz_f {A B R : Nat → HK} {p : Nat} (h : dp A B R p 0 = false) : false = dp A B R (p + 1) 0 := by
  show false = (dp A B R p 0 && eqK (A p) (R p)); rw [h, Bool.false_and]
theorem dp_succ (A B R : Nat → HK) (p q : Nat) : dp A B R (p + 1) (q + 1) = ((dp A B R p (q + 1) && eqK (A p) (R (p + q + 1))) || (dp A B R (p + 1) q && eqK (B q) (R (p + q + 1)))) := rfl
theorem dp_A {A B R : Nat → HK} {p q : Nat} {rk : HK} (h1 : dp A B R p (q + 1) = false) (h2 : dp A B R (p + 1) q = true) (hr : rk = R (p + q + 1)) :
    eqK ⟨(B q).a, (B q).c, (B q).v, (B q).l⟩ ⟨rk.a, rk.c, rk.v, rk.l⟩ = dp A B R (p + 1) (q + 1) := by
  subst hr; rw [dp_succ, h1, h2]; rfl
theorem dp_B {A B R : Nat → HK} {p q : Nat} (h1 : dp A B R p (q + 1) = false) (h2 : dp A B R (p + 1) q = false) : false = dp A B R (p + 1) (q + 1) := by
  rw [dp_succ, h1, h2]; rfl
theorem dp_C {A B R : Nat → HK} {p q : Nat} {rk : HK} (h1 : dp A B R p (q + 1) = true) (he : eqK ⟨(A p).a, (A p).c, (A p).v, (A p).l⟩ ⟨rk.a, rk.c, rk.v, rk.l⟩ = true) (hr : rk = R (p + q + 1)) :
    true = dp A B R (p + 1) (q + 1) := by
  subst hr; rw [dp_succ, h1, show eqK (A p) (R (p + q + 1)) = true from he]; rfl
theorem dp_D {A B R : Nat → HK} {p q : Nat} {rk : HK} (h1 : dp A B R p (q + 1) = true) (he : eqK ⟨(A p).a, (A p).c, (A p).v, (A p).l⟩ ⟨rk.a, rk.c, rk.v, rk.l⟩ = false) (h2 : dp A B R (p + 1) q = true) (hr : rk = R (p + q + 1)) :
    eqK ⟨(B q).a, (B q).c, (B q).v, (B q).l⟩ ⟨rk.a, rk.c, rk.v, rk.l⟩ = dp A B R (p + 1) (q + 1) := by
  subst hr; rw [dp_succ, h1, h2, show eqK (A p) (R (p + q + 1)) = false from he]; rfl
theorem dp_E {A B R : Nat → HK} {p q : Nat} {rk : HK} (h1 : dp A B R p (q + 1) = true) (he : eqK ⟨(A p).a, (A p).c, (A p).v, (A p).l⟩ ⟨rk.a, rk.c, rk.v, rk.l⟩ = false) (h2 : dp A B R (p + 1) q = false) (hr : rk = R (p + q + 1)) :
    false = dp A B R (p + 1) (q + 1) := by
  subst hr; rw [dp_succ, h1, h2, show eqK (A p) (R (p + q + 1)) = false from he]; rfl

set_option maxRecDepth 100000 in
set_option maxHeartbeats 16000000 in
theorem exact_any (ro ao bo : Option Addr) (n m cr ca cb : Nat) (R A B : Nat → HK) (w : World) (hr : IsKeys w ro (n + m) R) (ha : IsKeys w ao n A) (hb : IsKeys w bo m B) (hn : n ≤ 4096) (hm : m ≤ 4096) :
    Calls Try.prog 19 #[.slice ro (n + m : Nat) cr, .slice ao n ca, .slice bo m cb] w fun e w' => e = .returned (.bool (dp A B R n m)) ∧ Below w.heap.size w w' := by
  obtain ⟨i0, hi, hz0, hz1, hz2⟩ := info_parts Try.info4
  replace hr := hr.2
  replace ha := ha.2
  replace hb := hb.2
  go_enter Try.func19, Try.ntmps19
  go_wp2_with (at_make; refine wpList_make_full _ rfl _ _ 50 rfl w.heap.size 4 i0 _ 1 Try.underlying50 hi hz0 hz1 _ _ _ _ (m + 1) rfl rfl (by omega) (by omega) ?b2 ?b3 (Nat.le_refl _) ?_)
  case b2 => rw [hz2]; omega
  case b3 => unfold maxLen; omega
  intro w0 hown0 hgrow0
  have hrow0 := BRow.made hown0
  have c00 := hrow0.cell (Nat.zero_le _)
  have f00 := hrow0.frozen
  have hbel0 : Below w.heap.size w w0 := (Below.refl _ _).grown hgrow0 (Nat.le_refl _) (fun k h => by cases h)
  clear hown0 hgrow0
  go_wp2
  go_loopw [8] (fun j wr => ∃ (q : Nat) (T : Nat → Bool), q ≤ m ∧ j = .int .i64 ((q : Int) + 1) ∧ BRow wr w.heap.size m T ∧ (∀ s, s ≤ q → T s = dp0 B R s) ∧ Below w.heap.size w wr) (fun j _ => m + 1 - (intOf j).toNat)
  case atStart => exact ⟨0, fun s => if s = 0 then true else false, Nat.zero_le _, rfl, hrow0.set 0 true rfl (fun s _ h => if_neg h), start_dp0 B R, hbel0.setCell (p := ⟨w.heap.size, 0, none⟩) (Nat.le_refl _) _⟩
  case round =>
    obtain ⟨q, T, hq, rfl, hrow, hT, hnx⟩ := hrel
    clear hrow0 c00 f00 hbel0
    by_cases hlt : q + 1 ≤ m
    · obtain ⟨bb, ob, rfl, hbb, hsb⟩ := hb (by omega)
      obtain ⟨br, obr, rfl, hbr, hsr⟩ := hr (by omega)
      obtain ⟨b0, b1, b2, b3⟩ := hsb q (by omega)
      obtain ⟨r0, r1, r2, r3⟩ := hsr q (by omega)
      rw [← hnx.cell (p := ⟨bb, ob + q * 4, none⟩) hbb] at b0
      rw [← hnx.cell (p := ⟨bb, ob + q * 4 + 1, none⟩) hbb] at b1
      rw [← hnx.cell (p := ⟨bb, ob + q * 4 + 2, none⟩) hbb] at b2
      rw [← hnx.cell (p := ⟨bb, ob + q * 4 + 3, none⟩) hbb] at b3
      rw [← hnx.cell (p := ⟨br, obr + q * 4, none⟩) hbr] at r0
      rw [← hnx.cell (p := ⟨br, obr + q * 4 + 1, none⟩) hbr] at r1
      rw [← hnx.cell (p := ⟨br, obr + q * 4 + 2, none⟩) hbr] at r2
      rw [← hnx.cell (p := ⟨br, obr + q * 4 + 3, none⟩) hbr] at r3
      have hg := hrow.lt
      have hbbw : bb < wr.heap.size := by omega
      have hbrw : br < wr.heap.size := by omega
      have ck := hrow.cell (t := q) (by omega)
      have ck1 := hrow.cell (t := q + 1) (by omega)
      have fk := hrow.frozen
      have hT' := hT q (Nat.le_refl _)
      rw [hT'] at ck
      clear hsb hsr hT'
      obtain ⟨ov, hov⟩ := exists_ov wr
      have hoc := hov.cell
      have hof := hov.frozen
      cases hu : dp0 B R q with
      | true =>
        rw [hu] at ck
        go_wp2_with fail
        refine hov.tail 21 (by kernel_rfl) (by kernel_rfl) ?_
        dsimp only [List.take, List.drop]
        repeat (go_big_quiet_step ((go_at_call 21; exact hov.call (eqHK_any _ _ _ _ _ _ _ _ _))))
        refine wpQuiet_nil ?_
        intro w' hw'
        obtain ⟨w1, hw''⟩ := hw'
        subst hw''
        go_wp2
        exact ⟨step1 hrow hnx hov hT hlt (dp0_t hu), by simp [intOf]; omega⟩
      | false =>
        rw [hu] at ck
        go_wp2_with fail
        refine hov.tail 21 (by kernel_rfl) (by kernel_rfl) ?_
        dsimp only [List.take, List.drop]
        repeat (go_big_quiet_step ((fail)))
        refine wpQuiet_nil ?_
        intro w' hw'
        obtain ⟨w1, hw''⟩ := hw'
        subst hw''
        go_wp2
        exact ⟨step1 hrow hnx hov hT hlt (dp0_f hu), by simp [intOf]; omega⟩
    · obtain rfl : q = m := by omega
      go_wp2
      go_loopw [9] (fun i wr => ∃ (p : Nat) (T : Nat → Bool), p ≤ n ∧ i = .int .i64 ((p : Int) + 1) ∧ BRow wr w.heap.size q T ∧ (∀ s, s ≤ q → T s = dp A B R p s) ∧ Below w.heap.size w wr) (fun i _ => n + 1 - (intOf i).toNat)
      case atStart => exact ⟨0, T, Nat.zero_le _, rfl, hrow, hT, hnx⟩
      case round =>
        clear hT hrow hnx
        obtain ⟨p, T, hp, rfl, hrow, hT, hnx⟩ := hrel
        by_cases hltp : p + 1 ≤ n
        · obtain ⟨ba, oa, rfl, hba, hsa⟩ := ha (by omega)
          obtain ⟨br, obr, rfl, hbr, hsr⟩ := hr (by omega)
          obtain ⟨a0, a1, a2, a3⟩ := hsa p (by omega)
          obtain ⟨r0, r1, r2, r3⟩ := hsr p (by omega)
          rw [← hnx.cell (p := ⟨ba, oa + p * 4, none⟩) hba] at a0
          rw [← hnx.cell (p := ⟨ba, oa + p * 4 + 1, none⟩) hba] at a1
          rw [← hnx.cell (p := ⟨ba, oa + p * 4 + 2, none⟩) hba] at a2
          rw [← hnx.cell (p := ⟨ba, oa + p * 4 + 3, none⟩) hba] at a3
          rw [← hnx.cell (p := ⟨br, obr + p * 4, none⟩) hbr] at r0
          rw [← hnx.cell (p := ⟨br, obr + p * 4 + 1, none⟩) hbr] at r1
          rw [← hnx.cell (p := ⟨br, obr + p * 4 + 2, none⟩) hbr] at r2
          rw [← hnx.cell (p := ⟨br, obr + p * 4 + 3, none⟩) hbr] at r3
          have hg := hrow.lt
          have hbaw : ba < wr.heap.size := by omega
          have hbrw : br < wr.heap.size := by omega
          have ck := hrow.cell (t := 0) (by omega)
          have fk := hrow.frozen
          have hT' := hT 0 (Nat.zero_le _)
          rw [hT'] at ck
          clear hT'
          obtain ⟨ov, hov⟩ := exists_ov wr
          have hoc := hov.cell
          have hof := hov.frozen
          cases hu : dp A B R p 0 with
          | true =>
            rw [hu] at ck
            go_wp2_with fail
            refine hov.tail 18 (by kernel_rfl) (by kernel_rfl) ?_
            dsimp only [List.take, List.drop]
            repeat (go_big_quiet_step ((go_at_call 21; exact hov.call (eqHK_any _ _ _ _ _ _ _ _ _))))
            refine wpQuiet_nil ?_
            intro w' hw'
            obtain ⟨w1, hw''⟩ := hw'
            subst hw''
            go_wp2
            go_loopw [10] (fun j wr => ∃ (q' : Nat) (T' : Nat → Bool), q' ≤ q ∧ j = .int .i64 ((q' : Int) + 1) ∧ BRow wr w.heap.size q T' ∧ (∀ s, s ≤ q' → T' s = dp A B R (p + 1) s) ∧ (∀ s, q' < s → s ≤ q → T' s = dp A B R p s) ∧ Below w.heap.size w wr) (fun j _ => q + 1 - (intOf j).toNat)
            case atStart => exact step2 hrow hnx hov hT (dpz_t hu)
            case round =>
              clear hT hrow hnx hoc hof hov
              obtain ⟨q', T', hq', rfl, hrow, hT, hT2, hnx⟩ := hrel
              by_cases hltq : q' + 1 ≤ q
              · obtain ⟨bb, ob, rfl, hbb, hsb⟩ := hb (by omega)
                obtain ⟨a0, a1, a2, a3⟩ := hsa p (by omega)
                obtain ⟨b0, b1, b2, b3⟩ := hsb q' (by omega)
                obtain ⟨r0, r1, r2, r3⟩ := hsr (p + q' + 1) (by omega)
                rw [← hnx.cell (p := ⟨ba, oa + p * 4, none⟩) hba] at a0
                rw [← hnx.cell (p := ⟨ba, oa + p * 4 + 1, none⟩) hba] at a1
                rw [← hnx.cell (p := ⟨ba, oa + p * 4 + 2, none⟩) hba] at a2
                rw [← hnx.cell (p := ⟨ba, oa + p * 4 + 3, none⟩) hba] at a3
                rw [← hnx.cell (p := ⟨bb, ob + q' * 4, none⟩) hbb] at b0
                rw [← hnx.cell (p := ⟨bb, ob + q' * 4 + 1, none⟩) hbb] at b1
                rw [← hnx.cell (p := ⟨bb, ob + q' * 4 + 2, none⟩) hbb] at b2
                rw [← hnx.cell (p := ⟨bb, ob + q' * 4 + 3, none⟩) hbb] at b3
                rw [← hnx.cell (p := ⟨br, obr + (p + q' + 1) * 4, none⟩) hbr] at r0
                rw [← hnx.cell (p := ⟨br, obr + (p + q' + 1) * 4 + 1, none⟩) hbr] at r1
                rw [← hnx.cell (p := ⟨br, obr + (p + q' + 1) * 4 + 2, none⟩) hbr] at r2
                rw [← hnx.cell (p := ⟨br, obr + (p + q' + 1) * 4 + 3, none⟩) hbr] at r3
                have hg := hrow.lt
                have hbaw : ba < wr.heap.size := by omega
                have hbbw : bb < wr.heap.size := by omega
                have hbrw : br < wr.heap.size := by omega
                have ck := hrow.cell (t := q') (by omega)
                have ck1 := hrow.cell (t := q' + 1) (by omega)
                have fk := hrow.frozen
                rw [hT q' (Nat.le_refl _)] at ck
                rw [hT2 (q' + 1) (by omega) (by omega)] at ck1
                clear hsa hsb hsr
                obtain ⟨ov, hov⟩ := exists_ov wr
                have hoc := hov.cell
                have hof := hov.frozen
                obtain ⟨rk, hrk⟩ : ∃ rk, rk = R (p + q' + 1) := ⟨_, rfl⟩
                rw [← hrk, show p + q' + 1 = p + 1 + q' by omega] at r0 r1 r2 r3
                have HRK : Hid (rk = R (p + q' + 1)) := hrk
                clear hrk
                cases hu1 : dp A B R p (q' + 1) with
                | true =>
                  rw [hu1] at ck1
                  cases he : eqK ⟨(A p).a, (A p).c, (A p).v, (A p).l⟩ ⟨rk.a, rk.c, rk.v, rk.l⟩ with
                  | true =>
                    clear ck
                    go_wp2_with fail
                    refine hov.tail 44 (by kernel_rfl) (by kernel_rfl) ?_
                    dsimp only [List.take, List.drop]
                    repeat (go_big_quiet_step ((go_at_call 21; exact hov.call (eqHK_true he _))))
                    refine wpQuiet_nil ?_
                    intro w' hw'
                    obtain ⟨w1, hw''⟩ := hw'
                    subst hw''
                    go_wp2
                    exact ⟨step3 hrow hnx hov hT hT2 hltq (dp_C hu1 he HRK.out), by simp [intOf]; omega⟩
                  | false =>
                    cases hu2 : dp A B R (p + 1) q' with
                    | true =>
                      rw [hu2] at ck
                      go_wp2_with fail
                      refine hov.tail 44 (by kernel_rfl) (by kernel_rfl) ?_
                      dsimp only [List.take, List.drop]
                      repeat (go_big_quiet_step ((first | (go_at_call_of 21 ((B q').a); exact hov.call (eqHK_any _ _ _ _ _ _ _ _ _)) | (go_at_call 21; exact hov.call (eqHK_false he _)))))
                      refine wpQuiet_nil ?_
                      intro w' hw'
                      obtain ⟨w1, hw''⟩ := hw'
                      subst hw''
                      go_wp2
                      exact ⟨step3 hrow hnx hov hT hT2 hltq (dp_D hu1 he hu2 HRK.out), by simp [intOf]; omega⟩
                    | false =>
                      rw [hu2] at ck
                      go_wp2_with fail
                      refine hov.tail 44 (by kernel_rfl) (by kernel_rfl) ?_
                      dsimp only [List.take, List.drop]
                      repeat (go_big_quiet_step ((go_at_call 21; exact hov.call (eqHK_false he _))))
                      refine wpQuiet_nil ?_
                      intro w' hw'
                      obtain ⟨w1, hw''⟩ := hw'
                      subst hw''
                      go_wp2
                      exact ⟨step3 hrow hnx hov hT hT2 hltq (dp_E hu1 he hu2 HRK.out), by simp [intOf]; omega⟩
                | false =>
                  rw [hu1] at ck1
                  cases hu2 : dp A B R (p + 1) q' with
                  | true =>
                    rw [hu2] at ck
                    go_wp2_with fail
                    refine hov.tail 44 (by kernel_rfl) (by kernel_rfl) ?_
                    dsimp only [List.take, List.drop]
                    repeat (go_big_quiet_step ((go_at_call 21; exact hov.call (eqHK_any _ _ _ _ _ _ _ _ _))))
                    refine wpQuiet_nil ?_
                    intro w' hw'
                    obtain ⟨w1, hw''⟩ := hw'
                    subst hw''
                    go_wp2
                    exact ⟨step3 hrow hnx hov hT hT2 hltq (dp_A hu1 hu2 HRK.out), by simp [intOf]; omega⟩
                  | false =>
                    rw [hu2] at ck
                    go_wp2_with fail
                    refine hov.tail 44 (by kernel_rfl) (by kernel_rfl) ?_
                    dsimp only [List.take, List.drop]
                    repeat (go_big_quiet_step ((fail)))
                    refine wpQuiet_nil ?_
                    intro w' hw'
                    obtain ⟨w1, hw''⟩ := hw'
                    subst hw''
                    go_wp2
                    exact ⟨step3 hrow hnx hov hT hT2 hltq (dp_B hu1 hu2), by simp [intOf]; omega⟩
              · obtain rfl : q' = q := by omega
                clear hsa hsr
                go_wp2
                go_roundw
                case rel => exact ⟨p + 1, T', hltp, by go_num, hrow, hT, hnx⟩
                case measure => simp [intOf]; omega

          | false =>
            rw [hu] at ck
            go_wp2_with fail
            refine hov.tail 18 (by kernel_rfl) (by kernel_rfl) ?_
            dsimp only [List.take, List.drop]
            repeat (go_big_quiet_step ((fail)))
            refine wpQuiet_nil ?_
            intro w' hw'
            obtain ⟨w1, hw''⟩ := hw'
            subst hw''
            go_wp2
            go_loopw [10] (fun j wr => ∃ (q' : Nat) (T' : Nat → Bool), q' ≤ q ∧ j = .int .i64 ((q' : Int) + 1) ∧ BRow wr w.heap.size q T' ∧ (∀ s, s ≤ q' → T' s = dp A B R (p + 1) s) ∧ (∀ s, q' < s → s ≤ q → T' s = dp A B R p s) ∧ Below w.heap.size w wr) (fun j _ => q + 1 - (intOf j).toNat)
            case atStart => exact step2 hrow hnx hov hT (dpz_f hu)
            case round =>
              clear hT hrow hnx hoc hof hov
              obtain ⟨q', T', hq', rfl, hrow, hT, hT2, hnx⟩ := hrel
              by_cases hltq : q' + 1 ≤ q
              · obtain ⟨bb, ob, rfl, hbb, hsb⟩ := hb (by omega)
                obtain ⟨a0, a1, a2, a3⟩ := hsa p (by omega)
                obtain ⟨b0, b1, b2, b3⟩ := hsb q' (by omega)
                obtain ⟨r0, r1, r2, r3⟩ := hsr (p + q' + 1) (by omega)
                rw [← hnx.cell (p := ⟨ba, oa + p * 4, none⟩) hba] at a0
                rw [← hnx.cell (p := ⟨ba, oa + p * 4 + 1, none⟩) hba] at a1
                rw [← hnx.cell (p := ⟨ba, oa + p * 4 + 2, none⟩) hba] at a2
                rw [← hnx.cell (p := ⟨ba, oa + p * 4 + 3, none⟩) hba] at a3
                rw [← hnx.cell (p := ⟨bb, ob + q' * 4, none⟩) hbb] at b0
                rw [← hnx.cell (p := ⟨bb, ob + q' * 4 + 1, none⟩) hbb] at b1
                rw [← hnx.cell (p := ⟨bb, ob + q' * 4 + 2, none⟩) hbb] at b2
                rw [← hnx.cell (p := ⟨bb, ob + q' * 4 + 3, none⟩) hbb] at b3
                rw [← hnx.cell (p := ⟨br, obr + (p + q' + 1) * 4, none⟩) hbr] at r0
                rw [← hnx.cell (p := ⟨br, obr + (p + q' + 1) * 4 + 1, none⟩) hbr] at r1
                rw [← hnx.cell (p := ⟨br, obr + (p + q' + 1) * 4 + 2, none⟩) hbr] at r2
                rw [← hnx.cell (p := ⟨br, obr + (p + q' + 1) * 4 + 3, none⟩) hbr] at r3
                have hg := hrow.lt
                have hbaw : ba < wr.heap.size := by omega
                have hbbw : bb < wr.heap.size := by omega
                have hbrw : br < wr.heap.size := by omega
                have ck := hrow.cell (t := q') (by omega)
                have ck1 := hrow.cell (t := q' + 1) (by omega)
                have fk := hrow.frozen
                rw [hT q' (Nat.le_refl _)] at ck
                rw [hT2 (q' + 1) (by omega) (by omega)] at ck1
                clear hsa hsb hsr
                obtain ⟨ov, hov⟩ := exists_ov wr
                have hoc := hov.cell
                have hof := hov.frozen
                obtain ⟨rk, hrk⟩ : ∃ rk, rk = R (p + q' + 1) := ⟨_, rfl⟩
                rw [← hrk, show p + q' + 1 = p + 1 + q' by omega] at r0 r1 r2 r3
                have HRK : Hid (rk = R (p + q' + 1)) := hrk
                clear hrk
                cases hu1 : dp A B R p (q' + 1) with
                | true =>
                  rw [hu1] at ck1
                  cases he : eqK ⟨(A p).a, (A p).c, (A p).v, (A p).l⟩ ⟨rk.a, rk.c, rk.v, rk.l⟩ with
                  | true =>
                    clear ck
                    go_wp2_with fail
                    refine hov.tail 44 (by kernel_rfl) (by kernel_rfl) ?_
                    dsimp only [List.take, List.drop]
                    repeat (go_big_quiet_step ((go_at_call 21; exact hov.call (eqHK_true he _))))
                    refine wpQuiet_nil ?_
                    intro w' hw'
                    obtain ⟨w1, hw''⟩ := hw'
                    subst hw''
                    go_wp2
                    exact ⟨step3 hrow hnx hov hT hT2 hltq (dp_C hu1 he HRK.out), by simp [intOf]; omega⟩
                  | false =>
                    cases hu2 : dp A B R (p + 1) q' with
                    | true =>
                      rw [hu2] at ck
                      go_wp2_with fail
                      refine hov.tail 44 (by kernel_rfl) (by kernel_rfl) ?_
                      dsimp only [List.take, List.drop]
                      repeat (go_big_quiet_step ((first | (go_at_call_of 21 ((B q').a); exact hov.call (eqHK_any _ _ _ _ _ _ _ _ _)) | (go_at_call 21; exact hov.call (eqHK_false he _)))))
                      refine wpQuiet_nil ?_
                      intro w' hw'
                      obtain ⟨w1, hw''⟩ := hw'
                      subst hw''
                      go_wp2
                      exact ⟨step3 hrow hnx hov hT hT2 hltq (dp_D hu1 he hu2 HRK.out), by simp [intOf]; omega⟩
                    | false =>
                      rw [hu2] at ck
                      go_wp2_with fail
                      refine hov.tail 44 (by kernel_rfl) (by kernel_rfl) ?_
                      dsimp only [List.take, List.drop]
                      repeat (go_big_quiet_step ((go_at_call 21; exact hov.call (eqHK_false he _))))
                      refine wpQuiet_nil ?_
                      intro w' hw'
                      obtain ⟨w1, hw''⟩ := hw'
                      subst hw''
                      go_wp2
                      exact ⟨step3 hrow hnx hov hT hT2 hltq (dp_E hu1 he hu2 HRK.out), by simp [intOf]; omega⟩
                | false =>
                  rw [hu1] at ck1
                  cases hu2 : dp A B R (p + 1) q' with
                  | true =>
                    rw [hu2] at ck
                    go_wp2_with fail
                    refine hov.tail 44 (by kernel_rfl) (by kernel_rfl) ?_
                    dsimp only [List.take, List.drop]
                    repeat (go_big_quiet_step ((go_at_call 21; exact hov.call (eqHK_any _ _ _ _ _ _ _ _ _))))
                    refine wpQuiet_nil ?_
                    intro w' hw'
                    obtain ⟨w1, hw''⟩ := hw'
                    subst hw''
                    go_wp2
                    exact ⟨step3 hrow hnx hov hT hT2 hltq (dp_A hu1 hu2 HRK.out), by simp [intOf]; omega⟩
                  | false =>
                    rw [hu2] at ck
                    go_wp2_with fail
                    refine hov.tail 44 (by kernel_rfl) (by kernel_rfl) ?_
                    dsimp only [List.take, List.drop]
                    repeat (go_big_quiet_step ((fail)))
                    refine wpQuiet_nil ?_
                    intro w' hw'
                    obtain ⟨w1, hw''⟩ := hw'
                    subst hw''
                    go_wp2
                    exact ⟨step3 hrow hnx hov hT hT2 hltq (dp_B hu1 hu2), by simp [intOf]; omega⟩
              · obtain rfl : q' = q := by omega
                clear hsa hsr
                go_wp2
                go_roundw
                case rel => exact ⟨p + 1, T', hltp, by go_num, hrow, hT, hnx⟩
                case measure => simp [intOf]; omega

        · obtain rfl : p = n := by omega
          have ck := hrow.cell (t := q) (Nat.le_refl _)
          rw [hT q (Nat.le_refl _)] at ck
          go_wp2
          go_ret
          exact ⟨rfl, hnx⟩

end Go.Proofs.Qxb6604791a
