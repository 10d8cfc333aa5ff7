import Derived.Test.Qxb6605215aStep
import Derived.OwnWalk
import Derived.Deep.AppendLies
namespace Go.Proofs.Qxb6605215a
open Go.ChangeShapes Go.WideShapes Go.ChangeAt Go.RowKit
set_option linter.unusedVariables false

/-- The numbers let in, as cells. -/
def cellsL (L : List Nat) : List Value := L.map fun (s : Nat) => .int .u64 (s : Int)
theorem cellsL_length (L : List Nat) : (cellsL L).length = L.length := by simp [cellsL]
theorem cellsL_snoc (L : List Nat) (s : Nat) : cellsL L ++ [.int .u64 (s : Int)] = cellsL (L ++ [s]) := by simp [cellsL]

theorem ownsRow_of_block {w w1 : World} {g : Nat} {e : TypeId} {n cap : Nat} {xs : List Value} (h : w.ownsRow g e 1 (.slice (some ⟨g, 0, none⟩) n cap) n xs) (hg : w1.heap[g]? = w.heap[g]?) : w1.ownsRow g e 1 (.slice (some ⟨g, 0, none⟩) n cap) n xs := by
  obtain ⟨hl, ho⟩ := h
  refine ⟨hl, ?_⟩
  rcases ho with ⟨h1, _⟩ | ⟨g', cap, cur, h1, h2, h3, r⟩
  · cases h1
  · simp only [Value.slice.injEq, Option.some.injEq, Addr.mk.injEq] at h1
    obtain ⟨⟨rfl, _⟩, _, rfl⟩ := h1
    exact .inr ⟨_, _, cur, rfl, h2, by rw [hg]; exact h3, r⟩

/-- The row of the numbers let in. -/
def Acc (w : World) (g N : Nat) (L : List Nat) : Prop := w.ownsRow g 22 1 (.slice (some ⟨g, 0, none⟩) L.length N) L.length (cellsL L)

theorem Acc.isI {w : World} {g N : Nat} {L : List Nat} (h : Acc w g N L) (hN : L.length ≤ maxLen) : IsI .u64 w w.heap.size (some ⟨g, 0, none⟩) L.length (fun i => (L.getD i 0 : Nat)) := by
  refine ⟨hN, fun h0 => ⟨g, 0, rfl, (h.lt _ rfl).2, fun i hi => ?_⟩⟩
  rw [Nat.zero_add, h.cellAt _ (by omega)]
  simp [cellsL, List.getD_eq_getElem?_getD, List.getElem?_eq_getElem hi]
theorem Acc.kept {w w1 : World} {g N : Nat} {L : List Nat} (h : Acc w g N L) (hb : Below w.heap.size w w1) : Acc w1 g N L := ownsRow_of_block h (hb.block _ (h.lt _ rfl).2)

/-- The loop's relation. -/
def RRel (w : World) (n : Nat) (top bits seen acc mx kk : Value) (wr : World) : Prop :=
  ∃ (k : Nat) (L : List Nat) (t b l : Nat) (sn : Bool), k ≤ n ∧ top = .int .u64 t ∧ bits = .int .u64 b ∧ seen = .bool sn ∧ acc = .slice (some ⟨w.heap.size, 0, none⟩) l n ∧ mx = .int .u64 t ∧ kk = .int .i64 k ∧
    St L t b ∧ sn = decide (0 < L.length) ∧ L.length = l ∧ L.length ≤ k ∧ Acc wr w.heap.size n L ∧ Below w.heap.size w wr

theorem RRel.stay {w w' : World} {n k t b l : Nat} {L : List Nat} {sn : Bool} (hk : k < n) (hst : St L t b) (hsn : sn = decide (0 < L.length)) (hl : L.length = l) (hlk : L.length ≤ k) (hacc : Acc w' w.heap.size n L) (hb : Below w.heap.size w w') :
    RRel w n (.int .u64 t) (.int .u64 b) (.bool sn) (.slice (some ⟨w.heap.size, 0, none⟩) l n) (.int .u64 t) (.int .i64 ((k : Int) + 1)) w' :=
  ⟨k + 1, L, t, b, l, sn, by omega, rfl, rfl, rfl, rfl, rfl, by go_num, hst, hsn, hl, by omega, hacc, hb⟩
theorem RRel.more {w w' : World} {n k t b l s T B : Nat} {L : List Nat} {sn : Bool} (hk : k < n) (hst : St L t b) (hs : s < M64) (hsn : sn = decide (0 < L.length)) (hl : L.length = l) (hlk : L.length ≤ k) (hT : T = mT t sn s) (hB : B = mB t b sn s)
    (hacc : w'.ownsRow w.heap.size 22 1 (.slice (some ⟨w.heap.size, 0, none⟩) (l + 1) n) (l + 1) (cellsL L ++ [.int .u64 (s : Int)])) (hb : Below w.heap.size w w') :
    RRel w n (.int .u64 T) (.int .u64 B) (.bool true) (.slice (some ⟨w.heap.size, 0, none⟩) (l + 1) n) (.int .u64 T) (.int .i64 ((k : Int) + 1)) w' := by
  subst hT hB
  have e : (L ++ [s]).length = l + 1 := by simp; omega
  refine ⟨k + 1, L ++ [s], _, _, _, true, by omega, rfl, rfl, rfl, rfl, rfl, by go_num, hst.mark hs sn hsn, ?_, e, by omega, ?_, hb⟩
  · rw [e]; simp
  · rw [cellsL_snoc] at hacc
    unfold Acc
    rw [e]
    exact hacc

set_option maxRecDepth 100000 in
set_option maxHeartbeats 8000000 in
theorem replay_in (ao : Option Addr) (n c : Nat) (Q : Nat → Nat) (w : World) (hQ : ∀ i, i < n → Q i < M64) (ha : IsI .u64 w w.heap.size ao n (fun i => (Q i : Int))) (hn : n ≤ 4096) :
    Calls Try.prog 6 #[.slice ao n c] w fun e w' => e = .returned (.bool true) ∧ Below w.heap.size w w' := by
  have h11 := zzBytes11 ao n c w ha.1
  obtain ⟨i0, hi, hz0, hz1, hz2⟩ := info_parts Try.info22
  go_enter Try.func6, Try.ntmps6
  go_wp2_with fail
  refine h11.mono ?_
  clear h11
  rintro e w1 ⟨⟨r, rfl⟩, rfl⟩
  cases r with
  | false =>
    go_wp2
    go_ret
    exact ⟨rfl, Below.refl _ _⟩
  | true =>
    go_wp2_with fail
    refine (clone28_any ao n c _ w ha (by omega)).mono ?_
    rintro e w1 ⟨⟨aq, rfl, hq⟩, hb1⟩
    clear ha
    go_wp2_with (at_make; refine wpList_make_own _ rfl _ _ 28 rfl w1.heap.size 22 i0 _ 1 Try.underlying28 hi hz0 hz1 _ _ _ n rfl rfl (by omega) ?b2 ?b3 (Nat.le_refl _) ?_)
    case b2 => rw [hz2]; omega
    case b3 => unfold maxLen; omega
    intro w0 hown0 hgrow0
    have hbel : Below w1.heap.size w1 w0 := (Below.refl _ _).grown hgrow0 (Nat.le_refl _) (fun k h => by cases h)
    clear hgrow0
    go_wp2
    go_loopw [3, 4, 5, 6, 7, 8] (fun top bits seen acc mx kk wr => RRel w1 n top bits seen acc mx kk wr) (fun _ _ _ _ _ kk _ => n - (intOf kk).toNat)
    case atStart => exact ⟨0, [], 0, 0, 0, false, Nat.zero_le _, rfl, rfl, rfl, rfl, rfl, rfl, St.start, rfl, rfl, Nat.le_refl _, hown0, hbel⟩
    case round =>
      clear hown0 hbel
      obtain ⟨k, L, t, b, l, sn, hk, rfl, rfl, rfl, rfl, rfl, rfl, hst, hsn, hl, hlk, hacc, hbe⟩ := hrel
      have HSN : Hid (sn = decide (0 < L.length)) := hsn
      have HL : Hid (L.length = l) := hl
      have HLK : Hid (L.length ≤ k) := hlk
      have hlM : L.length ≤ maxLen := by unfold maxLen; omega
      have hln : l ≤ n := by omega
      by_cases hlt : k < n
      · obtain ⟨qb, qoff, rfl, hqb, hqs⟩ := hq.2 (by omega)
        obtain ⟨s, hsq⟩ : ∃ s, s = Q k := ⟨_, rfl⟩
        have hs64 : s < M64 := by rw [hsq]; exact hQ k hlt
        have hcell : wr.cell? ⟨qb, qoff + k, none⟩ = some (.int .u64 (s : Int)) := by rw [hsq]; exact (hbe.cell (p := ⟨qb, qoff + k, none⟩) hqb).trans (hqs k hlt)
        clear hqs hsq
        have hin := fun w' (h : Below wr.heap.size wr w') => in_any (some ⟨w1.heap.size, 0, none⟩) n L s w'.heap.size w' ((hacc.kept h).isI hlM) l hl
        have hf := fun w' => zzFresh_any t b s sn w' hst.ht hst.hb
        have hm := fun w' => zzMark_any t b s sn w' hst.ht hst.hb hs64
        have hroom : l + 1 ≤ n := by omega
        clear hl hlk
        by_cases hmem : s ∈ L
        · obtain rfl : sn = true := by rw [hsn]; exact decide_eq_true (List.length_pos_of_mem hmem)
          rw [hst.fr_mem hmem] at hf
          rw [decide_eq_true hmem] at hin
          clear hsn
          go_wp2_with fail
          refine (hin wr (Below.refl _ _)).mono ?_
          rintro e w2 ⟨rfl, rfl⟩
          go_wp2_with fail
          refine (hf _).mono ?_
          rintro e w3 ⟨rfl, hb3⟩
          have hacc3 := hacc.kept hb3
          have hbe3 := hbe.trans (hb3.mono hbe.size)
          clear hin hf hm hacc hb3 hbe
          go_wp2
          go_roundw
          case rel => exact RRel.stay hlt hst HSN.out HL.out HLK.out hacc3 hbe3
          case measure => simp [intOf]; omega
        · rw [decide_eq_false hmem] at hin
          cases sn with
          | false =>
            have hl0 : l = 0 := by have := of_decide_eq_false hsn.symm; have := HL.out; omega
            have hlz : ((l : Int) == 0) = true := by rw [hl0]; rfl
            clear hl0
            rw [fr_none] at hf
            have hT : mT t false s = s := rfl
            rw [hT] at hm
            clear hsn
            go_wp2_with fail
            refine (hin wr (Below.refl _ _)).mono ?_
            rintro e w2 ⟨rfl, rfl⟩
            go_wp2_with fail
            refine (hf _).mono ?_
            rintro e w3 ⟨rfl, hb3⟩
            go_wp2_with fail
            refine (hm _).mono ?_
            rintro e w4 ⟨rfl, hb4⟩
            have hacc4 := (hacc.kept hb3).kept hb4
            have hb34 := hb3.trans (hb4.mono hb3.size)
            have hbe4 := hbe.trans (hb34.mono hbe.size)
            clear hin hf hm hacc hb3 hb4 hb34 hbe
            unfold Acc at hacc4
            rw [HL.out] at hacc4
            go_wp2_with (at_builtin; refine wpList_append_fits _ rfl _ _ 28 rfl w1.heap.size 22 i0 1 Try.underlying28 hi hz1 w1.heap.size l n (cellsL L) rfl (hacc4.alloc _) ⟨w4.heap.size, 0, none⟩ 1 1 [.int .u64 (s : Int)] rfl rfl (World.news_of_block (cs := #[.int .u64 (s : Int)]) (t := 22) (fr := (0, 0)) (heap_alloc_new w4 _)) (fun u hu => by simp at hu; subst hu; rfl) hroom ?_; intro w5 hown5 hgrow5)
            have hbe5 := (hbe4.alloc hbe4.size _).grown hgrow5 (Nat.le_trans hbe4.size (by simp)) (fun k h => by cases h; exact Nat.le_refl _)
            go_roundw
            case rel => exact RRel.more hlt hst hs64 HSN.out HL.out HLK.out hT.symm rfl hown5 hbe5
            case measure => simp [intOf]; omega
          | true =>
            have hl0 : 0 < l := by have := of_decide_eq_true hsn.symm; have := HL.out; omega
            have hlz : ((l : Int) == 0) = false := by simp; omega
            clear hsn
            by_cases hts : t < s
            · skip
              rw [fr_above hts] at hf
              have hT : mT t true s = s := by unfold mT; rw [if_pos rfl, if_pos hts]
              rw [hT] at hm
              go_wp2_with fail
              refine (hin wr (Below.refl _ _)).mono ?_
              rintro e w2 ⟨rfl, rfl⟩
              go_wp2_with fail
              refine (hf _).mono ?_
              rintro e w3 ⟨rfl, hb3⟩
              go_wp2_with fail
              refine (hm _).mono ?_
              rintro e w4 ⟨rfl, hb4⟩
              have hacc4 := (hacc.kept hb3).kept hb4
              have hb34 := hb3.trans (hb4.mono hb3.size)
              have hbe4 := hbe.trans (hb34.mono hbe.size)
              clear hin hf hm hacc hb3 hb4 hb34 hbe
              unfold Acc at hacc4
              rw [HL.out] at hacc4
              go_wp2_with (at_builtin; refine wpList_append_fits _ rfl _ _ 28 rfl w1.heap.size 22 i0 1 Try.underlying28 hi hz1 w1.heap.size l n (cellsL L) rfl (hacc4.alloc _) ⟨w4.heap.size, 0, none⟩ 1 1 [.int .u64 (s : Int)] rfl rfl (World.news_of_block (cs := #[.int .u64 (s : Int)]) (t := 22) (fr := (0, 0)) (heap_alloc_new w4 _)) (fun u hu => by simp at hu; subst hu; rfl) hroom ?_; intro w5 hown5 hgrow5)
              have hbe5 := (hbe4.alloc hbe4.size _).grown hgrow5 (Nat.le_trans hbe4.size (by simp)) (fun k h => by cases h; exact Nat.le_refl _)
              go_roundw
              case rel => exact RRel.more hlt hst hs64 HSN.out HL.out HLK.out hT.symm rfl hown5 hbe5
              case measure => simp [intOf]; omega
            · have hw := wrap_sub (Nat.le_of_not_lt hts) hst.ht
              by_cases hd : 64 ≤ t - s
              · skip
                rw [fr_old hts hd] at hf
                obtain ⟨d, hdd⟩ : ∃ d, d = t - s := ⟨_, rfl⟩
                rw [← hdd] at hw hd
                have hd6 : decide ((d : Int) < 64) = false := decide_eq_false (by omega)
                clear hdd hd
                go_wp2_with fail
                refine (hin wr (Below.refl _ _)).mono ?_
                rintro e w2 ⟨rfl, rfl⟩
                go_wp2_with fail
                refine (hf _).mono ?_
                rintro e w3 ⟨rfl, hb3⟩
                have hacc3 := hacc.kept hb3
                have hbe3 := hbe.trans (hb3.mono hbe.size)
                clear hin hf hm hacc hb3 hbe
                go_wp2
                go_roundw
                case rel => exact RRel.stay hlt hst HSN.out HL.out HLK.out hacc3 hbe3
                case measure => simp [intOf]; omega
              · skip
                rw [hst.fr_in hts hd, decide_eq_false hmem] at hf
                have hT : mT t true s = t := by unfold mT; rw [if_pos rfl, if_neg hts]
                rw [hT] at hm
                obtain ⟨d, hdd⟩ : ∃ d, d = t - s := ⟨_, rfl⟩
                rw [← hdd] at hw hd
                have hd6 : ((d : Int) < 64) := by omega
                clear hdd hd
                go_wp2_with fail
                refine (hin wr (Below.refl _ _)).mono ?_
                rintro e w2 ⟨rfl, rfl⟩
                go_wp2_with fail
                refine (hf _).mono ?_
                rintro e w3 ⟨rfl, hb3⟩
                go_wp2_with fail
                refine (hm _).mono ?_
                rintro e w4 ⟨rfl, hb4⟩
                have hacc4 := (hacc.kept hb3).kept hb4
                have hb34 := hb3.trans (hb4.mono hb3.size)
                have hbe4 := hbe.trans (hb34.mono hbe.size)
                clear hin hf hm hacc hb3 hb4 hb34 hbe
                unfold Acc at hacc4
                rw [HL.out] at hacc4
                go_wp2_with (at_builtin; refine wpList_append_fits _ rfl _ _ 28 rfl w1.heap.size 22 i0 1 Try.underlying28 hi hz1 w1.heap.size l n (cellsL L) rfl (hacc4.alloc _) ⟨w4.heap.size, 0, none⟩ 1 1 [.int .u64 (s : Int)] rfl rfl (World.news_of_block (cs := #[.int .u64 (s : Int)]) (t := 22) (fr := (0, 0)) (heap_alloc_new w4 _)) (fun u hu => by simp at hu; subst hu; rfl) hroom ?_; intro w5 hown5 hgrow5)
                have hbe5 := (hbe4.alloc hbe4.size _).grown hgrow5 (Nat.le_trans hbe4.size (by simp)) (fun k h => by cases h; exact Nat.le_refl _)
                go_roundw
                case rel => exact RRel.more hlt hst hs64 HSN.out HL.out HLK.out hT.symm rfl hown5 hbe5
                case measure => simp [intOf]; omega
      · have hlen := HL.out
        cases sn with
        | false =>
          have hl0 : l = 0 := by have := of_decide_eq_false hsn.symm; omega
          have hL : L = [] := List.eq_nil_of_length_eq_zero (by omega)
          obtain ⟨e1, e2⟩ := hst.nil hL
          have hlz : decide ((0 : Int) < (l : Int)) = false := by rw [hl0]; rfl
          have ht0 : ((t : Int) == 0) = true := by rw [e1]; rfl
          have hb0 : ((b : Int) == 0) = true := by rw [e2]; rfl
          have hbel := hb1.trans (hbe.mono hb1.size)
          clear e1 e2 hL hlen hl hsn
          have hl1 : ¬ 0 < l := by omega
          go_wp2
          go_ret
          exact ⟨rfl, hbel⟩
        | true =>
          have hl0 : 0 < l := by have := of_decide_eq_true hsn.symm; omega
          have hbel := hb1.trans (hbe.mono hb1.size)
          clear hlen hl hsn
          go_wp2
          go_loopw [12] (fun i wi => ∃ j : Nat, j ≤ 64 ∧ i = .int .u64 j ∧ wr = wi) (fun i _ => 64 - (intOf i).toNat)
          case atStart => exact ⟨0, by omega, rfl, rfl⟩
          case round =>
            obtain ⟨j, hj, rfl, rfl⟩ := hrel
            by_cases hj64 : j < 64
            · have hbit := hst.bit j hj64
              have hb9 := fun w' => bitAt_any b j w' hst.hb hj64
              by_cases hjt : j ≤ t
              · rw [decide_eq_true hjt, Bool.true_and] at hbit
                obtain ⟨r, hr⟩ : ∃ r, r = t - j := ⟨_, rfl⟩
                have hw := wrap_sub hjt hst.ht
                rw [← hr] at hw hbit
                have h13 := in_any (some ⟨w1.heap.size, 0, none⟩) n L r wr.heap.size wr (hacc.isI hlM) l HL.out
                rw [← hbit] at h13
                clear hr hbit
                cases hbt : b.testBit j with
                | true =>
                  rw [hbt] at h13 hb9
                  go_wp2_with (first | (go_at_call 13; refine h13.mono ?_; rintro e w2 ⟨rfl, rfl⟩) | (go_at_call 9; refine (hb9 _).mono ?_; rintro e w2 ⟨rfl, rfl⟩))
                  go_roundw
                  case rel => exact ⟨j + 1, by omega, by go_num, by first | rfl | trivial⟩
                  case measure => simp [intOf]; omega
                | false =>
                  rw [hbt] at h13 hb9
                  go_wp2_with (first | (go_at_call 13; refine h13.mono ?_; rintro e w2 ⟨rfl, rfl⟩) | (go_at_call 9; refine (hb9 _).mono ?_; rintro e w2 ⟨rfl, rfl⟩))
                  go_roundw
                  case rel => exact ⟨j + 1, by omega, by go_num, by first | rfl | trivial⟩
                  case measure => simp [intOf]; omega
              · rw [decide_eq_false hjt, Bool.false_and] at hbit
                rw [hbit] at hb9
                have hd : decide ((j : Int) ≤ (t : Int)) = false := decide_eq_false (by omega)
                go_wp2_with (go_at_call 9; refine (hb9 _).mono ?_; rintro e w2 ⟨rfl, rfl⟩)
                go_roundw
                case rel => exact ⟨j + 1, by omega, by go_num, by first | rfl | trivial⟩
                case measure => simp [intOf]; omega
            · obtain rfl : j = 64 := by omega
              go_wp2
              go_ret
              exact ⟨rfl, hbel⟩

end Go.Proofs.Qxb6605215a
