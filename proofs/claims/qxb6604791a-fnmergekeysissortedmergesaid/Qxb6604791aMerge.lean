import Derived.Test.Qxb6604791aPlain
import Derived.Test.Qxb6604791aCopies
import Derived.Deep.RegionLaw
import Derived.Deep.AppendLies
namespace Go.Proofs.Qxb6604791a
open Go.ChangeShapes Go.WideShapes Go.ChangeAt Go.RowKit

/-- append within the capacity, as one step of a region that draws. -/
theorem step_append_fits {P : Program} (w : World) {ops : Array Oper} {o : Oper} {a : Act} {K : Act → World → Prop} {Q : Exit → Act → World → Prop} {E : Prop}
    (hg : o.guard = none) (s x : Operand) (t : TypeId) (hop : o.op = Op.call { callee := Callee.builtin Builtin.append, args := #[s, x], argTypes := #[t, t] })
    (base : Nat) (e : TypeId) (i : TypeInfo) (size : Nat) (h1 : P.underlying t = some (.slice e)) (h2 : P.info? e = some i) (h4 : i.size = size)
    (g k cap : Nat) (xs : List Value) (hs : a.eval s = .slice (some ⟨g, 0, none⟩) k cap) (hown : w.ownsRow base e size (.slice (some ⟨g, 0, none⟩) k cap) k xs) (ad : Addr) (m c : Nat) (news : List Value) (hx : a.eval x = .slice (some ad) m c) (hn : news.length = m * size)
    (hc : ∀ j u, news[j]? = some u → w.cell? (ad.add j) = some u) (h1c : ∀ u ∈ news, u.oneCell' = true) (b1 : k + m ≤ cap)
    (hK : ∀ w', w'.ownsRow base e size (.slice (some ⟨g, 0, none⟩) (k + m) cap) (k + m) (xs ++ news) → w.grownBy w' (some g) → K (a.put o.dst (.slice (some ⟨g, 0, none⟩) (k + m) cap)) w') :
    if Region.wanted o (yielded ops a.tmps) = true then Oper.wp P o a w K Q else E := by
  have hw : Region.wanted o (yielded ops a.tmps) = true := by simp [Region.wanted, hg]
  rw [if_pos hw]
  obtain ⟨w', hrun, r1, r2⟩ := run_append_fits (P := P) w base t o.type e i size h1 h2 h4 g k cap xs hown ad m c news hn hc h1c b1
  unfold Oper.wp
  simp [execOp, hop, resolve, invoke, builtin, hs, hx, hrun, Result.andThen]
  exact hK w' r1 r2

/-- It hands back a slice of the keys ks. -/
def RetL (ks : List HK) (e : Ending) (w' : World) : Prop := ∃ ao c, e = .returned (.slice ao ks.length c) ∧ KeysAt w' ao ks

/-- The loop's relation. -/
def MRel (w : World) (LA LB : List HK) (N : Nat) (sa sb sm : Value) (wr : World) (la lb : List HK) : Prop :=
  ∃ (ra rb : Option Addr) (ca cb : Nat) (xs : List HK), sa = .slice ra la.length ca ∧ sb = .slice rb lb.length cb ∧ sm = .slice (some ⟨w.heap.size, 0, none⟩) xs.length N ∧
    KeysAt w ra la ∧ KeysAt w rb lb ∧ la.length ≤ ca ∧ lb.length ≤ cb ∧ (ra = none → ca = 0) ∧ (rb = none → cb = 0) ∧
    wr.ownsRow w.heap.size 37 4 (.slice (some ⟨w.heap.size, 0, none⟩) xs.length N) xs.length (flat xs) ∧ xs ++ mrg la lb = mrg LA LB ∧ xs.length + la.length + lb.length = N ∧ Below w.heap.size w wr

theorem ownsRow_of_block {w w1 : World} {g : Nat} {e : TypeId} {n cap : Nat} {xs : List Value} (h : w.ownsRow g e 4 (.slice (some ⟨g, 0, none⟩) n cap) n xs) (hg : w1.heap[g]? = w.heap[g]?) : w1.ownsRow g e 4 (.slice (some ⟨g, 0, none⟩) n cap) n xs := by
  obtain ⟨hl, ho⟩ := h
  refine ⟨hl, ?_⟩
  rcases ho with ⟨h1, _⟩ | ⟨g', cap, cur, h1, h2, h3, r⟩
  · cases h1
  · simp only [Value.slice.injEq, Option.some.injEq, Addr.mk.injEq] at h1
    obtain ⟨⟨rfl, _⟩, _, rfl⟩ := h1
    exact .inr ⟨_, _, cur, rfl, h2, by rw [hg]; exact h3, r⟩

theorem cellsK_oneCell (k : HK) : ∀ u ∈ cellsK k, u.oneCell' = true := by
  rw [← flat_one]; exact flat_oneCell _

theorem MRel.stepA {w w2 : World} {LA LB : List HK} {N : Nat} {x y : HK} {la lb xs : List HK} {ra rb : Option Addr} {ca cb : Nat}
    (na : KeysAt w ra la) (hrb : KeysAt w rb (y :: lb)) (hca : la.length ≤ ca) (hcb : lb.length + 1 ≤ cb) (h1 : ra = none → ca = 0) (h2 : rb = none → cb = 0)
    (hown2 : w2.ownsRow w.heap.size 37 4 (.slice (some ⟨w.heap.size, 0, none⟩) (xs.length + 1) N) (xs.length + 1) (flat xs ++ cellsK x))
    (hx : xs ++ mrg (x :: la) (y :: lb) = mrg LA LB) (hc : cmpK x y < 0) (hlen : xs.length + (x :: la).length + (y :: lb).length = N) (hnx : Below w.heap.size w w2) :
    ∃ u0 u1 u5, (∃ la lb, MRel w LA LB N u0 u1 u5 w2 la lb) ∧ Value.slice ra la.length ca = u0 ∧ Value.slice rb (lb.length + 1) cb = u1 ∧ Value.slice (some ⟨w.heap.size, 0, none⟩) (xs.length + 1) N = u5 := by
  rw [mrg_lt hc] at hx
  have e : (xs ++ [x]).length = xs.length + 1 := by simp
  refine ⟨_, _, _, ⟨la, y :: lb, ra, rb, ca, cb, xs ++ [x], rfl, rfl, by rw [e], na, hrb, hca, hcb, h1, h2, ?_, by simpa using hx, by simp at hlen ⊢; omega, hnx⟩, rfl, rfl, rfl⟩
  rw [flat_append, flat_one, e]
  exact hown2

theorem MRel.stepB {w w2 : World} {LA LB : List HK} {N : Nat} {x y : HK} {la lb xs : List HK} {ra rb : Option Addr} {ca cb : Nat}
    (hra : KeysAt w ra (x :: la)) (nb : KeysAt w rb lb) (hca : la.length + 1 ≤ ca) (hcb : lb.length ≤ cb) (h1 : ra = none → ca = 0) (h2 : rb = none → cb = 0)
    (hown2 : w2.ownsRow w.heap.size 37 4 (.slice (some ⟨w.heap.size, 0, none⟩) (xs.length + 1) N) (xs.length + 1) (flat xs ++ cellsK y))
    (hx : xs ++ mrg (x :: la) (y :: lb) = mrg LA LB) (hc : ¬ cmpK x y < 0) (hlen : xs.length + (x :: la).length + (y :: lb).length = N) (hnx : Below w.heap.size w w2) :
    ∃ u0 u1 u5, (∃ la lb, MRel w LA LB N u0 u1 u5 w2 la lb) ∧ Value.slice ra (la.length + 1) ca = u0 ∧ Value.slice rb lb.length cb = u1 ∧ Value.slice (some ⟨w.heap.size, 0, none⟩) (xs.length + 1) N = u5 := by
  rw [mrg_ge hc] at hx
  have e : (xs ++ [y]).length = xs.length + 1 := by simp
  refine ⟨_, _, _, ⟨x :: la, lb, ra, rb, ca, cb, xs ++ [y], rfl, rfl, by rw [e], hra, nb, hca, hcb, h1, h2, ?_, by simpa using hx, by simp at hlen ⊢; omega, hnx⟩, rfl, rfl, rfl⟩
  rw [flat_append, flat_one, e]
  exact hown2

theorem KeysAt.none {w : World} {ao : Option Addr} {ks : List HK} {c : Nat} (h : KeysAt w ao ks) (hc : ao = .none → c = 0) : ao = .none → ks.length = 0 ∧ c = 0 := by
  intro e
  refine ⟨?_, hc e⟩
  by_cases h0 : 0 < ks.length
  · obtain ⟨b, off, hao, _⟩ := h.2 h0
    rw [e] at hao
    cases hao
  · omega

theorem MRel.fin {w w2 : World} {LA LB : List HK} {N : Nat} {la lb xs : List HK} (hb : ¬ (0 < la.length ∧ 0 < lb.length)) (hlen : xs.length + la.length + lb.length = N) (hx : xs ++ mrg la lb = mrg LA LB)
    (hown : w2.ownsRow w.heap.size 37 4 (.slice (some ⟨w.heap.size, 0, none⟩) (xs.length + la.length + lb.length) N) (xs.length + la.length + lb.length) (flat xs ++ flat la ++ flat lb)) :
    RetL (mrg LA LB) (.returned (.slice (some ⟨w.heap.size, 0, none⟩) (xs.length + la.length + lb.length) N)) w2 := by
  have e : mrg LA LB = xs ++ la ++ lb := by
    rw [← hx, List.append_assoc]
    congr 1
    cases la with
    | nil => rfl
    | cons x la =>
      cases lb with
      | nil => rw [mrg_nil_right]; simp
      | cons y lb => simp at hb
  have el : (mrg LA LB).length = xs.length + la.length + lb.length := by rw [e]; simp; omega
  rw [← flat_append, ← flat_append, ← e] at hown
  refine ⟨_, N, by rw [el], KeysAt.of_row el.symm hown⟩

def lenOf : Value → Nat | .slice _ n _ => n | _ => 0

set_option maxRecDepth 100000 in
set_option maxHeartbeats 4000000 in
theorem mergeKeys_some (ao bo : Option Addr) (k0 : HK) (LA LB : List HK) (ca cb : Nat) (w : World) (ha : KeysAt w ao (k0 :: LA)) (hb : KeysAt w bo LB) (hna : ao = none → ca = 0) (hnb : bo = none → cb = 0)
    (hca : (k0 :: LA).length ≤ ca) (hcb : LB.length ≤ cb) (h1 : (k0 :: LA).length ≤ 65536) (h2 : LB.length ≤ 65536) :
    Calls Try.prog 34 #[.slice ao (k0 :: LA).length ca, .slice bo LB.length cb] w fun e w' => RetL (mrg (k0 :: LA) LB) e w' ∧ Below w.heap.size w w' := by
  obtain ⟨i0, hi, hz0, hz1, hz2⟩ := info_parts Try.info37
  have hl0 : (((k0 :: LA).length : Int) == 0) = false := by simp; omega
  obtain ⟨n, hN⟩ : ∃ n, (k0 :: LA).length = n := ⟨_, rfl⟩
  have HN : Hid ((k0 :: LA).length = n) := hN
  rw [hN] at hl0 h1 hca ⊢
  clear hN
  go_enter Try.func34, Try.ntmps34
  go_wp2_with (at_make; refine wpList_make_own _ rfl _ _ 26 rfl w.heap.size 37 i0 _ 4 Try.underlying26 hi hz0 hz1 _ _ _ (n + LB.length) rfl rfl (by omega) ?b2 ?b3 (Nat.le_refl _) ?_)
  case b2 => rw [hz2]; omega
  case b3 => unfold maxLen; omega
  intro w0 hown0 hgrow0
  go_wp2
  go_loopw [0, 1, 5] (fun sa sb sm wr => ∃ la lb, MRel w (k0 :: LA) LB (n + LB.length) sa sb sm wr la lb) (fun sa sb _ _ => lenOf sa + lenOf sb)
  case atStart => exact ⟨k0 :: LA, LB, ao, bo, ca, cb, [], by rw [HN.out], rfl, rfl, ha, hb, by rw [HN.out]; exact hca, hcb, hna, hnb, hown0, rfl, by rw [HN.out]; simp, (Below.refl _ _).grown hgrow0 (Nat.le_refl _) (fun k h => by cases h)⟩
  case round =>
    obtain ⟨la, lb, ra, rb, qa, qb, xs, rfl, rfl, rfl, hra, hrb, hqa, hqb, hza, hzb, hown, hx, hlen, hnx⟩ := hrel
    by_cases hboth : 0 < la.length ∧ 0 < lb.length
    · obtain ⟨x, la, rfl⟩ : ∃ x l, la = x :: l := by
        cases la with
        | nil => simp at hboth
        | cons x l => exact ⟨x, l, rfl⟩
      obtain ⟨y, lb, rfl⟩ : ∃ x l, lb = x :: l := by
        cases lb with
        | nil => simp at hboth
        | cons x l => exact ⟨x, l, rfl⟩
      obtain ⟨ba, oa, rfl, hba, a0, a1, a2, a3, na⟩ := hra.head
      obtain ⟨bb, ob, rfl, hbb, b0, b1, b2, b3, nb⟩ := hrb.head
      have hg : w.heap.size < wr.heap.size := (hown.lt _ rfl).2
      rw [← hnx.cell (p := ⟨ba, oa, none⟩) hba] at a0
      rw [← hnx.cell (p := ⟨ba, oa + 1, none⟩) hba] at a1
      rw [← hnx.cell (p := ⟨ba, oa + 2, none⟩) hba] at a2
      rw [← hnx.cell (p := ⟨ba, oa + 3, none⟩) hba] at a3
      rw [← hnx.cell (p := ⟨bb, ob, none⟩) hbb] at b0
      rw [← hnx.cell (p := ⟨bb, ob + 1, none⟩) hbb] at b1
      rw [← hnx.cell (p := ⟨bb, ob + 2, none⟩) hbb] at b2
      rw [← hnx.cell (p := ⟨bb, ob + 3, none⟩) hbb] at b3
      have hbaw : ba < wr.heap.size := by omega
      have hbbw : bb < wr.heap.size := by omega
      clear hboth hown0 hgrow0 hza hzb
      have HX : Hid (xs ++ mrg (x :: la) (y :: lb) = mrg (k0 :: LA) LB) := hx
      have HL : Hid (xs.length + (x :: la).length + (y :: lb).length = n + LB.length) := hlen
      clear hx hlen
      simp only [List.length_cons] at hqa hqb ⊢
      by_cases hc : cmpK ⟨x.a, x.c, x.v, x.l⟩ ⟨y.a, y.c, y.v, y.l⟩ < 0
      · go_wp2_with fail
        go_region_held3 (fun w' => w'.cell? ⟨ba, oa, none⟩ = some (.string x.a) ∧ w'.cell? ⟨ba, oa + 1, none⟩ = some (.string x.c) ∧ w'.cell? ⟨ba, oa + 2, none⟩ = some (.string x.v) ∧ w'.cell? ⟨ba, oa + 3, none⟩ = some (.string x.l) ∧
            w'.cell? ⟨bb, ob, none⟩ = some (.string y.a) ∧ w'.cell? ⟨bb, ob + 1, none⟩ = some (.string y.c) ∧ w'.cell? ⟨bb, ob + 2, none⟩ = some (.string y.v) ∧ w'.cell? ⟨bb, ob + 3, none⟩ = some (.string y.l))
          (go_keep)
          (first | (go_at_call 36; refine (compare_any _ _ _ _ _ _ _ _ _).mono ?_; rintro e w1 ⟨rfl, hb1⟩; obtain ⟨q1, q2⟩ := bcell hb1; have e0 := (q1 ba _ hbaw).trans a0; have e1 := (q1 ba _ hbaw).trans a1; have e2 := (q1 ba _ hbaw).trans a2; have e3 := (q1 ba _ hbaw).trans a3; have f0 := (q1 bb _ hbbw).trans b0; have f1 := (q1 bb _ hbbw).trans b1; have f2 := (q1 bb _ hbbw).trans b2; have f3 := (q1 bb _ hbbw).trans b3; clear q1 q2))
        have hown1 := ownsRow_of_block hown (hb1.block _ hg)
        have hroom : xs.length + 1 ≤ n + LB.length := by have := HL.out; simp at this; omega
        have hle : (1 : Int) ≤ (la.length : Int) + 1 := by omega
        go_wp2_with fail
        go_region_law ((refine step_append_fits _ (by rfl) _ _ _ (by rfl) w.heap.size 37 i0 4 Try.underlying26 hi hz1 w.heap.size xs.length (n + LB.length) (flat xs) (by rfl) ((hown1.alloc _).drew) ⟨w1.heap.size, 0, none⟩ 1 1 (cellsK x) (by rfl) (by rfl) (World.news_of_block (cs := #[.string x.a, .string x.c, .string x.v, .string x.l]) (t := 37) (fr := (0, 0)) (heap_alloc_new w1 _)) (cellsK_oneCell x) (by omega) ?_; intro w2 hown2 hgrow2))
        have hnx2 : Below w.heap.size w w2 := Below.grown (((hnx.drew.trans (hb1.mono (by exact Nat.le_of_lt hg))).alloc (by have := hb1.size; exact Nat.le_trans (Nat.le_of_lt hg) this) _).drew) hgrow2 (by have := hb1.size; simp at this ⊢; omega) (fun k h => by cases h; exact Nat.le_refl _)
        clear hgrow2 e0 e1 e2 e3 f0 f1 f2 f3 a0 a1 a2 a3 b0 b1 b2 b3
        go_wp2
        · exact ⟨MRel.stepA (na _ (fun h => absurd h (by omega))) hrb (by omega) hqb (fun h => by cases h) (fun h => by cases h) hown2 HX.out hc HL.out hnx2, by simp [lenOf]⟩
        · exact ⟨MRel.stepA (na _ (fun _ => rfl)) hrb (by omega) hqb (fun h => by cases h) (fun h => by cases h) hown2 HX.out hc HL.out hnx2, by simp [lenOf]⟩
      · go_wp2_with fail
        go_region_held3 (fun w' => w'.cell? ⟨ba, oa, none⟩ = some (.string x.a) ∧ w'.cell? ⟨ba, oa + 1, none⟩ = some (.string x.c) ∧ w'.cell? ⟨ba, oa + 2, none⟩ = some (.string x.v) ∧ w'.cell? ⟨ba, oa + 3, none⟩ = some (.string x.l) ∧
            w'.cell? ⟨bb, ob, none⟩ = some (.string y.a) ∧ w'.cell? ⟨bb, ob + 1, none⟩ = some (.string y.c) ∧ w'.cell? ⟨bb, ob + 2, none⟩ = some (.string y.v) ∧ w'.cell? ⟨bb, ob + 3, none⟩ = some (.string y.l))
          (go_keep)
          (first | (go_at_call 36; refine (compare_any _ _ _ _ _ _ _ _ _).mono ?_; rintro e w1 ⟨rfl, hb1⟩; obtain ⟨q1, q2⟩ := bcell hb1; have e0 := (q1 ba _ hbaw).trans a0; have e1 := (q1 ba _ hbaw).trans a1; have e2 := (q1 ba _ hbaw).trans a2; have e3 := (q1 ba _ hbaw).trans a3; have f0 := (q1 bb _ hbbw).trans b0; have f1 := (q1 bb _ hbbw).trans b1; have f2 := (q1 bb _ hbbw).trans b2; have f3 := (q1 bb _ hbbw).trans b3; clear q1 q2))
        have hown1 := ownsRow_of_block hown (hb1.block _ hg)
        have hroom : xs.length + 1 ≤ n + LB.length := by have := HL.out; simp at this; omega
        have hle : (1 : Int) ≤ (lb.length : Int) + 1 := by omega
        go_wp2_with fail
        go_region_law ((refine step_append_fits _ (by rfl) _ _ _ (by rfl) w.heap.size 37 i0 4 Try.underlying26 hi hz1 w.heap.size xs.length (n + LB.length) (flat xs) (by rfl) ((hown1.alloc _).drew) ⟨w1.heap.size, 0, none⟩ 1 1 (cellsK y) (by rfl) (by rfl) (World.news_of_block (cs := #[.string y.a, .string y.c, .string y.v, .string y.l]) (t := 37) (fr := (0, 0)) (heap_alloc_new w1 _)) (cellsK_oneCell y) (by omega) ?_; intro w2 hown2 hgrow2))
        have hnx2 : Below w.heap.size w w2 := Below.grown (((hnx.drew.trans (hb1.mono (by exact Nat.le_of_lt hg))).alloc (by have := hb1.size; exact Nat.le_trans (Nat.le_of_lt hg) this) _).drew) hgrow2 (by have := hb1.size; simp at this ⊢; omega) (fun k h => by cases h; exact Nat.le_refl _)
        clear hgrow2 e0 e1 e2 e3 f0 f1 f2 f3 a0 a1 a2 a3 b0 b1 b2 b3
        go_wp2
        · exact ⟨MRel.stepB hra (nb _ (fun h => absurd h (by omega))) hqa (by omega) (fun h => by cases h) (fun h => by cases h) hown2 HX.out (Int.not_lt.2 hc) HL.out hnx2, by simp [lenOf]⟩
        · exact ⟨MRel.stepB hra (nb _ (fun _ => rfl)) hqa (by omega) (fun h => by cases h) (fun h => by cases h) hown2 HX.out (Int.not_lt.2 hc) HL.out hnx2, by simp [lenOf]⟩
    · have hlen1 : xs.length + la.length ≤ n + LB.length := by omega
      have hlen2 : xs.length + la.length + lb.length ≤ n + LB.length := by omega
      have HX : Hid (xs ++ mrg la lb = mrg (k0 :: LA) LB) := hx
      have HL : Hid (xs.length + la.length + lb.length = n + LB.length) := hlen
      have hra1 := hra.kept hnx
      have hrb1 := hrb.kept hnx
      have HB : Hid (¬ (0 < la.length ∧ 0 < lb.length)) := hboth
      clear hx hlen hown0 hgrow0
      by_cases hla : 0 < la.length
      · have hlb : ¬ 0 < lb.length := fun h => hboth ⟨hla, h⟩
        go_wp2_with (first
          | (at_builtin; refine wpList_append_fits_any _ rfl (.tmp 48) (.tmp 49) 26 rfl w.heap.size 37 i0 4 Try.underlying26 hi hz1 w.heap.size xs.length (n + LB.length) _ rfl hown ra la.length qa (flat la) rfl (flat_length la) (hra.none hza) hra1.cells (flat_oneCell la) hlen1 ?_; intro w1 hown1 hgrow1)
          | (at_builtin; refine wpList_append_fits_any _ rfl (.tmp 50) (.tmp 51) 26 rfl w.heap.size 37 i0 4 Try.underlying26 hi hz1 w.heap.size (xs.length + la.length) (n + LB.length) _ rfl hown1 rb lb.length qb (flat lb) rfl (flat_length lb) (hrb.none hzb) (hrb.kept (hnx.grown hgrow1 hnx.size (fun k h => by cases h; exact Nat.le_refl _))).cells (flat_oneCell lb) hlen2 ?_; intro w2 hown2 hgrow2))
        go_ret
        exact ⟨MRel.fin HB.out HL.out HX.out hown2, (hnx.grown hgrow1 hnx.size (fun k h => by cases h; exact Nat.le_refl _)).grown hgrow2 (Nat.le_trans hnx.size hgrow1.size) (fun k h => by cases h; exact Nat.le_refl _)⟩
      · go_wp2_with (first
          | (at_builtin; refine wpList_append_fits_any _ rfl (.tmp 48) (.tmp 49) 26 rfl w.heap.size 37 i0 4 Try.underlying26 hi hz1 w.heap.size xs.length (n + LB.length) _ rfl hown ra la.length qa (flat la) rfl (flat_length la) (hra.none hza) hra1.cells (flat_oneCell la) hlen1 ?_; intro w1 hown1 hgrow1)
          | (at_builtin; refine wpList_append_fits_any _ rfl (.tmp 50) (.tmp 51) 26 rfl w.heap.size 37 i0 4 Try.underlying26 hi hz1 w.heap.size (xs.length + la.length) (n + LB.length) _ rfl hown1 rb lb.length qb (flat lb) rfl (flat_length lb) (hrb.none hzb) (hrb.kept (hnx.grown hgrow1 hnx.size (fun k h => by cases h; exact Nat.le_refl _))).cells (flat_oneCell lb) hlen2 ?_; intro w2 hown2 hgrow2))
        go_ret
        exact ⟨MRel.fin HB.out HL.out HX.out hown2, (hnx.grown hgrow1 hnx.size (fun k h => by cases h; exact Nat.le_refl _)).grown hgrow2 (Nat.le_trans hnx.size hgrow1.size) (fun k h => by cases h; exact Nat.le_refl _)⟩

theorem mergeKeys_any (ao bo : Option Addr) (LA LB : List HK) (ca cb : Nat) (w : World) (ha : KeysAt w ao LA) (hb : KeysAt w bo LB) (hna : ao = none → ca = 0) (hnb : bo = none → cb = 0)
    (hca : LA.length ≤ ca) (hcb : LB.length ≤ cb) (h1 : LA.length ≤ 65536) (h2 : LB.length ≤ 65536) :
    Calls Try.prog 34 #[.slice ao LA.length ca, .slice bo LB.length cb] w fun e w' => RetL (mrg LA LB) e w' ∧ Below w.heap.size w w' := by
  cases LA with
  | cons k0 LA => exact mergeKeys_some ao bo k0 LA LB ca cb w ha hb hna hnb hca hcb h1 h2
  | nil =>
    show Calls Try.prog 34 #[.slice ao 0 ca, .slice bo LB.length cb] w fun e w' => RetL LB e w' ∧ Below w.heap.size w w'
    go_enter Try.func34, Try.ntmps34
    go_wp2
    go_ret
    exact ⟨⟨bo, cb, rfl, hb⟩, Below.refl _ _⟩

theorem zzMergeKeys_any (ao bo : Option Addr) (LA LB : List HK) (ca cb : Nat) (w : World) (ha : KeysAt w ao LA) (hb : KeysAt w bo LB) (hna : ao = none → ca = 0) (hnb : bo = none → cb = 0)
    (hca : LA.length ≤ ca) (hcb : LB.length ≤ cb) (h1 : LA.length ≤ 65536) (h2 : LB.length ≤ 65536) :
    Calls Try.prog 14 #[.slice ao LA.length ca, .slice bo LB.length cb] w fun e w' => RetL (mrg LA LB) e w' ∧ Below w.heap.size w w' := by
  go_enter Try.func14, Try.ntmps14
  go_wp2_with fail
  refine (mergeKeys_any ao bo LA LB ca cb w ha hb hna hnb hca hcb h1 h2).mono ?_
  rintro e w1 ⟨⟨ro, c, rfl, hr⟩, hb1⟩
  go_wp2
  go_ret
  exact ⟨⟨ro, c, rfl, hr⟩, hb1⟩

end Go.Proofs.Qxb6604791a
