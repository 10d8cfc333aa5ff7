/-
  The plain law of the sorted merge: no Go in sight.
-/
import Derived.Test.Qxb6604791aPlain
import Derived.Test.Qxb6604791aSorted
namespace Go.Proofs.Qxb6604791a

/-- A comparison of a total order. -/
structure IsCmp {α : Type} (f : α → α → Int) : Prop where
  anti : ∀ x y, f y x = - f x y
  eq : ∀ x y, f x y = 0 → x = y
  trans : ∀ x y z, f x y ≤ 0 → f y z ≤ 0 → f x z ≤ 0

theorem IsCmp.refl {α : Type} {f : α → α → Int} (h : IsCmp f) (x : α) : f x x = 0 := by have := h.anti x x; omega

theorem IsCmp.lt_le {α : Type} {f : α → α → Int} (h : IsCmp f) {x y z : α} (h1 : f x y < 0) (h2 : f y z ≤ 0) : f x z < 0 := by
  have h3 := h.trans x y z (by omega) h2
  by_cases e : f x z = 0
  · have := h.eq _ _ e
    subst this
    have := h.anti x y
    omega
  · omega
theorem IsCmp.le_lt {α : Type} {f : α → α → Int} (h : IsCmp f) {x y z : α} (h1 : f x y ≤ 0) (h2 : f y z < 0) : f x z < 0 := by
  have h3 := h.trans x y z h1 (by omega)
  by_cases e : f x z = 0
  · have := h.eq _ _ e
    subst this
    have := h.anti x y
    omega
  · omega

/-- First by f, then by g. -/
def lexC {α β : Type} (f : α → α → Int) (g : β → β → Int) (x y : α × β) : Int := if f x.1 y.1 != 0 then f x.1 y.1 else g x.2 y.2

theorem lexC_ne {α β : Type} {f : α → α → Int} {g : β → β → Int} {x y : α × β} (h : f x.1 y.1 ≠ 0) : lexC f g x y = f x.1 y.1 := by unfold lexC; rw [if_pos (by simpa using h)]
theorem lexC_eq {α β : Type} {f : α → α → Int} {g : β → β → Int} {x y : α × β} (h : f x.1 y.1 = 0) : lexC f g x y = g x.2 y.2 := by unfold lexC; rw [if_neg (by simpa using h)]

theorem IsCmp.lex {α β : Type} {f : α → α → Int} {g : β → β → Int} (hf : IsCmp f) (hg : IsCmp g) : IsCmp (lexC f g) where
  anti := fun x y => by
    have ha := hf.anti x.1 y.1
    by_cases e : f x.1 y.1 = 0
    · rw [lexC_eq e, lexC_eq (by omega), hg.anti]
    · rw [lexC_ne e, lexC_ne (by omega), ha]
  eq := fun x y h => by
    by_cases e : f x.1 y.1 = 0
    · rw [lexC_eq e] at h
      exact Prod.ext (hf.eq _ _ e) (hg.eq _ _ h)
    · rw [lexC_ne e] at h
      exact absurd h e
  trans := fun x y z h1 h2 => by
    by_cases e1 : f x.1 y.1 = 0
    · rw [lexC_eq e1] at h1
      have e := hf.eq _ _ e1
      by_cases e2 : f y.1 z.1 = 0
      · rw [lexC_eq e2] at h2
        rw [lexC_eq (by rw [e]; exact e2)]
        exact hg.trans _ _ _ h1 h2
      · rw [lexC_ne e2] at h2
        rw [lexC_ne (by rw [e]; exact e2), e]
        exact h2
    · rw [lexC_ne e1] at h1
      by_cases e2 : f y.1 z.1 = 0
      · have e := hf.eq _ _ e2
        rw [lexC_ne (by rw [← e]; exact e1), ← e]
        exact h1
      · rw [lexC_ne e2] at h2
        have := hf.lt_le (x := x.1) (y := y.1) (z := z.1) (by omega) h2
        rw [lexC_ne (by omega)]
        omega

theorem cmpBytes_anti : ∀ a b : List UInt8, Lib.compareBytes b a = - Lib.compareBytes a b
  | [], [] => rfl
  | [], _ :: _ => rfl
  | _ :: _, [] => rfl
  | a :: l, b :: r => by
    have ih := cmpBytes_anti l r
    simp only [Lib.compareBytes]
    by_cases h1 : a < b
    · have h2 : ¬ b < a := fun h => by have := UInt8.lt_iff_toNat_lt.1 h; have := UInt8.lt_iff_toNat_lt.1 h1; omega
      rw [if_neg h2, if_pos h1, if_pos h1]; rfl
    · by_cases h2 : b < a
      · rw [if_pos h2, if_neg h1, if_pos h2]
      · rw [if_neg h1, if_neg h2, if_neg h1, if_neg h2, ih]
theorem u8_eq {a b : UInt8} (h1 : ¬ a < b) (h2 : ¬ b < a) : a = b := by
  refine UInt8.toNat_inj.1 ?_
  have g1 : ¬ a.toNat < b.toNat := fun h => h1 (UInt8.lt_iff_toNat_lt.2 h)
  have g2 : ¬ b.toNat < a.toNat := fun h => h2 (UInt8.lt_iff_toNat_lt.2 h)
  omega
theorem cmpBytes_eq : ∀ a b : List UInt8, Lib.compareBytes a b = 0 → a = b
  | [], [], _ => rfl
  | [], _ :: _, h => by simp [Lib.compareBytes] at h
  | _ :: _, [], h => by simp [Lib.compareBytes] at h
  | a :: l, b :: r, h => by
    simp only [Lib.compareBytes] at h
    by_cases h1 : a < b
    · rw [if_pos h1] at h; cases h
    · by_cases h2 : b < a
      · rw [if_neg h1, if_pos h2] at h; cases h
      · rw [if_neg h1, if_neg h2] at h
        rw [u8_eq h1 h2, cmpBytes_eq l r h]
theorem cmpBytes_trans : ∀ a b c : List UInt8, Lib.compareBytes a b ≤ 0 → Lib.compareBytes b c ≤ 0 → Lib.compareBytes a c ≤ 0
  | [], _, [], _, _ => by simp [Lib.compareBytes]
  | [], _, _ :: _, _, _ => by simp [Lib.compareBytes]
  | _ :: _, [], _, h, _ => by simp [Lib.compareBytes] at h
  | _ :: _, _ :: _, [], _, h => by simp [Lib.compareBytes] at h
  | a :: l, b :: r, c :: s, h, h' => by
    simp only [Lib.compareBytes] at h h' ⊢
    by_cases h1 : a < b
    · have n1 := UInt8.lt_iff_toNat_lt.1 h1
      by_cases h2 : b < c
      · have n2 := UInt8.lt_iff_toNat_lt.1 h2
        rw [if_pos (UInt8.lt_iff_toNat_lt.2 (by omega))]; omega
      · rw [if_neg h2] at h'
        by_cases h3 : c < b
        · rw [if_pos h3] at h'; omega
        · have := u8_eq h2 h3
          subst this
          rw [if_pos h1]; omega
    · rw [if_neg h1] at h
      by_cases h2 : b < a
      · rw [if_pos h2] at h; omega
      · rw [if_neg h2] at h
        have := u8_eq h1 h2
        subst this
        by_cases h3 : a < c
        · rw [if_pos h3]; omega
        · rw [if_neg h3] at h' ⊢
          by_cases h4 : c < a
          · rw [if_pos h4] at h'; omega
          · rw [if_neg h4] at h' ⊢
            exact cmpBytes_trans l r s h h'
theorem cmpBytes_is : IsCmp Lib.compareBytes := ⟨cmpBytes_anti, cmpBytes_eq, cmpBytes_trans⟩

/-- A key as four texts. -/
abbrev T4 := List UInt8 × List UInt8 × List UInt8 × List UInt8
def key (k : HK) : T4 := (k.a.data.toList, k.c.data.toList, k.v.data.toList, k.l.data.toList)
def cmpT : T4 → T4 → Int := lexC Lib.compareBytes (lexC Lib.compareBytes (lexC Lib.compareBytes Lib.compareBytes))
theorem cmpT_is : IsCmp cmpT := cmpBytes_is.lex (cmpBytes_is.lex (cmpBytes_is.lex cmpBytes_is))
theorem cmpK_key (x y : HK) : cmpK x y = cmpT (key x) (key y) := rfl
theorem eqK_key (x y : HK) : eqK x y = true ↔ key x = key y := by
  unfold eqK key
  simp only [ByteArray.toList_eq, Bool.and_eq_true, beq_iff_eq, Prod.mk.injEq]
  constructor
  · rintro ⟨⟨⟨h1, h2⟩, h3⟩, h4⟩; exact ⟨h1, h2, h3, h4⟩
  · rintro ⟨h1, h2, h3, h4⟩; exact ⟨⟨⟨h1, h2⟩, h3⟩, h4⟩

/-- Every key stands before all that follow. -/
def Ord (l : List HK) : Prop := l.Pairwise fun x y => cmpK x y ≤ 0

theorem ord_of_adj : ∀ l : List HK, SortedN l.length (kAt l) → Ord l
  | [], _ => List.Pairwise.nil
  | [x], _ => List.pairwise_singleton _ _
  | x :: y :: l, h => by
    have h0 : cmpK x y ≤ 0 := h 0 (by simp)
    have ih : Ord (y :: l) := ord_of_adj (y :: l) (fun t ht => h (t + 1) (by simpa using ht))
    refine List.Pairwise.cons (fun z hz => ?_) ih
    rcases List.mem_cons.1 hz with rfl | hz
    · exact h0
    · have := List.rel_of_pairwise_cons ih hz
      rw [cmpK_key] at *
      exact cmpT_is.trans _ _ _ h0 this
theorem adj_of_ord : ∀ l : List HK, Ord l → SortedN l.length (kAt l)
  | [], _ => fun t ht => by simp at ht
  | [x], _ => fun t ht => by simp at ht
  | x :: y :: l, h => by
    intro t ht
    cases t with
    | zero => exact List.rel_of_pairwise_cons h (List.mem_cons_self ..)
    | succ t => exact adj_of_ord (y :: l) (List.Pairwise.of_cons h) t (by simpa using ht)

theorem mrg_perm : ∀ la lb : List HK, (mrg la lb).Perm (la ++ lb)
  | [], lb => List.Perm.refl _
  | x :: la, lb => by
    induction lb with
    | nil => rw [mrg_nil_right, List.append_nil]
    | cons y lb ih =>
      by_cases h : cmpK x y < 0
      · rw [mrg_lt h]
        exact (mrg_perm la (y :: lb)).cons x
      · rw [mrg_ge h]
        exact (ih.cons y).trans List.perm_middle.symm

theorem mrg_ord : ∀ la lb : List HK, Ord la → Ord lb → Ord (mrg la lb)
  | [], lb, _, h => h
  | x :: la, lb, ha, hb => by
    induction lb with
    | nil => rw [mrg_nil_right]; exact ha
    | cons y lb ih =>
      by_cases h : cmpK x y < 0
      · rw [mrg_lt h]
        refine List.Pairwise.cons (fun z hz => ?_) (mrg_ord la (y :: lb) (List.Pairwise.of_cons ha) hb)
        rcases List.mem_append.1 ((mrg_perm la (y :: lb)).mem_iff.1 hz) with hz | hz
        · exact List.rel_of_pairwise_cons ha hz
        · rcases List.mem_cons.1 hz with rfl | hz
          · omega
          · have := List.rel_of_pairwise_cons hb hz
            rw [cmpK_key] at *
            exact cmpT_is.trans _ _ _ (by omega) this
      · rw [mrg_ge h]
        have hyx : cmpK y x ≤ 0 := by rw [cmpK_key] at *; have := cmpT_is.anti (key x) (key y); omega
        refine List.Pairwise.cons (fun z hz => ?_) (ih (List.Pairwise.of_cons hb))
        rcases List.mem_append.1 ((mrg_perm (x :: la) lb).mem_iff.1 hz) with hz | hz
        · rcases List.mem_cons.1 hz with rfl | hz
          · exact hyx
          · have := List.rel_of_pairwise_cons ha hz
            rw [cmpK_key] at *
            exact cmpT_is.trans _ _ _ hyx this
        · exact List.rel_of_pairwise_cons hb hz

theorem kAt_here (p l : List HK) (x : HK) : kAt (p ++ x :: l) p.length = x := by simp [kAt]

/-- Where r holds the keys of la and lb together and all three stand in order, the head of r is the head of la or of lb. -/
theorem head_of {x : HK} {r la lb : List HK} (hr : Ord (x :: r)) (ha : Ord la) (hb : Ord lb) (hp : ((x :: r).map key).Perm ((la ++ lb).map key)) (hno : ∀ y l, la = y :: l → key y ≠ key x) : ∃ z l, lb = z :: l ∧ key z = key x := by
  have hmin : ∀ z ∈ la ++ lb, cmpT (key x) (key z) ≤ 0 := fun z hz => by
    have hm : key z ∈ (x :: r).map key := hp.mem_iff.2 (List.mem_map_of_mem hz)
    obtain ⟨z', hz', he⟩ := List.mem_map.1 hm
    rw [← he]
    rcases List.mem_cons.1 hz' with rfl | hz'
    · rw [cmpT_is.refl]; omega
    · exact List.rel_of_pairwise_cons hr hz'
  have hfirst : ∀ (l : List HK), Ord l → (∀ z ∈ l, cmpT (key x) (key z) ≤ 0) → (∃ z ∈ l, key z = key x) → ∃ y t, l = y :: t ∧ key y = key x := fun l hl hm ⟨z, hz, he⟩ => by
    cases l with
    | nil => cases hz
    | cons y t =>
      refine ⟨y, t, rfl, ?_⟩
      rcases List.mem_cons.1 hz with rfl | hz
      · exact he
      · have h1 : cmpT (key y) (key z) ≤ 0 := List.rel_of_pairwise_cons hl hz
        rw [he] at h1
        have h2 := hm y (List.mem_cons_self ..)
        have h3 := cmpT_is.anti (key x) (key y)
        exact cmpT_is.eq _ _ (by omega)
  have hm : key x ∈ (la ++ lb).map key := hp.mem_iff.1 (List.mem_cons_self ..)
  obtain ⟨z, hz, he⟩ := List.mem_map.1 hm
  rcases List.mem_append.1 hz with hz | hz
  · obtain ⟨y, t, hy, hk⟩ := hfirst la ha (fun z hz => hmin z (List.mem_append.2 (.inl hz))) ⟨z, hz, he⟩
    exact absurd hk (hno y t hy)
  · exact hfirst lb hb (fun z hz => hmin z (List.mem_append.2 (.inr hz))) ⟨z, hz, he⟩

theorem grN_true : ∀ (r la lb pr pa pb : List HK), Ord r → Ord la → Ord lb → (r.map key).Perm ((la ++ lb).map key) →
    grN (kAt (pa ++ la)) (kAt (pb ++ lb)) (kAt (pr ++ r)) (pa ++ la).length (pb ++ lb).length r.length pa.length pb.length pr.length = true
  | [], la, lb, pr, pa, pb, _, _, _, hp => by
    have h0 : la ++ lb = [] := List.map_eq_nil_iff.1 (List.nil_perm.1 hp)
    obtain ⟨rfl, rfl⟩ := List.append_eq_nil_iff.1 h0
    simp [grN]
  | x :: r, la, lb, pr, pa, pb, hr, ha, hb, hp => by
    have hr' := List.Pairwise.of_cons hr
    show (if pa.length < (pa ++ la).length ∧ eqK (kAt (pa ++ la) pa.length) (kAt (pr ++ x :: r) pr.length) = true then grN (kAt (pa ++ la)) (kAt (pb ++ lb)) (kAt (pr ++ x :: r)) (pa ++ la).length (pb ++ lb).length r.length (pa.length + 1) pb.length (pr.length + 1)
      else if pb.length < (pb ++ lb).length ∧ eqK (kAt (pb ++ lb) pb.length) (kAt (pr ++ x :: r) pr.length) = true then grN (kAt (pa ++ la)) (kAt (pb ++ lb)) (kAt (pr ++ x :: r)) (pa ++ la).length (pb ++ lb).length r.length pa.length (pb.length + 1) (pr.length + 1) else false) = true
    rw [kAt_here]
    by_cases h1 : ∃ y l, la = y :: l ∧ key y = key x
    · obtain ⟨y, l, rfl, he⟩ := h1
      rw [kAt_here, if_pos ⟨by simp, (eqK_key _ _).2 he⟩]
      have hp' : (r.map key).Perm ((l ++ lb).map key) := by
        have h2 : (key x :: r.map key).Perm (key y :: (l ++ lb).map key) := hp
        rw [he] at h2
        exact h2.cons_inv
      have := grN_true r l lb (pr ++ [x]) (pa ++ [y]) pb hr' (List.Pairwise.of_cons ha) hb hp'
      simpa using this
    · have hno : ∀ y l, la = y :: l → key y ≠ key x := fun y l e he => h1 ⟨y, l, e, he⟩
      rw [if_neg]
      · obtain ⟨z, l, rfl, he⟩ := head_of hr ha hb hp hno
        rw [kAt_here, if_pos ⟨by simp, (eqK_key _ _).2 he⟩]
        have hp' : (r.map key).Perm ((la ++ l).map key) := by
          have h2 : (key x :: r.map key).Perm (key z :: (la ++ l).map key) := hp.trans ((List.perm_middle (a := z) (l₁ := la) (l₂ := l)).map key)
          rw [he] at h2
          exact h2.cons_inv
        have := grN_true r la l (pr ++ [x]) pa (pb ++ [z]) hr' ha (List.Pairwise.of_cons hb) hp'
        simpa using this
      · rintro ⟨h2, h3⟩
        cases la with
        | nil => simp at h2
        | cons y l =>
          rw [kAt_here] at h3
          exact hno y l rfl ((eqK_key _ _).1 h3)

/-- THE PLAIN LAW: the merge of two sorted lists is sorted, and the greedy match accepts it. -/
theorem merge_law (LA LB : List HK) (ha : SortedN LA.length (kAt LA)) (hb : SortedN LB.length (kAt LB)) :
    SortedN (mrg LA LB).length (kAt (mrg LA LB)) ∧ grN (kAt LA) (kAt LB) (kAt (mrg LA LB)) LA.length LB.length (mrg LA LB).length 0 0 0 = true := by
  have oa := ord_of_adj LA ha
  have ob := ord_of_adj LB hb
  have om := mrg_ord LA LB oa ob
  exact ⟨adj_of_ord _ om, grN_true (mrg LA LB) LA LB [] [] [] om oa ob ((mrg_perm LA LB).map key)⟩

end Go.Proofs.Qxb6604791a
