import Derived.Test.Qxb6600852aLook2
namespace Go.Proofs.Qxb6600852a
open Go.ChangeShapes Go.WideShapes Go.ChangeAt Go.RowKit
set_option linter.unusedVariables false

/-- r is the first index from j on whose name is the wanted one, or -1. -/
def FirstFrom (N : Nat → ByteArray) (name : ByteArray) (n j : Nat) (r : Int) : Prop :=
  (r = -1 ∧ ∀ i, j ≤ i → i < n → eqN (N i) name = false) ∨ ∃ k : Nat, j ≤ k ∧ k < n ∧ r = (k : Int) ∧ eqN (N k) name = true ∧ ∀ i, j ≤ i → i < k → eqN (N i) name = false

theorem FirstFrom.start (N : Nat → ByteArray) (name : ByteArray) (n : Nat) : FirstFrom N name n n (-1) := .inl ⟨rfl, fun i h1 h2 => by omega⟩
theorem FirstFrom.hit {N : Nat → ByteArray} {name : ByteArray} {n q : Nat} (hq : q < n) (h : eqN (N q) name = true) : FirstFrom N name n q (q : Int) := .inr ⟨q, Nat.le_refl _, hq, rfl, h, fun i h1 h2 => by omega⟩
theorem FirstFrom.miss {N : Nat → ByteArray} {name : ByteArray} {n q : Nat} {r : Int} (h : eqN (N q) name = false) (hr : FirstFrom N name n (q + 1) r) : FirstFrom N name n q r := by
  rcases hr with ⟨rfl, hno⟩ | ⟨k, h1, h2, rfl, hy, hno⟩
  · refine .inl ⟨rfl, fun i h1 h2 => ?_⟩
    by_cases e : i = q
    · subst e; exact h
    · exact hno i (by omega) h2
  · refine .inr ⟨k, by omega, h2, rfl, hy, fun i h3 h4 => ?_⟩
    by_cases e : i = q
    · subst e; exact h
    · exact hno i (by omega) h4

/-- What ZZLookup handed back, cell by cell. -/
def GotIs (N T : Nat → ByteArray) (m : Nat) (name : ByteArray) (n : Nat) (a t d : ByteArray) (od ok : Bool) : Prop :=
  (ok = false ∧ a = ⟨#[]⟩ ∧ t = ⟨#[]⟩ ∧ d = ⟨#[]⟩ ∧ od = false ∧ ∀ i, i < n → eqN (N i) name = false) ∨
  ∃ k : Nat, k < n ∧ ok = true ∧ a = N k ∧ t = tt T m k ∧ d = itoaS k ∧ od = ((k : Int) % 2 == 1) ∧ eqN (N k) name = true ∧ ∀ i, i < k → eqN (N i) name = false

theorem RetLk.got {N T : Nat → ByteArray} {m : Nat} {name : ByteArray} {n : Nat} {e : Ending} (h : RetLk N T m name n e) :
    ∃ a t d od ok, e = .returned (.tuple #[.agg #[.string a, .string t, .string d, .slice none 0 0, .bool od, .slice none 0 0], .bool ok]) ∧ GotIs N T m name n a t d od ok := by
  rcases h with ⟨rfl, hno⟩ | ⟨k, hk, rfl, hy, hno⟩
  · exact ⟨_, _, _, _, _, rfl, .inl ⟨rfl, rfl, rfl, rfl, rfl, hno⟩⟩
  · exact ⟨_, _, _, _, _, rfl, .inr ⟨k, hk, rfl, rfl, rfl, rfl, rfl, hy, hno⟩⟩

set_option maxRecDepth 100000 in
set_option maxHeartbeats 2000000 in
theorem law_walk (no to : Option Addr) (n m ca cb : Nat) (N T : Nat → ByteArray) (name : ByteArray) (w : World) (hN : IsStrs w no n N) (hT : IsStrs w to m T) :
    Calls Try.prog 4 #[.slice no n ca, .slice to m cb, .string name] w fun e w' => e = .returned (.bool true) ∧ Below w.heap.size w w' := by
  obtain ⟨i0, hi0, hz0, hz1, hz2⟩ := info_parts Try.info30
  go_enter Try.func4, Try.ntmps4
  go_wp2_with fail
  refine (zzBytes_any no to n m ca cb N T name w hN hT).mono ?_
  rintro e w1 ⟨⟨r, rfl, -⟩, rfl⟩
  cases r with
  | false =>
    go_wp2
    go_ret
    exact ⟨rfl, Below.refl _ _⟩
  | true =>
    go_wp2_with fail
    refine (zzSizes_any no to n m ca cb N T name w hN hT).mono ?_
    rintro e w1 ⟨⟨r, rfl, hr⟩, rfl⟩
    cases r with
    | false =>
      go_wp2
      go_ret
      exact ⟨rfl, Below.refl _ _⟩
    | true =>
      obtain ⟨hn, hm⟩ := hr rfl
      clear hr
      go_wp2_with fail
      refine (clone_any no n ca N w hN hn).mono ?_
      rintro e w1 ⟨⟨no1, rfl, hN1⟩, hb1⟩
      go_wp2_with fail
      refine (clone_any to m cb T w1 (hT.kept hb1) hm).mono ?_
      rintro e w2 ⟨⟨to1, rfl, hT2⟩, hb2⟩
      have hN2 := hN1.kept hb2
      have hbel2 := hb1.trans (hb2.mono hb1.size)
      clear hN hT hN1 hb1 hb2
      go_wp2_with fail
      refine (table_any no1 to1 n m n m N T w2 hN2 hT2 hn hm).mono ?_
      rintro e w3 ⟨⟨g, rfl, hrow⟩, hb3⟩
      go_wp2_with fail
      refine (zzLookup_any g n m N T name w3 hrow hn).mono ?_
      rintro e w4 ⟨hr, hb4⟩
      obtain ⟨a, t, d, od, ok, rfl, hgot⟩ := hr.got
      have HG : Hid (GotIs N T m name n a t d od ok) := hgot
      have hb34 := hb3.trans (hb4.mono hb3.size)
      have hN4 := hN2.kept hb34
      have hT4 := hT2.kept hb34
      have hbel4 := hbel2.trans (hb34.mono hbel2.size)
      have hall : Below w4.heap.size w4 (w4.alloc (.cells #[.string a, .string t, .string d, .slice none 0 0, .bool od, .slice none 0 0] 30)) := (Below.refl _ _).alloc (Nat.le_refl _) _
      have hlt5 : w4.heap.size < (w4.alloc (.cells #[.string a, .string t, .string d, .slice none 0 0, .bool od, .slice none 0 0] 30)).heap.size := by simp
      have hc5 : ∀ j, (w4.alloc (.cells #[.string a, .string t, .string d, .slice none 0 0, .bool od, .slice none 0 0] 30)).cell? ⟨w4.heap.size, j, none⟩ = #[Value.string a, .string t, .string d, .slice none 0 0, .bool od, .slice none 0 0][j]? := fun j => World.cell?_alloc_at _ _ _ _ rfl
      clear hgot hr hb3 hb4 hb34 hN2 hT2 hbel2 hrow
      go_wp2
      have c0 := hc5 0
      have c1 := hc5 1
      have c2 := hc5 2
      have c3 := hc5 3
      have c4 := hc5 4
      have c5 := hc5 5
      have hN5 := hN4.kept hall
      have hT5 := hT4.kept hall
      have hbel5 := hbel4.trans (hall.mono hbel4.size)
      clear hc5 hN4 hT4 hbel4 hall
      generalize w4.alloc (.cells #[.string a, .string t, .string d, .slice none 0 0, .bool od, .slice none 0 0] 30) = w5 at *
      simp at c0 c1 c2 c3 c4 c5
      go_loopw [10, 11] (fun ix i wr => ∃ (j : Nat) (r : Int), j ≤ n ∧ i = .int .i64 ((j : Int) - 1) ∧ ix = .int .i64 r ∧ FirstFrom N name n j r ∧ w5 = wr) (fun _ i _ => (intOf i + 1).toNat)
      case atStart => exact ⟨n, -1, Nat.le_refl _, rfl, rfl, FirstFrom.start _ _ _, rfl⟩
      case round =>
        obtain ⟨j, r, hj, rfl, rfl, hff, rfl⟩ := hrel
        cases j with
        | succ q =>
          obtain ⟨nb, noff, rfl, hnb, hns⟩ := hN5.2 (by omega)
          have hcell := hns q (by omega)
          have hq : ((q + 1 : Nat) : Int) - 1 = (q : Int) := by omega
          rw [hq]
          have hqn : q < n := by omega
          clear hns
          cases heq : eqN (N q) name with
          | true =>
            have hd : ((N q).toList == name.toList) = true := heq
            have HF : Hid (FirstFrom N name n q (q : Int)) := FirstFrom.hit hqn heq
            clear hff heq
            go_wp2
            go_roundw
            case rel => exact ⟨q, q, by omega, rfl, rfl, HF.out, by first | rfl | trivial⟩
            case measure => simp [intOf]
          | false =>
            have hd : ((N q).toList == name.toList) = false := heq
            have HF : Hid (FirstFrom N name n q r) := FirstFrom.miss heq hff
            clear hff heq
            go_wp2
            go_roundw
            case rel => exact ⟨q, r, by omega, rfl, rfl, HF.out, by first | rfl | trivial⟩
            case measure => simp [intOf]
        | zero =>
          rcases hff with ⟨rfl, hno⟩ | ⟨k, -, hk, rfl, hy, hno⟩
          · rcases HG.out with ⟨rfl, rfl, rfl, rfl, rfl, -⟩ | ⟨k, hk, -, -, -, -, -, hy, -⟩
            · go_wp2_with (go_at_call 13; refine (zero_any _).mono ?_; rintro e w6 ⟨rfl, hb6⟩)
              go_ret
              exact ⟨rfl, hbel5.trans (hb6.mono hbel5.size)⟩
            · have := hno k (Nat.zero_le _) hk
              rw [hy] at this
              cases this
          · rcases HG.out with ⟨-, -, -, -, -, hno2⟩ | ⟨k2, hk2, rfl, ha, ht, hd, ho, hy2, hno2⟩
            · have := hno2 k hk
              rw [hy] at this
              cases this
            · have e : k2 = k := by
                rcases Nat.lt_trichotomy k2 k with h | h | h
                · have := hno k2 (Nat.zero_le _) h; rw [hy2] at this; cases this
                · exact h
                · have := hno2 k h; rw [hy] at this; cases this
              subst e
              have hrow : ∀ w', Below w5.heap.size w5 w' → Calls Try.prog 15 #[.slice no1 n n, .slice to1 m m, .int .i64 k2] w' fun e w'' => e = .returned (.agg #[.string a, .string t, .string d, .slice none 0 0, .bool od, .slice none 0 0]) ∧ Below w'.heap.size w' w'' := fun w' hb => by
                have := row_any no1 to1 n m n m k2 N T w' (hN5.kept hb) (hT5.kept hb) hk2 hn hm
                rwa [rowV, scV, ← ha, ← ht, ← hd, ← ho] at this
              have hsame := same_any a t d od
              clear HG ha ht hd ho hy hy2 hno hno2
              obtain ⟨ov, hov⟩ := exists_ov w5
              have hoc := hov.cell
              go_wp2
              refine hov.all (by kernel_rfl) (by kernel_rfl) ?_
              repeat (go_big_quiet_step (first | (go_at_call 15; exact hov.call (hrow _ (hov.below _))) | (go_at_call 14; exact hov.call (hsame _))))
              refine wpQuiet_nil ?_
              intro w' hw'
              obtain ⟨w6, hw''⟩ := hw'
              subst hw''
              go_wp2
              go_ret
              exact ⟨rfl, hbel5.trans ((hov.below w6).mono hbel5.size)⟩

end Go.Proofs.Qxb6600852a
