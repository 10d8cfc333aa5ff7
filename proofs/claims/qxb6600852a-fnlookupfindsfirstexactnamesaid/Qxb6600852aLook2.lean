import Derived.Test.Qxb6600852aLook
namespace Go.Proofs.Qxb6600852a
open Go.ChangeShapes Go.WideShapes Go.ChangeAt Go.RowKit
set_option linter.unusedVariables false

set_option maxRecDepth 100000 in
set_option maxHeartbeats 1000000 in
theorem zzLookup_any (g n m : Nat) (N T : Nat → ByteArray) (name : ByteArray) (w : World) (ht : TRow w g n n N T m) (hn : n ≤ 65536) :
    Calls Try.prog 12 #[.slice (some ⟨g, 0, none⟩) n n, .string name] w fun e w' => RetLk N T m name n e ∧ Below w.heap.size w w' := by
  obtain ⟨i0, hi0, hz0, hz1, hz2⟩ := info_parts Try.info30
  have hfr := Fresh6.start w #[.string ⟨#[]⟩, .string ⟨#[]⟩, .string ⟨#[]⟩, .slice none 0 0, .bool false, .slice none 0 0] 30 rfl
  have ht1 := ht.kept hfr.bel
  have hix := lookup_any g n m N T name _ ht1 hn
  go_enter Try.func12, Try.ntmps12
  go_wp2_with fail
  refine hix.mono ?_
  clear hix
  rintro e w1 ⟨hr, hb1⟩
  have hfr1 := hfr.kept hb1
  clear hfr ht1 hb1 ht
  obtain ⟨v0, v1, v2, v3, v4, v5, c0, c1, c2, c3, c4, c5⟩ := hfr1.six
  have hff := hfr1.frozen
  rcases hr with ⟨rfl, hno⟩ | ⟨k, hk, rfl, hy, hno⟩
  · unfold scV
    go_wp2
    obtain ⟨hbel, e0, e1, e2, e3, e4, e5⟩ := hfr1.laid ⟨#[]⟩ ⟨#[]⟩ ⟨#[]⟩ false
    show bodyPost Try.prog Try.f12 _ _ _ (lay6 w1 w.heap.size 0 ⟨#[]⟩ ⟨#[]⟩ ⟨#[]⟩ false)
    generalize lay6 w1 w.heap.size 0 ⟨#[]⟩ ⟨#[]⟩ ⟨#[]⟩ false = w6 at *
    exact bodyPost_ret (v := .tuple #[scV ⟨#[]⟩ ⟨#[]⟩ ⟨#[]⟩ false, .bool false]) (by simp [results, Try.results12, go_sem, scV, e0, e1, e2, e3, e4, e5]) rfl ⟨.inl ⟨rfl, hno⟩, hbel⟩
  · have HR : Hid (RetLk N T m name n (.returned (.tuple #[rowV N T m k, .bool true]))) := .inr ⟨k, hk, rfl, hy, hno⟩
    unfold rowV at HR ⊢
    obtain ⟨od, hod⟩ : ∃ od, od = ((k : Int) % 2 == 1) := ⟨_, rfl⟩
    obtain ⟨a, ha⟩ : ∃ a, a = N k := ⟨_, rfl⟩
    obtain ⟨t, htt⟩ : ∃ t, t = tt T m k := ⟨_, rfl⟩
    obtain ⟨d, hd⟩ : ∃ d, d = itoaS k := ⟨_, rfl⟩
    rw [← hod, ← ha, ← htt, ← hd] at HR ⊢
    clear hod ha htt hd hy hno
    unfold scV
    go_wp2
    obtain ⟨hbel, e0, e1, e2, e3, e4, e5⟩ := hfr1.laid a t d od
    show bodyPost Try.prog Try.f12 _ _ _ (lay6 w1 w.heap.size 0 a t d od)
    generalize lay6 w1 w.heap.size 0 a t d od = w6 at *
    exact bodyPost_ret (v := .tuple #[scV a t d od, .bool true]) (by simp [results, Try.results12, go_sem, scV, e0, e1, e2, e3, e4, e5]) rfl ⟨HR.out, hbel⟩

theorem zero_any (w : World) :
    Calls Try.prog 13 #[.agg #[.string ⟨#[]⟩, .string ⟨#[]⟩, .string ⟨#[]⟩, .slice none 0 0, .bool false, .slice none 0 0]] w fun e w' => e = .returned (.bool true) ∧ Below w.heap.size w w' := by
  have hnil := nil24
  go_enter Try.func13, Try.ntmps13
  go_wp2
  go_ret
  exact ⟨rfl, (Below.refl _ _).alloc (Nat.le_refl _) _⟩

set_option maxRecDepth 100000 in
set_option maxHeartbeats 2000000 in
theorem same_any (a t d : ByteArray) (od : Bool) (w : World) :
    Calls Try.prog 14 #[.agg #[.string a, .string t, .string d, .slice none 0 0, .bool od, .slice none 0 0], .agg #[.string a, .string t, .string d, .slice none 0 0, .bool od, .slice none 0 0]] w fun e w' => e = .returned (.bool true) ∧ Below w.heap.size w w' := by
  have hnil := nil24
  have ha : (a.toList == a.toList) = true := by simp
  have ht : (t.toList == t.toList) = true := by simp
  have hd : (d.toList == d.toList) = true := by simp
  go_enter Try.func14, Try.ntmps14
  go_wp2
  go_ret
  exact ⟨rfl, ((Below.refl _ _).alloc (Nat.le_refl _) _).alloc (by simp) _⟩

end Go.Proofs.Qxb6600852a
