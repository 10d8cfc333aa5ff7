/-
  No cell of these rows narrows 'for every input' (looked for: loops, veiled, ifaces, maps, wideKeys, modest, calm, conditions, laid).
  DERIVED. THE GIVEN ROWS OF THIS SEAT. 3 by the template 'for every input the law returns true; each argument reads behind the call as it read before'; 0 by the template 'total and deterministic' (their statements: Qxb6600852aTotals.lean).
  GIVEN WITH THE SEED: the statements are not yours to turn. If you find one false, say at which input.
  Laid BY PROGRAM, IN A SANDBOX (cutbox-rows.mjs): the forced cells as the released guide's own fill.sh prints them over the translation d4a53f92d0b19b2a… (all of the seat's roots in one cut). By AI agents, Wed Nov 11 2026. No macro, syntax, notation, axiom, sorry.
-/
import Derived.Test.Qxb6600852aChecked
import GoSem.Claim
import GoSem.ClaimJoined
import GoSem.ClaimMapViews
import Derived.JoinedTies
import Derived.KernelRfl
namespace Go.Proofs.Qxb6600852a
/- THE CELL 'sum', in the pinned program and in every row, IS THE sha256 OF THE DUMP (.gsa) THAT Qxb6600852aProg.lean LOADS. Nothing in Lean hashes anything: it is a label: what it is worth is what the hold of that sum in a sandbox is worth. -/
noncomputable def Try.pinned : Pinned := { name := "qxb6600852a", sum := "d4a53f92d0b19b2a057a84707174a4e66e76ff6bf8e05600ef34f73a9e264828", checked := Try.checked }
namespace Rows
def none {H : Type} : Left H := { results := [], args := [] }

/-- 'zzlaws_root_b1.FnIsScopeTokenConcatenation': WHATEVER THE INPUT: true; the input reads as it did. -/
def fnIsScopeTokenConcatenationSpec : ChangeSpec := { name := "fnIsScopeTokenConcatenation", fn := fun _ => fun
  | [d1, d2] => { results := [.lit (.bool true)], args := [d1, d2] }
  | _ => none }
def fnIsScopeTokenConcatenationRow : OpenClaim := { program := "qxb6600852a", sum := "d4a53f92d0b19b2a057a84707174a4e66e76ff6bf8e05600ef34f73a9e264828", func := "example.com/exact-claims/exact-claims/zzlaws_root_b1.FnIsScopeTokenConcatenation", spec := "fnIsScopeTokenConcatenation", apart := false }
def FnIsScopeTokenConcatenationSaid : Prop := fnIsScopeTokenConcatenationRow.holds Try.pinned (OpenSpec.ofChange fnIsScopeTokenConcatenationSpec)

/-- ITS FALSE NEIGHBOUR: 'it returns false'. Refute it at one input. -/
def fnIsScopeTokenConcatenationWrong : ChangeSpec := { name := "fnIsScopeTokenConcatenation", fn := fun _ => fun
  | [d1, d2] => { results := [.lit (.bool false)], args := [d1, d2] }
  | _ => none }
def FnIsScopeTokenConcatenationWrongFalsely : Prop := fnIsScopeTokenConcatenationRow.holds Try.pinned (OpenSpec.ofChange fnIsScopeTokenConcatenationWrong)

/-- 'zzlaws_root_b1.FnLookupFindsFirstExactName': WHATEVER THE INPUT: true; the input reads as it did. -/
def fnLookupFindsFirstExactNameSpec : ChangeSpec := { name := "fnLookupFindsFirstExactName", fn := fun _ => fun
  | [d1, d2, d3] => { results := [.lit (.bool true)], args := [d1, d2, d3] }
  | _ => none }
def fnLookupFindsFirstExactNameRow : OpenClaim := { program := "qxb6600852a", sum := "d4a53f92d0b19b2a057a84707174a4e66e76ff6bf8e05600ef34f73a9e264828", func := "example.com/exact-claims/exact-claims/zzlaws_root_b1.FnLookupFindsFirstExactName", spec := "fnLookupFindsFirstExactName", unfollowed := true, recurses := true, apart := false }
def FnLookupFindsFirstExactNameSaid : Prop := fnLookupFindsFirstExactNameRow.holds Try.pinned (OpenSpec.ofChange fnLookupFindsFirstExactNameSpec)

/-- ITS FALSE NEIGHBOUR: 'it returns false'. Refute it at one input. -/
def fnLookupFindsFirstExactNameWrong : ChangeSpec := { name := "fnLookupFindsFirstExactName", fn := fun _ => fun
  | [d1, d2, d3] => { results := [.lit (.bool false)], args := [d1, d2, d3] }
  | _ => none }
def FnLookupFindsFirstExactNameWrongFalsely : Prop := fnLookupFindsFirstExactNameRow.holds Try.pinned (OpenSpec.ofChange fnLookupFindsFirstExactNameWrong)

/-- 'zzlaws_root_b1.FnLookupOverConcatenation': WHATEVER THE INPUT: true; the input reads as it did. -/
def fnLookupOverConcatenationSpec : ChangeSpec := { name := "fnLookupOverConcatenation", fn := fun _ => fun
  | [d1, d2, d3, d4] => { results := [.lit (.bool true)], args := [d1, d2, d3, d4] }
  | _ => none }
def fnLookupOverConcatenationRow : OpenClaim := { program := "qxb6600852a", sum := "d4a53f92d0b19b2a057a84707174a4e66e76ff6bf8e05600ef34f73a9e264828", func := "example.com/exact-claims/exact-claims/zzlaws_root_b1.FnLookupOverConcatenation", spec := "fnLookupOverConcatenation", unfollowed := true, recurses := true, apart := false }
def FnLookupOverConcatenationSaid : Prop := fnLookupOverConcatenationRow.holds Try.pinned (OpenSpec.ofChange fnLookupOverConcatenationSpec)

/-- ITS FALSE NEIGHBOUR: 'it returns false'. Refute it at one input. -/
def fnLookupOverConcatenationWrong : ChangeSpec := { name := "fnLookupOverConcatenation", fn := fun _ => fun
  | [d1, d2, d3, d4] => { results := [.lit (.bool false)], args := [d1, d2, d3, d4] }
  | _ => none }
def FnLookupOverConcatenationWrongFalsely : Prop := fnLookupOverConcatenationRow.holds Try.pinned (OpenSpec.ofChange fnLookupOverConcatenationWrong)

end Rows
end Go.Proofs.Qxb6600852a
