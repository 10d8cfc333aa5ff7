/-
  No cell of these rows narrows 'for every input' (looked for: loops, veiled, ifaces, maps, wideKeys, modest, calm, conditions, laid).
  DERIVED. THE GIVEN ROWS OF THIS SEAT. 5 by the template 'for every input the law returns true; each argument reads behind the call as it read before'; 0 by the template 'total and deterministic' (their statements: Qxb6605215aTotals.lean).
  GIVEN WITH THE SEED: the statements are not yours to turn. If you find one false, say at which input.
  Laid BY PROGRAM, IN A SANDBOX (cutbox-rows.mjs): the forced cells as the released guide's own fill.sh prints them over the translation a65425bf6997a64e… (all of the seat's roots in one cut). By AI agents, Wed Nov 11 2026. No macro, syntax, notation, axiom, sorry.
-/
import Derived.Test.Qxb6605215aChecked
import GoSem.Claim
import GoSem.ClaimJoined
import GoSem.ClaimMapViews
import Derived.JoinedTies
import Derived.KernelRfl
namespace Go.Proofs.Qxb6605215a
/- THE CELL 'sum', in the pinned program and in every row, IS THE sha256 OF THE DUMP (.gsa) THAT Qxb6605215aProg.lean LOADS. Nothing in Lean hashes anything: it is a label: what it is worth is what the hold of that sum in a sandbox is worth. -/
noncomputable def Try.pinned : Pinned := { name := "qxb6605215a", sum := "a65425bf6997a64e1850078e2b48d78e03cbdd66c0861c6baf56e4a773b12712", checked := Try.checked }
namespace Rows
def none {H : Type} : Left H := { results := [], args := [] }

/-- 'zzlaws_internal_dtls_b1.FnWindowMarkSetModel': WHATEVER THE INPUT: true; the input reads as it did. -/
def fnWindowMarkSetModelSpec : ChangeSpec := { name := "fnWindowMarkSetModel", fn := fun _ => fun
  | [d1, d2, d3, d4] => { results := [.lit (.bool true)], args := [d1, d2, d3, d4] }
  | _ => none }
def fnWindowMarkSetModelRow : OpenClaim := { program := "qxb6605215a", sum := "a65425bf6997a64e1850078e2b48d78e03cbdd66c0861c6baf56e4a773b12712", func := "example.com/trickletree/trickletree/zzlaws_internal_dtls_b1.FnWindowMarkSetModel", spec := "fnWindowMarkSetModel", apart := false }
def FnWindowMarkSetModelSaid : Prop := fnWindowMarkSetModelRow.holds Try.pinned (OpenSpec.ofChange fnWindowMarkSetModelSpec)

/-- ITS FALSE NEIGHBOUR: 'it returns false'. Refute it at one input. -/
def fnWindowMarkSetModelWrong : ChangeSpec := { name := "fnWindowMarkSetModel", fn := fun _ => fun
  | [d1, d2, d3, d4] => { results := [.lit (.bool false)], args := [d1, d2, d3, d4] }
  | _ => none }
def FnWindowMarkSetModelWrongFalsely : Prop := fnWindowMarkSetModelRow.holds Try.pinned (OpenSpec.ofChange fnWindowMarkSetModelWrong)

/-- 'zzlaws_internal_dtls_b1.FnWindowMarkOrderFree': WHATEVER THE INPUT: true; the input reads as it did. -/
def fnWindowMarkOrderFreeSpec : ChangeSpec := { name := "fnWindowMarkOrderFree", fn := fun _ => fun
  | [d1, d2, d3, d4, d5] => { results := [.lit (.bool true)], args := [d1, d2, d3, d4, d5] }
  | _ => none }
def fnWindowMarkOrderFreeRow : OpenClaim := { program := "qxb6605215a", sum := "a65425bf6997a64e1850078e2b48d78e03cbdd66c0861c6baf56e4a773b12712", func := "example.com/trickletree/trickletree/zzlaws_internal_dtls_b1.FnWindowMarkOrderFree", spec := "fnWindowMarkOrderFree", apart := false }
def FnWindowMarkOrderFreeSaid : Prop := fnWindowMarkOrderFreeRow.holds Try.pinned (OpenSpec.ofChange fnWindowMarkOrderFreeSpec)

/-- ITS FALSE NEIGHBOUR: 'it returns false'. Refute it at one input. -/
def fnWindowMarkOrderFreeWrong : ChangeSpec := { name := "fnWindowMarkOrderFree", fn := fun _ => fun
  | [d1, d2, d3, d4, d5] => { results := [.lit (.bool false)], args := [d1, d2, d3, d4, d5] }
  | _ => none }
def FnWindowMarkOrderFreeWrongFalsely : Prop := fnWindowMarkOrderFreeRow.holds Try.pinned (OpenSpec.ofChange fnWindowMarkOrderFreeWrong)

/-- 'zzlaws_internal_dtls_b1.FnWindowFreshExact': WHATEVER THE INPUT: true; the input reads as it did. -/
def fnWindowFreshExactSpec : ChangeSpec := { name := "fnWindowFreshExact", fn := fun _ => fun
  | [d1, d2, d3, d4] => { results := [.lit (.bool true)], args := [d1, d2, d3, d4] }
  | _ => none }
def fnWindowFreshExactRow : OpenClaim := { program := "qxb6605215a", sum := "a65425bf6997a64e1850078e2b48d78e03cbdd66c0861c6baf56e4a773b12712", func := "example.com/trickletree/trickletree/zzlaws_internal_dtls_b1.FnWindowFreshExact", spec := "fnWindowFreshExact", apart := false }
def FnWindowFreshExactSaid : Prop := fnWindowFreshExactRow.holds Try.pinned (OpenSpec.ofChange fnWindowFreshExactSpec)

/-- ITS FALSE NEIGHBOUR: 'it returns false'. Refute it at one input. -/
def fnWindowFreshExactWrong : ChangeSpec := { name := "fnWindowFreshExact", fn := fun _ => fun
  | [d1, d2, d3, d4] => { results := [.lit (.bool false)], args := [d1, d2, d3, d4] }
  | _ => none }
def FnWindowFreshExactWrongFalsely : Prop := fnWindowFreshExactRow.holds Try.pinned (OpenSpec.ofChange fnWindowFreshExactWrong)

/-- 'zzlaws_internal_dtls_b1.FnWindowReplayScript': WHATEVER THE INPUT: true; the input reads as it did. -/
def fnWindowReplayScriptSpec : ChangeSpec := { name := "fnWindowReplayScript", fn := fun _ => fun
  | [d] => { results := [.lit (.bool true)], args := [d] }
  | _ => none }
def fnWindowReplayScriptRow : OpenClaim := { program := "qxb6605215a", sum := "a65425bf6997a64e1850078e2b48d78e03cbdd66c0861c6baf56e4a773b12712", func := "example.com/trickletree/trickletree/zzlaws_internal_dtls_b1.FnWindowReplayScript", spec := "fnWindowReplayScript", apart := false }
def FnWindowReplayScriptSaid : Prop := fnWindowReplayScriptRow.holds Try.pinned (OpenSpec.ofChange fnWindowReplayScriptSpec)

/-- ITS FALSE NEIGHBOUR: 'it returns false'. Refute it at one input. -/
def fnWindowReplayScriptWrong : ChangeSpec := { name := "fnWindowReplayScript", fn := fun _ => fun
  | [d] => { results := [.lit (.bool false)], args := [d] }
  | _ => none }
def FnWindowReplayScriptWrongFalsely : Prop := fnWindowReplayScriptRow.holds Try.pinned (OpenSpec.ofChange fnWindowReplayScriptWrong)

/-- 'zzlaws_internal_dtls_b1.FnReaderBytesScript': WHATEVER THE INPUT: true; the input reads as it did. -/
def fnReaderBytesScriptSpec : ChangeSpec := { name := "fnReaderBytesScript", fn := fun _ => fun
  | [d1, d2] => { results := [.lit (.bool true)], args := [d1, d2] }
  | _ => none }
def fnReaderBytesScriptRow : OpenClaim := { program := "qxb6605215a", sum := "a65425bf6997a64e1850078e2b48d78e03cbdd66c0861c6baf56e4a773b12712", func := "example.com/trickletree/trickletree/zzlaws_internal_dtls_b1.FnReaderBytesScript", spec := "fnReaderBytesScript", apart := false }
def FnReaderBytesScriptSaid : Prop := fnReaderBytesScriptRow.holds Try.pinned (OpenSpec.ofChange fnReaderBytesScriptSpec)

/-- ITS FALSE NEIGHBOUR: 'it returns false'. Refute it at one input. -/
def fnReaderBytesScriptWrong : ChangeSpec := { name := "fnReaderBytesScript", fn := fun _ => fun
  | [d1, d2] => { results := [.lit (.bool false)], args := [d1, d2] }
  | _ => none }
def FnReaderBytesScriptWrongFalsely : Prop := fnReaderBytesScriptRow.holds Try.pinned (OpenSpec.ofChange fnReaderBytesScriptWrong)

end Rows
end Go.Proofs.Qxb6605215a
