/-
  No cell of these rows narrows 'for every input' (looked for: loops, veiled, ifaces, maps, wideKeys, modest, calm, conditions, laid).
  DERIVED. THE GIVEN ROWS OF THIS SEAT. 2 by the template 'for every input the law returns true; each argument reads behind the call as it read before'; 0 by the template 'total and deterministic' (their statements: Qxb6625794aTotals.lean).
  GIVEN WITH THE SEED: the statements are not yours to turn. If you find one false, say at which input.
  Laid BY PROGRAM, IN A SANDBOX (cutbox-rows.mjs): the forced cells as the released guide's own fill.sh prints them over the translation b0052a9984fc034f… (all of the seat's roots in one cut). By AI agents, Wed Nov 11 2026. No macro, syntax, notation, axiom, sorry.
-/
import Derived.Test.Qxb6625794aChecked
import GoSem.Claim
import GoSem.ClaimJoined
import GoSem.ClaimMapViews
import Derived.JoinedTies
import Derived.KernelRfl
namespace Go.Proofs.Qxb6625794a
/- THE CELL 'sum', in the pinned program and in every row, IS THE sha256 OF THE DUMP (.gsa) THAT Qxb6625794aProg.lean LOADS. Nothing in Lean hashes anything: it is a label: what it is worth is what the hold of that sum in a sandbox is worth. -/
noncomputable def Try.pinned : Pinned := { name := "qxb6625794a", sum := "b0052a9984fc034f318c7e846a778ca83638a16347302b6a9f4723ef05cb4304", checked := Try.checked }
namespace Rows
def none {H : Type} : Left H := { results := [], args := [] }

/-- 'zzlaws_internal_lock_b1.FnForgetRemovesFirstOccurrenceOnly': WHATEVER THE INPUT: true; the input reads as it did. -/
def fnForgetRemovesFirstOccurrenceOnlySpec : ChangeSpec := { name := "fnForgetRemovesFirstOccurrenceOnly", fn := fun _ => fun
  | [d1, d2, d3, d4] => { results := [.lit (.bool true)], args := [d1, d2, d3, d4] }
  | _ => none }
def fnForgetRemovesFirstOccurrenceOnlyRow : OpenClaim := { program := "qxb6625794a", sum := "b0052a9984fc034f318c7e846a778ca83638a16347302b6a9f4723ef05cb4304", func := "example.com/gapwise/gapwise/zzlaws_internal_lock_b1.FnForgetRemovesFirstOccurrenceOnly", spec := "fnForgetRemovesFirstOccurrenceOnly", plainKeys := false, apart := false }
def FnForgetRemovesFirstOccurrenceOnlySaid : Prop := fnForgetRemovesFirstOccurrenceOnlyRow.holds Try.pinned (OpenSpec.ofChange fnForgetRemovesFirstOccurrenceOnlySpec)

/-- ITS FALSE NEIGHBOUR: 'it returns false'. Refute it at one input. -/
def fnForgetRemovesFirstOccurrenceOnlyWrong : ChangeSpec := { name := "fnForgetRemovesFirstOccurrenceOnly", fn := fun _ => fun
  | [d1, d2, d3, d4] => { results := [.lit (.bool false)], args := [d1, d2, d3, d4] }
  | _ => none }
def FnForgetRemovesFirstOccurrenceOnlyWrongFalsely : Prop := fnForgetRemovesFirstOccurrenceOnlyRow.holds Try.pinned (OpenSpec.ofChange fnForgetRemovesFirstOccurrenceOnlyWrong)

/-- 'zzlaws_internal_lock_b1.FnForgetAgreesAcrossAPrefix': WHATEVER THE INPUT: true; the input reads as it did. -/
def fnForgetAgreesAcrossAPrefixSpec : ChangeSpec := { name := "fnForgetAgreesAcrossAPrefix", fn := fun _ => fun
  | [d1, d2, d3, d4] => { results := [.lit (.bool true)], args := [d1, d2, d3, d4] }
  | _ => none }
def fnForgetAgreesAcrossAPrefixRow : OpenClaim := { program := "qxb6625794a", sum := "b0052a9984fc034f318c7e846a778ca83638a16347302b6a9f4723ef05cb4304", func := "example.com/gapwise/gapwise/zzlaws_internal_lock_b1.FnForgetAgreesAcrossAPrefix", spec := "fnForgetAgreesAcrossAPrefix", plainKeys := false, apart := false }
def FnForgetAgreesAcrossAPrefixSaid : Prop := fnForgetAgreesAcrossAPrefixRow.holds Try.pinned (OpenSpec.ofChange fnForgetAgreesAcrossAPrefixSpec)

/-- ITS FALSE NEIGHBOUR: 'it returns false'. Refute it at one input. -/
def fnForgetAgreesAcrossAPrefixWrong : ChangeSpec := { name := "fnForgetAgreesAcrossAPrefix", fn := fun _ => fun
  | [d1, d2, d3, d4] => { results := [.lit (.bool false)], args := [d1, d2, d3, d4] }
  | _ => none }
def FnForgetAgreesAcrossAPrefixWrongFalsely : Prop := fnForgetAgreesAcrossAPrefixRow.holds Try.pinned (OpenSpec.ofChange fnForgetAgreesAcrossAPrefixWrong)

end Rows
end Go.Proofs.Qxb6625794a
