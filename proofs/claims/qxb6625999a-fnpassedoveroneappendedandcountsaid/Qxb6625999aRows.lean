/-
  No cell of these rows narrows 'for every input' (looked for: loops, veiled, ifaces, maps, wideKeys, modest, calm, conditions, laid).
  DERIVED. THE GIVEN ROWS OF THIS SEAT. 2 by the template 'for every input the law returns true; each argument reads behind the call as it read before'; 0 by the template 'total and deterministic' (their statements: Qxb6625999aTotals.lean).
  GIVEN WITH THE SEED: the statements are not yours to turn. If you find one false, say at which input.
  Laid BY PROGRAM, IN A SANDBOX (cutbox-rows.mjs): the forced cells as the released guide's own fill.sh prints them over the translation 588ae78ff538daa5… (all of the seat's roots in one cut). By AI agents, Wed Nov 11 2026. No macro, syntax, notation, axiom, sorry.
-/
import Derived.Test.Qxb6625999aChecked
import GoSem.Claim
import GoSem.ClaimJoined
import GoSem.ClaimMapViews
import Derived.JoinedTies
import Derived.KernelRfl
namespace Go.Proofs.Qxb6625999a
/- THE CELL 'sum', in the pinned program and in every row, IS THE sha256 OF THE DUMP (.gsa) THAT Qxb6625999aProg.lean LOADS. Nothing in Lean hashes anything: it is a label: what it is worth is what the hold of that sum in a sandbox is worth. -/
noncomputable def Try.pinned : Pinned := { name := "qxb6625999a", sum := "588ae78ff538daa5695c62a941083ba636a3242bef9f82af36e1206ae2a83f24", checked := Try.checked }
namespace Rows
def none {H : Type} : Left H := { results := [], args := [] }

/-- 'zzlaws_isakmp_b1.FnPassedOverDropsFirstOfEachReadType': WHATEVER THE INPUT: true; the input reads as it did. -/
def fnPassedOverDropsFirstOfEachReadTypeSpec : ChangeSpec := { name := "fnPassedOverDropsFirstOfEachReadType", fn := fun _ => fun
  | [d1, d2] => { results := [.lit (.bool true)], args := [d1, d2] }
  | _ => none }
def fnPassedOverDropsFirstOfEachReadTypeRow : OpenClaim := { program := "qxb6625999a", sum := "588ae78ff538daa5695c62a941083ba636a3242bef9f82af36e1206ae2a83f24", func := "example.com/gatekeel/gatekeel/zzlaws_isakmp_b1.FnPassedOverDropsFirstOfEachReadType", spec := "fnPassedOverDropsFirstOfEachReadType", unfollowed := true, recurses := true, apart := false }
def FnPassedOverDropsFirstOfEachReadTypeSaid : Prop := fnPassedOverDropsFirstOfEachReadTypeRow.holds Try.pinned (OpenSpec.ofChange fnPassedOverDropsFirstOfEachReadTypeSpec)

/-- ITS FALSE NEIGHBOUR: 'it returns false'. Refute it at one input. -/
def fnPassedOverDropsFirstOfEachReadTypeWrong : ChangeSpec := { name := "fnPassedOverDropsFirstOfEachReadType", fn := fun _ => fun
  | [d1, d2] => { results := [.lit (.bool false)], args := [d1, d2] }
  | _ => none }
def FnPassedOverDropsFirstOfEachReadTypeWrongFalsely : Prop := fnPassedOverDropsFirstOfEachReadTypeRow.holds Try.pinned (OpenSpec.ofChange fnPassedOverDropsFirstOfEachReadTypeWrong)

/-- 'zzlaws_isakmp_b1.FnPassedOverOneAppendedAndCount': WHATEVER THE INPUT: true; the input reads as it did. -/
def fnPassedOverOneAppendedAndCountSpec : ChangeSpec := { name := "fnPassedOverOneAppendedAndCount", fn := fun _ => fun
  | [d1, d2, d3, d4] => { results := [.lit (.bool true)], args := [d1, d2, d3, d4] }
  | _ => none }
def fnPassedOverOneAppendedAndCountRow : OpenClaim := { program := "qxb6625999a", sum := "588ae78ff538daa5695c62a941083ba636a3242bef9f82af36e1206ae2a83f24", func := "example.com/gatekeel/gatekeel/zzlaws_isakmp_b1.FnPassedOverOneAppendedAndCount", spec := "fnPassedOverOneAppendedAndCount", unfollowed := true, recurses := true, apart := false }
def FnPassedOverOneAppendedAndCountSaid : Prop := fnPassedOverOneAppendedAndCountRow.holds Try.pinned (OpenSpec.ofChange fnPassedOverOneAppendedAndCountSpec)

/-- ITS FALSE NEIGHBOUR: 'it returns false'. Refute it at one input. -/
def fnPassedOverOneAppendedAndCountWrong : ChangeSpec := { name := "fnPassedOverOneAppendedAndCount", fn := fun _ => fun
  | [d1, d2, d3, d4] => { results := [.lit (.bool false)], args := [d1, d2, d3, d4] }
  | _ => none }
def FnPassedOverOneAppendedAndCountWrongFalsely : Prop := fnPassedOverOneAppendedAndCountRow.holds Try.pinned (OpenSpec.ofChange fnPassedOverOneAppendedAndCountWrong)

end Rows
end Go.Proofs.Qxb6625999a
