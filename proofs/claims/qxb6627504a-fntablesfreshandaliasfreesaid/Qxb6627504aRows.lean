/-
  No cell of these rows narrows 'for every input' (looked for: loops, veiled, ifaces, maps, wideKeys, modest, calm, conditions, laid).
  DERIVED. THE GIVEN ROWS OF THIS SEAT. 2 by the template 'for every input the law returns true; each argument reads behind the call as it read before'; 0 by the template 'total and deterministic' (their statements: Qxb6627504aTotals.lean).
  GIVEN WITH THE SEED: the statements are not yours to turn. If you find one false, say at which input.
  Laid BY PROGRAM, IN A SANDBOX (cutbox-rows.mjs): the forced cells as the released guide's own fill.sh prints them over the translation f4bec82925fcc255… (all of the seat's roots in one cut). By AI agents, Wed Nov 11 2026. No macro, syntax, notation, axiom, sorry.
-/
import Derived.Test.Qxb6627504aChecked
import GoSem.Claim
import GoSem.ClaimJoined
import GoSem.ClaimMapViews
import Derived.JoinedTies
import Derived.KernelRfl
namespace Go.Proofs.Qxb6627504a
/- THE CELL 'sum', in the pinned program and in every row, IS THE sha256 OF THE DUMP (.gsa) THAT Qxb6627504aProg.lean LOADS. Nothing in Lean hashes anything: it is a label: what it is worth is what the hold of that sum in a sandbox is worth. -/
noncomputable def Try.pinned : Pinned := { name := "qxb6627504a", sum := "f4bec82925fcc2553d65c5aea37d6a1c4bbd1f8ceb7dadc501b4fd0b2262c595", checked := Try.checked }
namespace Rows
def none {H : Type} : Left H := { results := [], args := [] }

/-- 'zzlaws_stmt_b1.FnTablesInsertOne': WHATEVER THE INPUT: true; the input reads as it did. -/
def fnTablesInsertOneSpec : ChangeSpec := { name := "fnTablesInsertOne", fn := fun _ => fun
  | [d1, d2, d3, d4, d5] => { results := [.lit (.bool true)], args := [d1, d2, d3, d4, d5] }
  | _ => none }
def fnTablesInsertOneRow : OpenClaim := { program := "qxb6627504a", sum := "f4bec82925fcc2553d65c5aea37d6a1c4bbd1f8ceb7dadc501b4fd0b2262c595", func := "example.com/sunder/sunder/zzlaws_stmt_b1.FnTablesInsertOne", spec := "fnTablesInsertOne", apart := false }
def FnTablesInsertOneSaid : Prop := fnTablesInsertOneRow.holds Try.pinned (OpenSpec.ofChange fnTablesInsertOneSpec)

/-- ITS FALSE NEIGHBOUR: 'it returns false'. Refute it at one input. -/
def fnTablesInsertOneWrong : ChangeSpec := { name := "fnTablesInsertOne", fn := fun _ => fun
  | [d1, d2, d3, d4, d5] => { results := [.lit (.bool false)], args := [d1, d2, d3, d4, d5] }
  | _ => none }
def FnTablesInsertOneWrongFalsely : Prop := fnTablesInsertOneRow.holds Try.pinned (OpenSpec.ofChange fnTablesInsertOneWrong)

/-- 'zzlaws_stmt_b1.FnTablesFreshAndAliasFree': WHATEVER THE INPUT: true; the input reads as it did. -/
def fnTablesFreshAndAliasFreeSpec : ChangeSpec := { name := "fnTablesFreshAndAliasFree", fn := fun _ => fun
  | [d] => { results := [.lit (.bool true)], args := [d] }
  | _ => none }
def fnTablesFreshAndAliasFreeRow : OpenClaim := { program := "qxb6627504a", sum := "f4bec82925fcc2553d65c5aea37d6a1c4bbd1f8ceb7dadc501b4fd0b2262c595", func := "example.com/sunder/sunder/zzlaws_stmt_b1.FnTablesFreshAndAliasFree", spec := "fnTablesFreshAndAliasFree", apart := false }
def FnTablesFreshAndAliasFreeSaid : Prop := fnTablesFreshAndAliasFreeRow.holds Try.pinned (OpenSpec.ofChange fnTablesFreshAndAliasFreeSpec)

/-- ITS FALSE NEIGHBOUR: 'it returns false'. Refute it at one input. -/
def fnTablesFreshAndAliasFreeWrong : ChangeSpec := { name := "fnTablesFreshAndAliasFree", fn := fun _ => fun
  | [d] => { results := [.lit (.bool false)], args := [d] }
  | _ => none }
def FnTablesFreshAndAliasFreeWrongFalsely : Prop := fnTablesFreshAndAliasFreeRow.holds Try.pinned (OpenSpec.ofChange fnTablesFreshAndAliasFreeWrong)

end Rows
end Go.Proofs.Qxb6627504a
