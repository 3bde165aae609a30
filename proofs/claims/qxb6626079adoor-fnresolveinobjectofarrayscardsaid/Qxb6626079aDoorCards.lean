/-
  DERIVED. GIVEN WITH THE SEED: THE CARDS: each row of Qxb6626079aDoorRows.lean that lists a variable, with what it lists TIED to the program's text (the seventh form; the later family's looks); each row that meets fmt, with fmt's text TOLD by the authors' own Lean function (tested against real Go, not proved from fmt's source: count such statements apart). THE CARD IS WHAT COUNTS. Prove the row's statement (the work); the ties are given (Qxb6626079aDoorTie.lean); close each card by the builder's one call (the guide's Derived/Test/ToyasCard.lean, 'card_holds'). Laid BY PROGRAM, IN A SANDBOX (cutbox-door.mjs). By AI agents, Wed Nov 11 2026. No macro, syntax, notation, axiom, sorry.
-/
import Derived.Test.Qxb6626079aDoorRows
import GoSem.ClaimSeven
namespace Go.Proofs.Qxb6626079aDoor
namespace Rows

/-- THE TIED CARD OF 'zzlaws_jsonpointer_b1.FnResolveInStringArray'. -/
def fnResolveInStringArrayCard : Claim7 := { stood := { row := fnResolveInStringArrayRow, standIns := [], harness := (true, "7fd34c64407dc3a3cb09d2c2c6a241fd1391df55a638f12f45bca034794488fc"), looks := true }, kinds := [], alts := [], laidByText := true, laidKinds := [.data, .data, .data, .sentinel, .sentinel], laidTests := true, laidLooks := .later }
def FnResolveInStringArrayCardSaid : Prop := Claim7.holds Tryd.pinned (.plain (OpenSpec.ofChange fnResolveInStringArraySpec)) fnResolveInStringArrayCard

/-- THE TIED CARD OF 'zzlaws_jsonpointer_b1.FnResolveInObjectOfArrays'. -/
def fnResolveInObjectOfArraysCard : Claim7 := { stood := { row := fnResolveInObjectOfArraysRow, standIns := [], harness := (true, "7fd34c64407dc3a3cb09d2c2c6a241fd1391df55a638f12f45bca034794488fc"), looks := true }, kinds := [], alts := [], laidByText := true, laidKinds := [.data, .data, .data, .sentinel, .sentinel], laidTests := true, laidLooks := .later }
def FnResolveInObjectOfArraysCardSaid : Prop := Claim7.holds Tryd.pinned (.plain (OpenSpec.ofChange fnResolveInObjectOfArraysSpec)) fnResolveInObjectOfArraysCard
end Rows
end Go.Proofs.Qxb6626079aDoor
