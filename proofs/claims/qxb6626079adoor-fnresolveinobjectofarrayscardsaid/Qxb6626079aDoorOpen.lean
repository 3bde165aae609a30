import Derived.Test.Qxb6626079aDoorRows
import Derived.Test.Qxb6626079aDoorBase
import Derived.ProofKit
import Derived.LaidMore
import Derived.OpenShut
import Derived.ShutString
import Derived.ChangeOld
import Derived.SliceStrings
import Derived.Stop.Joined
import Derived.Stop.LaidErr
import Derived.MakeChecks
namespace Go.Proofs.Qxb6626079aDoor
open Go.ChangeShapes Go.WideShapes Go.ChangeAt Go.RowKit
set_option linter.unusedVariables false

theorem own : ownKnob Tryd.prog.godebug = none := by kernel_rfl
theorem laidOut : laidOutB Tryd.prog = true := by kernel_rfl
theorem cells9 : Tryd.prog.cellsOf 9 = 1 := by kernel_rfl
theorem cells68 : Tryd.prog.cellsOf 68 = 1 := by kernel_rfl

theorem add_eq (b off : Nat) (j : Nat) : (⟨b, off, none⟩ : Addr).add j = ⟨b, off + j, none⟩ := Addr.add_lit _ _ _

/-- A slice of strings opened. -/
theorem open_ss {H : Type} {enc : TypeId × Value → H} {W : World} {spare : Nat → Bool} {held : Bool} {fuel : Nat} {x : DataW H × List MemPlace} {a : Option Addr} {len cap : Nat} (hf : DataW.trod enc Tryd.prog W 0 spare held fuel 22 [.slice a len cap] = some x) :
    ∃ ss : List ByteArray, StrsAt W a ss ∧ Hid (ss.length = len) := by
  rcases open_strings Tryd.underlying22 Tryd.underlying9 cells9 hf with ⟨hcs, _⟩ | ⟨x, l, c, zs, hcs, _, hl, hm, hz, _, hcell, hwz⟩
  · simp at hcs
    obtain ⟨rfl, rfl, rfl⟩ := hcs
    exact ⟨[], ⟨by simp [maxLen], fun h => by simp at h⟩, rfl⟩
  · simp at hcs
    obtain ⟨rfl, rfl, rfl⟩ := hcs
    have hlz : len ≤ zs.length := by rw [hz]; split <;> omega
    have hlen : (zs.take len).length = len := by rw [List.length_take]; omega
    refine ⟨zs.take len, ⟨by omega, fun h0 => ?_⟩, hlen⟩
    have c0 := hcell 0 (by omega)
    obtain ⟨b, off, spot⟩ := x
    have hspot : spot = none := by simpa [Addr.add] using World.cell?_spot c0
    subst hspot
    refine ⟨b, off, rfl, by simpa [Addr.add] using World.block_lt_of_cell? W _ c0, fun i z hi => ?_⟩
    have hil := (List.getElem?_eq_some_iff.1 hi).1
    have hc := hcell i (by omega)
    rw [add_eq] at hc
    rw [hc]
    rw [List.getElem?_take_of_lt (by omega)] at hi
    simp [List.getD, hi]

theorem gER : Tryd.prog.globalNamed "strconv.ErrRange" = some 1 := by kernel_rfl
theorem gERType : (Tryd.prog.globals[1]?).map (·.type) = some 45 := by kernel_rfl
theorem named66 : ((List.range Tryd.prog.types.size).all fun e => Tryd.prog.typeName? 2 e != some "errors.errorString" || (match (Tryd.prog.info? e).map (·.desc) with | some (TypeDesc.named _ _) => true | _ => false)) = true := by kernel_rfl

/-- WHAT THE LISTED VARIABLES GIVE THE WALK: strconv.ErrRange holds an error. -/
theorem errRange_of {W : World} (h : laidMetH Tryd.prog Rows.fnResolveInStringArrayRow.laid W) : ∃ te pe, W.cell? ⟨1, 0, none⟩ = some (.iface te pe) := by
  rw [MakeChecks.laidMetH_plain _ _ _ (by kernel_rfl)] at h
  have h' : laidMet Tryd.prog [(_, Rows.laid_math_bits_deBruijn32tab), (_, Rows.laid_math_bits_deBruijn64tab), (_, Rows.laid_internal_strconv_uint64pow10), (_, Rows.laid_strconv_ErrRange), (_, Rows.laid_strconv_ErrSyntax)] W := h
  obtain ⟨a1, s1, hv1, -, -, -⟩ := laid_sentinel h'.tail.tail.tail gER gERType Tryd.underlying45 (tp := 66) (fun u hu => typeName_ptr_named (nm := "errors.errorString") (by kernel_rfl) named66 (by decide) u (hu.trans (by decide))) Tryd.underlying66 Tryd.underlying68 rfl rfl Tryd.underlying9 cells68 cells9
  exact ⟨66, .pointer (some a1), by have h0 := World.var?_cell gER hv1 0; simpa using h0⟩

/-- The door's own heap meets the condition. -/
theorem door_met (os : Os) (args : Array Value) : laidMetH Tryd.prog Rows.fnResolveInStringArrayRow.laid ((World.doorLaid Tryd.prog 400 os).forCall (fun _ _ => 0) ⟨#[], args, []⟩).memory :=
  laidMetH_of_parts3 (fuel := 8) (laidMet_of_run' 8 (by kernel_rfl) (by kernel_rfl)) (by kernel_rfl) (by kernel_rfl)

end Go.Proofs.Qxb6626079aDoor
