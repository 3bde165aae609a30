import Derived.Test.Qxb6627504aRows
import Derived.Test.Qxb6627504aBase
import Derived.ProofKit
import Derived.OpenShut
import Derived.ShutString
import Derived.ChangeOld
import Derived.Lib.SmallJoins
import Derived.Deep.Slices
import Derived.Deep.Strs
namespace Go.Proofs.Qxb6627504a
open Go.ChangeShapes Go.WideShapes Go.ChangeAt Go.RowKit
open Go.Joins Go.Deep
set_option linter.unusedVariables false

theorem own : ownKnob Try.prog.godebug = none := by kernel_rfl
theorem laidOut : laidOutB Try.prog = true := by kernel_rfl
theorem cells47 : Try.prog.cellsOf 47 = 3 := by kernel_rfl
theorem cells9 : Try.prog.cellsOf 9 = 1 := by kernel_rfl

theorem gather {α : Type} {P : Nat → α → Prop} : ∀ n, (∀ i, i < n → ∃ o, P i o) → ∃ os : List α, os.length = n ∧ ∀ i o, os[i]? = some o → P i o
  | 0, _ => ⟨[], rfl, by simp⟩
  | n + 1, h => by
    obtain ⟨os, hl, ho⟩ := gather n (fun i hi => h i (by omega))
    obtain ⟨o, hn⟩ := h n (by omega)
    refine ⟨os ++ [o], by simp [hl], fun i u hu => ?_⟩
    by_cases hi : i < os.length
    · rw [List.getElem?_append_left hi] at hu
      exact ho i u hu
    · rw [List.getElem?_append_right (by omega)] at hu
      have h0 : i - os.length = 0 := by
        have := (List.getElem?_eq_some_iff.1 hu).1
        simp at this
        omega
      rw [h0] at hu
      simp at hu
      subst hu
      have : i = n := by omega
      subst this
      exact hn

theorem add_eq (b off : Nat) (j : Nat) : (⟨b, off, none⟩ : Addr).add j = ⟨b, off + j, none⟩ := Addr.add_lit _ _ _

/-- A slice of references opened. -/
theorem open_refs {H : Type} {enc : TypeId × Value → H} {W : World} {spare : Nat → Bool} {held : Bool} {fuel : Nat} {x : DataW H × List MemPlace} {a : Option Addr} {len cap : Nat} (hf : DataW.trod enc Try.prog W 0 spare held fuel 22 [.slice a len cap] = some x) :
    ∃ rs : List Rf, RefsAt W a rs ∧ Hid (rs.length = len) := by
  rcases open_slice Try.underlying22 hf with ⟨hcs, _⟩ | ⟨a', len', cap', m, n, D, Pl, hcs, _, hl, hm, hmm, _, hel⟩
  · simp at hcs
    obtain ⟨rfl, rfl, rfl⟩ := hcs
    exact ⟨[], ⟨by simp [maxLen], fun h => by simp at h⟩, rfl⟩
  · simp at hcs
    obtain ⟨rfl, rfl, rfl⟩ := hcs
    have hlm : len ≤ m := by rw [hmm]; split <;> omega
    by_cases h0 : len = 0
    · subst h0
      exact ⟨[], ⟨by simp [maxLen], fun h => by simp at h⟩, rfl⟩
    have each : ∀ i, i < len → ∃ o : Rf, W.cell? (a'.add (i * 3)) = some (.string o.s) ∧ W.cell? ((a'.add (i * 3)).add 1) = some (.string o.n) ∧ W.cell? ((a'.add (i * 3)).add 2) = some (.string o.a) := by
      intro i hi
      obtain ⟨cs', h1, h2⟩ := hel i (by omega)
      rw [cells47] at h1
      obtain ⟨_, hlen, hcell⟩ := World.cells?_some h1
      obtain ⟨y0, y1, y2, n', _, _, g0, g1, g2⟩ := trod_struct3 Try.underlying47 h2
      match cs', hlen with
      | [v0, v1, v2], _ =>
        simp [cells9] at g0 g1 g2
        obtain ⟨s0, e0, _, _⟩ := DataW.trod_string Try.underlying9 g0
        obtain ⟨s1, e1, _, _⟩ := DataW.trod_string Try.underlying9 g1
        obtain ⟨s2, e2, _, _⟩ := DataW.trod_string Try.underlying9 g2
        simp at e0 e1 e2
        subst e0 e1 e2
        exact ⟨⟨s0, s1, s2⟩, by simpa [Addr.add] using hcell 0 (by omega), by simpa using hcell 1 (by omega), by simpa using hcell 2 (by omega)⟩
    obtain ⟨b, off, spot⟩ := a'
    obtain ⟨o0, hz, _⟩ := each 0 (by omega)
    have hspot : spot = none := by simpa [Addr.add] using World.cell?_spot hz
    subst hspot
    obtain ⟨os, hol, hos⟩ := gather len each
    refine ⟨os, ⟨by omega, fun _ => ⟨b, off, rfl, ?_, fun i o hi => ?_⟩⟩, hol⟩
    · have := World.block_lt_of_cell? W _ hz
      simpa [Addr.add] using this
    · obtain ⟨h0, h1, h2⟩ := hos i o hi
      simp only [add_eq] at h0 h1 h2
      exact ⟨h0, h1, h2⟩
end Go.Proofs.Qxb6627504a
