import Derived.Test.Qxb6625999aRows
import Derived.Test.Qxb6625999aBase
import Derived.ProofKit
import Derived.OpenShut
import Derived.ShutString
import Derived.ChangeOld
import Derived.Deep.SlicePairs
namespace Go.Proofs.Qxb6625999a
open Go.ChangeShapes Go.WideShapes Go.ChangeAt Go.RowKit
open Go.Deep
set_option linter.unusedVariables false

theorem own : ownKnob Try.prog.godebug = none := by kernel_rfl
theorem laidOut : laidOutB Try.prog = true := by kernel_rfl
theorem cells26 : Try.prog.cellsOf 26 = 2 := by kernel_rfl
theorem cells23 : Try.prog.cellsOf 23 = 1 := by kernel_rfl
theorem cells5 : Try.prog.cellsOf 5 = 1 := by kernel_rfl

theorem gather {α : Type} {P : Nat → α → Prop} : ∀ n, (∀ i, i < n → ∃ o, P i o) → ∃ os : List α, os.length = n ∧ ∀ i o, os[i]? = some o → P i o
  | 0, _ => ⟨[], rfl, by simp⟩
  | n + 1, h => by
    obtain ⟨os, hl, ho⟩ := gather n (fun i hi => h i (by omega))
    obtain ⟨o, hn⟩ := h n (by omega)
    refine ⟨os ++ [o], by simp [hl], fun i u hu => ?_⟩
    by_cases hi : i < os.length
    · rw [List.getElem?_append_left hi] at hu
      exact ho i u hu
    · rw [List.getElem?_append_right (by omega)] at hu
      have h0 : i - os.length = 0 := by
        have := (List.getElem?_eq_some_iff.1 hu).1
        simp at this
        omega
      rw [h0] at hu
      simp at hu
      subst hu
      have : i = n := by omega
      subst this
      exact hn

theorem add_eq (b off : Nat) (j : Nat) : (⟨b, off, none⟩ : Addr).add j = ⟨b, off + j, none⟩ := Addr.add_lit _ _ _

/-- A slice of bytes opened. -/
theorem open_bytes {H : Type} {enc : TypeId × Value → H} {W : World} {spare : Nat → Bool} {held : Bool} {fuel : Nat} {x : DataW H × List MemPlace} {v : Value} (hf : DataW.trod enc Try.prog W 0 spare held fuel 23 [v] = some x) :
    ∃ a l c zs, v = .slice a l c ∧ IntsAt W a zs ∧ Bytes zs ∧ Hid (zs.length = l) := by
  rcases open_ints Try.underlying23 Try.underlying5 cells5 hf with ⟨hcs, _⟩ | ⟨x, l, c, zs, hcs, _, hl, hm, hz, _, hcell, hwz⟩
  · simp at hcs
    exact ⟨none, 0, 0, [], hcs, ⟨by simp [maxLen], fun h => by simp at h⟩, fun z hz => by simp at hz, rfl⟩
  · simp at hcs
    have hlz : l ≤ zs.length := by rw [hz]; split <;> omega
    have hlen : (zs.take l).length = l := by rw [List.length_take]; omega
    refine ⟨some x, l, c, zs.take l, hcs, ⟨by omega, fun h0 => ?_⟩, fun z hz => bounds_u8 (hwz z (List.mem_of_mem_take hz)), hlen⟩
    have c0 := hcell 0 (by omega)
    obtain ⟨b, off, spot⟩ := x
    have hspot : spot = none := by simpa [Addr.add] using World.cell?_spot c0
    subst hspot
    refine ⟨b, off, rfl, by simpa [Addr.add] using World.block_lt_of_cell? W _ c0, fun i z hi => ?_⟩
    have hil := (List.getElem?_eq_some_iff.1 hi).1
    have hc := hcell i (by omega)
    rw [add_eq] at hc
    rw [hc]
    rw [List.getElem?_take_of_lt (by omega)] at hi
    simp [List.getD, hi]

theorem IntsAt.body {W : World} {a : Option Addr} {zs : List Int} (h : IntsAt W a zs) : BodyAt W a zs.length := by
  refine ⟨h.1, fun h0 => ?_⟩
  obtain ⟨b, off, ha, hlt, hc⟩ := h.2 h0
  exact ⟨b, off, ha, hlt, fun i hi => ⟨zs[i], hc i zs[i] (List.getElem?_eq_getElem hi)⟩⟩

/-- A slice of payloads opened. -/
theorem open_pls {H : Type} {enc : TypeId × Value → H} {W : World} {spare : Nat → Bool} {held : Bool} {fuel : Nat} {x : DataW H × List MemPlace} {a : Option Addr} {len cap : Nat} (hf : DataW.trod enc Try.prog W 0 spare held fuel 22 [.slice a len cap] = some x) :
    ∃ ps : List Pl, PlsAt W a ps ∧ Good W ps ∧ Hid (ps.length = len) := by
  rcases open_slice_pairs Try.underlying22 Try.underlying26 cells26 rfl rfl cells5 cells23 hf with ⟨hcs, _⟩ | ⟨a', len', cap', m, n, V0, V1, D0, D1, P0, P1, hcs, _, hl, hm, hmm, _, hel⟩
  · simp at hcs
    obtain ⟨rfl, rfl, rfl⟩ := hcs
    exact ⟨[], ⟨by simp [maxLen], fun h => by simp at h⟩, fun p hp => by simp at hp, rfl⟩
  · simp at hcs
    obtain ⟨rfl, rfl, rfl⟩ := hcs
    have hlm : len ≤ m := by rw [hmm]; split <;> omega
    by_cases h0 : len = 0
    · subst h0
      exact ⟨[], ⟨by simp [maxLen], fun h => by simp at h⟩, fun p hp => by simp at hp, rfl⟩
    have each : ∀ i, i < len → ∃ p : Pl, (W.cell? (a'.add (i * 2)) = some (.int .u8 p.ty) ∧ W.cell? (a'.add (i * 2 + 1)) = some (.slice p.ad p.ln p.cp)) ∧ (0 ≤ p.ty ∧ p.ty ≤ 255) ∧ BodyAt W p.ad p.ln := by
      intro i hi
      obtain ⟨c0, c1, g0, g1⟩ := hel i (by omega)
      obtain ⟨t, e0, _, wt⟩ := DataW.trod_int Try.underlying5 g0
      simp at e0
      obtain ⟨d, l, c, zs, e1, hz, _, hzl⟩ := open_bytes g1
      rw [e0] at c0
      rw [e1] at c1
      exact ⟨⟨t, d, l, c⟩, ⟨c0, c1⟩, bounds_u8 wt, by rw [← hzl.out]; exact hz.body⟩
    obtain ⟨b, off, spot⟩ := a'
    obtain ⟨p0, ⟨hz, _⟩, _⟩ := each 0 (by omega)
    have hspot : spot = none := by simpa [Addr.add] using World.cell?_spot hz
    subst hspot
    obtain ⟨ps, hol, hos⟩ := gather len each
    refine ⟨ps, ⟨by omega, fun _ => ⟨b, off, rfl, ?_, fun i p hi => ?_⟩⟩, fun p hp => ?_, hol⟩
    · have := World.block_lt_of_cell? W _ hz
      simpa [Addr.add] using this
    · obtain ⟨⟨h0, h1⟩, _⟩ := hos i p hi
      simp only [add_eq] at h0 h1
      exact ⟨h0, by rw [Nat.add_assoc]; exact h1⟩
    · obtain ⟨i, hi, hip⟩ := List.mem_iff_getElem.1 hp
      exact (hos i p (by rw [List.getElem?_eq_getElem hi, hip])).2
end Go.Proofs.Qxb6625999a
