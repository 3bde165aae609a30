import Derived.Test.Qxb6626079aDoorProg
import Derived.WalkKit
import Derived.WalkSpells
import Derived.WalkLawsBesides
import Derived.Deep.QuietTactic
import Derived.BigQuiet
import Derived.Test.Qxb6626079aDoorDec
namespace Go.Proofs.Qxb6626079aDoor
open Go.RowKit

/-- A slice of strings that begins at 'a' holds 'ss'. -/
def StrsAt (w : World) (a : Option Addr) (ss : List ByteArray) : Prop :=
  ss.length ≤ maxLen ∧ (0 < ss.length → ∃ b off, a = some ⟨b, off, none⟩ ∧ b < w.heap.size ∧ ∀ i s, ss[i]? = some s → w.cell? ⟨b, off + i, none⟩ = some (.string s))

theorem StrsAt.below {w w' : World} {a : Option Addr} {ss : List ByteArray} (h : StrsAt w a ss) (hb : Below w.heap.size w w') : StrsAt w' a ss := by
  refine ⟨h.1, fun h0 => ?_⟩
  obtain ⟨b, off, ha, hlt, hc⟩ := h.2 h0
  exact ⟨b, off, ha, Nat.lt_of_lt_of_le hlt hb.size, fun i z hi => (hb.cell (p := ⟨b, off + i, none⟩) hlt).trans (hc i z hi)⟩

theorem StrsAt.pick {w : World} {a : Option Addr} {ss : List ByteArray} (h : StrsAt w a ss) {k : Nat} (hk : k < ss.length) :
    ∃ b off s, Hid (ss[k]? = some s) ∧ a = some ⟨b, off, none⟩ ∧ b < w.heap.size ∧ w.cell? ⟨b, off + k, none⟩ = some (.string s) := by
  obtain ⟨b, off, ha, hlt, hc⟩ := h.2 (by omega)
  exact ⟨b, off, ss[k], List.getElem?_eq_getElem hk, ha, hlt, hc k ss[k] (List.getElem?_eq_getElem hk)⟩

/-- Each string is short. -/
def Short (ss : List ByteArray) : Prop := ∀ s ∈ ss, s.size ≤ 1048576

theorem short_next {ss : List ByteArray} {k : Nat} {s : ByteArray} (h : Short (ss.take k)) (hk : ss[k]? = some s) (hs : s.size ≤ 1048576) : Short (ss.take (k + 1)) := by
  obtain ⟨hl, he⟩ := List.getElem?_eq_some_iff.1 hk
  rw [List.take_succ_eq_append_getElem hl, he]
  intro x hx
  rw [List.mem_append] at hx
  rcases hx with hx | hx
  · exact h x hx
  · simp at hx
    subst hx
    exact hs
theorem short_all {ss : List ByteArray} {k : Nat} (h : Short (ss.take k)) (hk : ss.length ≤ k) : Short ss := by
  rwa [List.take_of_length_le hk] at h

theorem bytes_eq (x y : ByteArray) : x.toList = y.toList ↔ x = y := by
  constructor
  · intro h
    rw [ByteArray.toList_eq, ByteArray.toList_eq] at h
    obtain ⟨⟨a⟩⟩ := x
    obtain ⟨⟨b⟩⟩ := y
    simp at h
    rw [h]
  · intro h
    rw [h]

theorem take_next {α : Type} {ps : List α} {k : Nat} {p : α} (h : ps[k]? = some p) : ps.take (k + 1) = ps.take k ++ [p] := by
  obtain ⟨hk, he⟩ := List.getElem?_eq_some_iff.1 h
  rw [List.take_succ_eq_append_getElem hk, he]
end Go.Proofs.Qxb6626079aDoor
