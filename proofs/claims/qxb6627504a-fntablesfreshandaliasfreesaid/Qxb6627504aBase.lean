import Derived.Test.Qxb6627504aProg
import Derived.WalkKit
import Derived.WalkSpells
import Derived.WalkLawsBesides
import Derived.Deep.QuietTactic
import Derived.BigQuiet
namespace Go.Proofs.Qxb6627504a
open Go.RowKit

/-- A table reference, as the model holds it: three strings. -/
structure Rf where
  s : ByteArray
  n : ByteArray
  a : ByteArray

/-- A slice that begins at 'p' holds the references 'rs' (three cells each). -/
def RefsAt (w : World) (p : Option Addr) (rs : List Rf) : Prop :=
  rs.length ≤ maxLen ∧ (0 < rs.length → ∃ b off, p = some ⟨b, off, none⟩ ∧ b < w.heap.size ∧ ∀ (i : Nat) (r : Rf), rs[i]? = some r →
    w.cell? ⟨b, off + i * 3, none⟩ = some (.string r.s) ∧ w.cell? ⟨b, off + i * 3+1, none⟩ = some (.string r.n) ∧ w.cell? ⟨b, off + i * 3+2, none⟩ = some (.string r.a))

theorem RefsAt.below {w w' : World} {p : Option Addr} {rs : List Rf} (h : RefsAt w p rs) (hb : Below w.heap.size w w') : RefsAt w' p rs := by
  refine ⟨h.1, fun h0 => ?_⟩
  obtain ⟨b, off, ha, hlt, hc⟩ := h.2 h0
  refine ⟨b, off, ha, Nat.lt_of_lt_of_le hlt hb.size, fun i r hi => ?_⟩
  obtain ⟨h1, h2, h3⟩ := hc i r hi
  exact ⟨(hb.cell (p := ⟨b, off + i * 3, none⟩) hlt).trans h1, (hb.cell (p := ⟨b, off + i * 3+1, none⟩) hlt).trans h2, (hb.cell (p := ⟨b, off + i * 3+2, none⟩) hlt).trans h3⟩

theorem RefsAt.pick {w : World} {p : Option Addr} {rs : List Rf} (h : RefsAt w p rs) {k : Nat} (hk : k < rs.length) :
    ∃ b off s n a, Hid (rs[k]? = some ⟨s, n, a⟩) ∧ p = some ⟨b, off, none⟩ ∧ b < w.heap.size ∧
      w.cell? ⟨b, off + k * 3, none⟩ = some (.string s) ∧ w.cell? ⟨b, off + k * 3+1, none⟩ = some (.string n) ∧
      w.cell? ⟨b, off + k * 3+2, none⟩ = some (.string a) := by
  obtain ⟨b, off, ha, hlt, hc⟩ := h.2 (by omega)
  obtain ⟨h0, h1, h2⟩ := hc k rs[k] (List.getElem?_eq_getElem hk)
  exact ⟨b, off, rs[k].s, rs[k].n, rs[k].a, List.getElem?_eq_getElem hk, ha, hlt, h0, h1, h2⟩

/-- Each of the strings is short. -/
def Short (rs : List Rf) : Prop := ∀ r ∈ rs, r.s.size ≤ 1048576 ∧ r.n.size ≤ 1048576 ∧ r.a.size ≤ 1048576

theorem take_next {α : Type} {ps : List α} {k : Nat} {p : α} (h : ps[k]? = some p) : ps.take (k + 1) = ps.take k ++ [p] := by
  obtain ⟨hk, he⟩ := List.getElem?_eq_some_iff.1 h
  rw [List.take_succ_eq_append_getElem hk, he]

theorem short_next {rs : List Rf} {k : Nat} {r : Rf} (h : Short (rs.take k)) (hk : rs[k]? = some r) (h1 : r.s.size ≤ 1048576) (h2 : r.n.size ≤ 1048576) (h3 : r.a.size ≤ 1048576) : Short (rs.take (k + 1)) := by
  rw [take_next hk]
  intro x hx
  rw [List.mem_append] at hx
  rcases hx with hx | hx
  · exact h x hx
  · simp at hx
    subst hx
    exact ⟨h1, h2, h3⟩
theorem short_all {rs : List Rf} {k : Nat} (h : Short (rs.take k)) (hk : rs.length ≤ k) : Short rs := by
  rwa [List.take_of_length_le hk] at h

theorem bytes_eq (x y : ByteArray) : x.toList = y.toList ↔ x = y := by
  constructor
  · intro h
    rw [ByteArray.toList_eq, ByteArray.toList_eq] at h
    obtain ⟨⟨a⟩⟩ := x
    obtain ⟨⟨b⟩⟩ := y
    simp at h
    rw [h]
  · intro h
    rw [h]
end Go.Proofs.Qxb6627504a
