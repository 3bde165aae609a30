import Derived.Test.Qxb6625794aProg
import Derived.WalkKit
import Derived.WalkSpells
import Derived.WalkLawsBesides
import Derived.Deep.QuietTactic
import Derived.BigQuiet
namespace Go.Proofs.Qxb6625794a
open Go.RowKit

/-- An Obj, as the model holds it: four strings. -/
structure Ob where
  t : ByteArray
  i : ByteArray
  k : ByteArray
  r : ByteArray

/-- The four cells of an Obj lie at offset 'off' of block 'b'. -/
def ObAt (w : World) (b off : Nat) (o : Ob) : Prop :=
  w.cell? ⟨b, off, none⟩ = some (.string o.t) ∧ w.cell? ⟨b, off+1, none⟩ = some (.string o.i) ∧
  w.cell? ⟨b, off+2, none⟩ = some (.string o.k) ∧ w.cell? ⟨b, off+3, none⟩ = some (.string o.r)

/-- A slice that begins at 'a' holds the Objs 'os'. -/
def ObsAt (w : World) (a : Option Addr) (os : List Ob) : Prop :=
  os.length ≤ maxLen ∧ (0 < os.length → ∃ b off, a = some ⟨b, off, none⟩ ∧ b < w.heap.size ∧ ∀ i o, os[i]? = some o → ObAt w b (off + i * 4) o)

theorem ObAt.below {w w' : World} {b off : Nat} {o : Ob} {B : Nat} (h : ObAt w b off o) (hb : Below B w w') (hB : b < B) : ObAt w' b off o :=
  ⟨(hb.cell (p := ⟨b, off, none⟩) hB).trans h.1, (hb.cell (p := ⟨b, off+1, none⟩) hB).trans h.2.1, (hb.cell (p := ⟨b, off+2, none⟩) hB).trans h.2.2.1, (hb.cell (p := ⟨b, off+3, none⟩) hB).trans h.2.2.2⟩

theorem ObsAt.below {w w' : World} {a : Option Addr} {os : List Ob} (h : ObsAt w a os) (hb : Below w.heap.size w w') : ObsAt w' a os := by
  refine ⟨h.1, fun h0 => ?_⟩
  obtain ⟨b, off, ha, hlt, hc⟩ := h.2 h0
  exact ⟨b, off, ha, Nat.lt_of_lt_of_le hlt hb.size, fun i o hi => (hc i o hi).below hb hlt⟩

theorem ObsAt.pick {w : World} {a : Option Addr} {os : List Ob} (h : ObsAt w a os) {k : Nat} (hk : k < os.length) :
    ∃ b off t i kk r, Hid (os[k]? = some ⟨t, i, kk, r⟩) ∧ a = some ⟨b, off, none⟩ ∧ b < w.heap.size ∧
      w.cell? ⟨b, off + k * 4, none⟩ = some (.string t) ∧ w.cell? ⟨b, off + k * 4+1, none⟩ = some (.string i) ∧
      w.cell? ⟨b, off + k * 4+2, none⟩ = some (.string kk) ∧ w.cell? ⟨b, off + k * 4+3, none⟩ = some (.string r) := by
  obtain ⟨b, off, ha, hlt, hc⟩ := h.2 (by omega)
  obtain ⟨h0, h1, h2, h3⟩ := hc k os[k] (List.getElem?_eq_getElem hk)
  exact ⟨b, off, os[k].t, os[k].i, os[k].k, os[k].r, List.getElem?_eq_getElem hk, ha, hlt, h0, h1, h2, h3⟩

theorem bytes_eq (x y : ByteArray) : x.toList = y.toList ↔ x = y := by
  constructor
  · intro h
    rw [ByteArray.toList_eq, ByteArray.toList_eq] at h
    obtain ⟨⟨a⟩⟩ := x
    obtain ⟨⟨b⟩⟩ := y
    simp at h
    rw [h]
  · intro h
    rw [h]

/-- 'x == y' on Objs. -/
def obEq (t i k r t' i' k' r' : ByteArray) : Bool := decide (t = t' ∧ i = i' ∧ k = k' ∧ r = r')
theorem obEq_true {t i k r t' i' k' r' : ByteArray} (h : obEq t i k r t' i' k' r' = true) : (⟨t, i, k, r⟩ : Ob) = ⟨t', i', k', r'⟩ := by
  simp [obEq] at h
  simp [h]
theorem obEq_false {t i k r t' i' k' r' : ByteArray} (h : obEq t i k r t' i' k' r' = false) : (⟨t, i, k, r⟩ : Ob) ≠ ⟨t', i', k', r'⟩ := by
  simp [obEq] at h
  simpa using h
theorem obEq_self (t i k r : ByteArray) : obEq t i k r t i k r = true := by simp [obEq]

theorem eql24 (t i k r t' i' k' r' : ByteArray) (w : World) :
    (binOp .eql 24 (.agg #[.string t, .string i, .string k, .string r]) (.agg #[.string t', .string i', .string k', .string r'])).run Try.prog w = .ok (.bool (obEq t i k r t' i' k' r')) w := by
  go_simp
  simp only [bytes_eq, obEq]
  by_cases h1 : t = t' <;> by_cases h2 : i = i' <;> by_cases h3 : k = k' <;> by_cases h4 : r = r' <;> simp [h1, h2, h3, h4]

theorem eql31 (t i k r t' i' k' r' : ByteArray) (w : World) :
    (binOp .eql 31 (.agg #[.string t, .string i, .string k, .string r]) (.agg #[.string t', .string i', .string k', .string r'])).run Try.prog w = .ok (.bool (obEq t i k r t' i' k' r')) w := by
  go_simp
  simp only [bytes_eq, obEq]
  by_cases h1 : t = t' <;> by_cases h2 : i = i' <;> by_cases h3 : k = k' <;> by_cases h4 : r = r' <;> simp [h1, h2, h3, h4]

theorem neq31 (t i k r t' i' k' r' : ByteArray) (w : World) :
    (binOp .neq 31 (.agg #[.string t, .string i, .string k, .string r]) (.agg #[.string t', .string i', .string k', .string r'])).run Try.prog w = .ok (.bool (!obEq t i k r t' i' k' r')) w := by
  go_simp
  simp only [bytes_eq, obEq]
  by_cases h1 : t = t' <;> by_cases h2 : i = i' <;> by_cases h3 : k = k' <;> by_cases h4 : r = r' <;> simp [h1, h2, h3, h4]

end Go.Proofs.Qxb6625794a
