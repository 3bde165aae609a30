import Derived.Test.Qxb6625999aProg
import Derived.WalkKit
import Derived.WalkSpells
import Derived.WalkLawsBesides
import Derived.Deep.QuietTactic
import Derived.BigQuiet
import Derived.BigRegion
namespace Go.Proofs.Qxb6625999a
open Go.RowKit

/-- A payload as the model holds it: its type's number, and the slice that is its body. -/
structure Pl where
  ty : Int
  ad : Option Addr
  ln : Nat
  cp : Nat

/-- The bytes behind a body can be read. -/
def BodyAt (w : World) (a : Option Addr) (l : Nat) : Prop :=
  l ≤ maxLen ∧ (0 < l → ∃ b off, a = some ⟨b, off, none⟩ ∧ b < w.heap.size ∧ ∀ i, i < l → ∃ n : Int, w.cell? ⟨b, off + i, none⟩ = some (.int .u8 n))

def PlAt (w : World) (b off : Nat) (p : Pl) : Prop :=
  w.cell? ⟨b, off, none⟩ = some (.int .u8 p.ty) ∧ w.cell? ⟨b, off+1, none⟩ = some (.slice p.ad p.ln p.cp)

/-- A slice of payloads that begins at 'a' holds 'ps'. -/
def PlsAt (w : World) (a : Option Addr) (ps : List Pl) : Prop :=
  ps.length ≤ maxLen ∧ (0 < ps.length → ∃ b off, a = some ⟨b, off, none⟩ ∧ b < w.heap.size ∧ ∀ i p, ps[i]? = some p → PlAt w b (off + i * 2) p)

/-- A slice of bytes (or of payload types) that begins at 'a' holds the numbers 'zs'. -/
def IntsAt (w : World) (a : Option Addr) (zs : List Int) : Prop :=
  zs.length ≤ maxLen ∧ (0 < zs.length → ∃ b off, a = some ⟨b, off, none⟩ ∧ b < w.heap.size ∧ ∀ i z, zs[i]? = some z → w.cell? ⟨b, off + i, none⟩ = some (.int .u8 z))

/-- Each number is a byte. -/
def Bytes (zs : List Int) : Prop := ∀ z ∈ zs, 0 ≤ z ∧ z ≤ 255
/-- What is known of the payloads that came in: each type is a byte, each body can be read. -/
def Good (w : World) (ps : List Pl) : Prop := ∀ p ∈ ps, (0 ≤ p.ty ∧ p.ty ≤ 255) ∧ BodyAt w p.ad p.ln

theorem BodyAt.below {w w' : World} {a : Option Addr} {l : Nat} (h : BodyAt w a l) (hb : Below w.heap.size w w') : BodyAt w' a l := by
  refine ⟨h.1, fun h0 => ?_⟩
  obtain ⟨b, off, ha, hlt, hc⟩ := h.2 h0
  refine ⟨b, off, ha, Nat.lt_of_lt_of_le hlt hb.size, fun i hi => ?_⟩
  obtain ⟨n, hn⟩ := hc i hi
  exact ⟨n, (hb.cell (p := ⟨b, off + i, none⟩) hlt).trans hn⟩

theorem Good.below {w w' : World} {ps : List Pl} (h : Good w ps) (hb : Below w.heap.size w w') : Good w' ps := fun p hp => ⟨(h p hp).1, (h p hp).2.below hb⟩

theorem PlsAt.below {w w' : World} {a : Option Addr} {ps : List Pl} (h : PlsAt w a ps) (hb : Below w.heap.size w w') : PlsAt w' a ps := by
  refine ⟨h.1, fun h0 => ?_⟩
  obtain ⟨b, off, ha, hlt, hc⟩ := h.2 h0
  exact ⟨b, off, ha, Nat.lt_of_lt_of_le hlt hb.size, fun i p hi => ⟨(hb.cell (p := ⟨b, off + i * 2, none⟩) hlt).trans (hc i p hi).1, (hb.cell (p := ⟨b, off + i * 2 + 1, none⟩) hlt).trans (hc i p hi).2⟩⟩

theorem IntsAt.below {w w' : World} {a : Option Addr} {zs : List Int} (h : IntsAt w a zs) (hb : Below w.heap.size w w') : IntsAt w' a zs := by
  refine ⟨h.1, fun h0 => ?_⟩
  obtain ⟨b, off, ha, hlt, hc⟩ := h.2 h0
  exact ⟨b, off, ha, Nat.lt_of_lt_of_le hlt hb.size, fun i z hi => (hb.cell (p := ⟨b, off + i, none⟩) hlt).trans (hc i z hi)⟩

theorem PlsAt.pick {w : World} {a : Option Addr} {ps : List Pl} (h : PlsAt w a ps) {k : Nat} (hk : k < ps.length) :
    ∃ b off t d l c, Hid (ps[k]? = some ⟨t, d, l, c⟩) ∧ a = some ⟨b, off, none⟩ ∧ b < w.heap.size ∧
      w.cell? ⟨b, off + k * 2, none⟩ = some (.int .u8 t) ∧ w.cell? ⟨b, off + k * 2+1, none⟩ = some (.slice d l c) := by
  obtain ⟨b, off, ha, hlt, hc⟩ := h.2 (by omega)
  obtain ⟨h0, h1⟩ := hc k ps[k] (List.getElem?_eq_getElem hk)
  exact ⟨b, off, ps[k].ty, ps[k].ad, ps[k].ln, ps[k].cp, List.getElem?_eq_getElem hk, ha, hlt, h0, h1⟩

theorem IntsAt.pick {w : World} {a : Option Addr} {zs : List Int} (h : IntsAt w a zs) {k : Nat} (hk : k < zs.length) :
    ∃ b off z, Hid (zs[k]? = some z) ∧ a = some ⟨b, off, none⟩ ∧ b < w.heap.size ∧ w.cell? ⟨b, off + k, none⟩ = some (.int .u8 z) := by
  obtain ⟨b, off, ha, hlt, hc⟩ := h.2 (by omega)
  exact ⟨b, off, zs[k], List.getElem?_eq_getElem hk, ha, hlt, hc k zs[k] (List.getElem?_eq_getElem hk)⟩

theorem Good.at {w : World} {ps : List Pl} (h : Good w ps) {k : Nat} {p : Pl} (hk : ps[k]? = some p) : (0 ≤ p.ty ∧ p.ty ≤ 255) ∧ BodyAt w p.ad p.ln := h p (List.mem_of_getElem? hk)

theorem Bytes.at {zs : List Int} (h : Bytes zs) {k : Nat} {z : Int} (hk : zs[k]? = some z) : 0 ≤ z ∧ z ≤ 255 := h z (List.mem_of_getElem? hk)

/-! The cells of a row of payloads. -/
def cellsP (ps : List Pl) : List Value := ps.flatMap fun p => [.int .u8 p.ty, .slice p.ad p.ln p.cp]
theorem cellsP_append (xs ys : List Pl) : cellsP (xs ++ ys) = cellsP xs ++ cellsP ys := by simp [cellsP]
theorem cellsP_cons (x : Pl) (xs : List Pl) : cellsP (x :: xs) = .int .u8 x.ty :: .slice x.ad x.ln x.cp :: cellsP xs := rfl
theorem cellsP_length (xs : List Pl) : (cellsP xs).length = xs.length * 2 := by
  induction xs with
  | nil => rfl
  | cons x xs ih =>
    rw [cellsP_cons, List.length_cons, List.length_cons, ih, List.length_cons]
    omega
theorem cellsP_get : ∀ (ps : List Pl) (i : Nat) (p : Pl), ps[i]? = some p → (cellsP ps)[i * 2]? = some (.int .u8 p.ty) ∧ (cellsP ps)[i * 2 + 1]? = some (.slice p.ad p.ln p.cp)
  | [], i, p, h => by simp at h
  | x :: xs, 0, p, h => by
    simp at h
    subst h
    rw [cellsP_cons]
    exact ⟨rfl, rfl⟩
  | x :: xs, i + 1, p, h => by
    have ih := cellsP_get xs i p (by simpa using h)
    rw [cellsP_cons, show (i + 1) * 2 = i * 2 + 2 by omega]
    exact ih

theorem cellsP_one (ps : List Pl) : ∀ u ∈ cellsP ps, u.oneCell' = true := by
  intro u hu
  unfold cellsP at hu
  rw [List.mem_flatMap] at hu
  obtain ⟨o, _, ho⟩ := hu
  simp at ho
  rcases ho with rfl | rfl <;> rfl

/-- From an owned row to what can be read. -/
theorem owns_pls {w : World} {B n : Nat} {v : Value} {ps : List Pl} (h : w.ownsRow B 36 2 v n (cellsP ps)) : ps.length = n ∧ ∃ a cap, v = .slice a n cap ∧ PlsAt w a ps := by
  have hl := h.1
  rw [cellsP_length] at hl
  have hn : ps.length = n := by omega
  refine ⟨hn, ?_⟩
  rcases h.2 with ⟨rfl, rfl⟩ | ⟨g, cap, cur, rfl, hb, hh, h1, h3, h4, h5⟩
  · exact ⟨none, 0, rfl, by omega, fun h0 => by omega⟩
  · refine ⟨_, cap, rfl, by omega, fun _ => ⟨g, 0, rfl, (Array.getElem?_eq_some_iff.1 hh).1, fun i p hi => ?_⟩⟩
    obtain ⟨g0, g1⟩ := cellsP_get ps i p hi
    have hc := h.cells (g := g) rfl
    have c0 := hc _ _ g0
    have c1 := hc _ _ g1
    simp only [Addr.add_lit] at c0 c1
    exact ⟨c0, by rw [Nat.add_assoc]; exact c1⟩

theorem owns_ints {w : World} {B n : Nat} {v : Value} {zs : List Int} (h : w.ownsRow B 34 1 v n (zs.map (Value.int .u8))) : zs.length = n ∧ ∃ a cap, v = .slice a n cap ∧ IntsAt w a zs := by
  have hl := h.1
  rw [List.length_map] at hl
  have hn : zs.length = n := by omega
  refine ⟨hn, ?_⟩
  rcases h.2 with ⟨rfl, rfl⟩ | ⟨g, cap, cur, rfl, hb, hh, h1, h3, h4, h5⟩
  · exact ⟨none, 0, rfl, by omega, fun h0 => by omega⟩
  · refine ⟨_, cap, rfl, by omega, fun _ => ⟨g, 0, rfl, (Array.getElem?_eq_some_iff.1 hh).1, fun i z hi => ?_⟩⟩
    have hc := h.cells (g := g) rfl i (.int .u8 z) (by simp [hi])
    simpa only [Addr.add_lit] using hc

/-- Rows of two element types lie in two blocks. -/
theorem owns_apart {w : World} {B B' e e' s s' n m : Nat} {u v : Value} {xs ys : List Value} (h : w.ownsRow B e s v n xs) (k : w.ownsRow B' e' s' u m ys) (hne : e ≠ e') : u.ownBlock = none ∨ u.ownBlock ≠ v.ownBlock := by
  rcases k.2 with ⟨rfl, _⟩ | ⟨g, cap, cur, rfl, _, hh, _⟩
  · exact Or.inl rfl
  · rcases h.2 with ⟨rfl, _⟩ | ⟨g', cap', cur', rfl, _, hh', _⟩
    · right
      simp [Value.ownBlock]
    · right
      simp only [Value.ownBlock, ne_eq, Option.some.injEq]
      intro e1
      subst e1
      rw [hh] at hh'
      simp at hh'
      exact hne hh'.2.symm

theorem info36 : (Try.prog.info? 36).map (fun i => (i.zero, i.size, i.bytes)) = some (some (.agg #[.int .u8 0, .slice none 0 0]), 2, 32) := by kernel_rfl
theorem info34 : (Try.prog.info? 34).map (fun i => (i.zero, i.size, i.bytes)) = some (some (.int .u8 0), 1, 1) := by kernel_rfl

end Go.Proofs.Qxb6625999a
