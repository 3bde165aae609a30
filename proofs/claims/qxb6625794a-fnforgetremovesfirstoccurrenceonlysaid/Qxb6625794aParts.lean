import Derived.Test.Qxb6625794aWalkD
namespace Go.Proofs.Qxb6625794a
open Go.RowKit

theorem cellsOf_cons (x : Ob) (xs : List Ob) : cellsOf (x :: xs) = .string x.t :: .string x.i :: .string x.k :: .string x.r :: cellsOf xs := rfl

theorem cellsOf_get : ∀ (os : List Ob) (i : Nat) (o : Ob), os[i]? = some o →
    (cellsOf os)[i * 4]? = some (.string o.t) ∧ (cellsOf os)[i * 4 + 1]? = some (.string o.i) ∧ (cellsOf os)[i * 4 + 2]? = some (.string o.k) ∧ (cellsOf os)[i * 4 + 3]? = some (.string o.r)
  | [], i, o, h => by simp at h
  | x :: xs, 0, o, h => by
    simp at h
    subst h
    rw [cellsOf_cons]
    exact ⟨rfl, rfl, rfl, rfl⟩
  | x :: xs, i + 1, o, h => by
    have ih := cellsOf_get xs i o (by simpa using h)
    rw [cellsOf_cons, show (i + 1) * 4 = i * 4 + 4 by omega]
    exact ih

/-- The cells of block g, from its head on. -/
def RowAt (w : World) (g : Nat) (cs : List Value) : Prop := ∀ j u, cs[j]? = some u → w.cell? ⟨g, j, none⟩ = some u

theorem RowAt.obs {w : World} {g : Nat} {os : List Ob} (h : RowAt w g (cellsOf os)) (hm : os.length ≤ maxLen) (hg : g < w.heap.size) : ObsAt w (some ⟨g, 0, none⟩) os := by
  refine ⟨hm, fun _ => ⟨g, 0, rfl, hg, fun i o hi => ?_⟩⟩
  obtain ⟨h0, h1, h2, h3⟩ := cellsOf_get os i o hi
  rw [Nat.zero_add]
  exact ⟨h _ _ h0, h _ _ h1, h _ _ h2, h _ _ h3⟩

theorem Own.block {w : World} {B g cap : Nat} {os : List Ob} (h : Own w B g cap os) :
    ∃ cur, w.heap[g]? = some (.cells cur 31 (0, 0)) ∧ os.length ≤ cap ∧ cap ≤ maxLen ∧ cur.size = cap * 4 ∧ RowAt w g (cellsOf os) := by
  have hc := h.cells (g := g) rfl
  obtain ⟨_, h2⟩ := h
  rcases h2 with ⟨h2, _⟩ | ⟨g', cap', cur, hv, hb, hh, h1, h3, h4, h5⟩
  · simp at h2
  · simp at hv
    obtain ⟨rfl, rfl⟩ := hv
    exact ⟨cur, hh, h1, h3, h4, fun j u hu => by have := hc j u hu; rwa [Addr.add_lit, Nat.zero_add] at this⟩

theorem Own.at {w : World} {B g cap : Nat} {os : List Ob} (h : Own w B g cap os) : ObsAt w (some ⟨g, 0, none⟩) os := by
  obtain ⟨cur, hh, h1, h2, h3, h4⟩ := h.block
  exact h4.obs (Nat.le_trans h1 h2) (Array.getElem?_eq_some_iff.1 hh).1

theorem cellsOf_one (os : List Ob) : ∀ u ∈ cellsOf os, u.oneCell' = true := by
  intro u hu
  unfold cellsOf at hu
  rw [List.mem_flatMap] at hu
  obtain ⟨o, _, ho⟩ := hu
  exact four_one _ _ _ _ u ho

/-- What the append in 'forget' finds, and what it leaves: the cells behind the struck one are moved up. -/
theorem moved {w : World} {g cap q : Nat} {xs cs : List Ob} {x : Ob} {cur : Array Value} (hh : w.heap[g]? = some (.cells cur 31 (0, 0))) (hcap : (xs ++ x :: cs).length ≤ cap) (hsz : cur.size = cap * 4) (hrow : RowAt w g (cellsOf (xs ++ x :: cs))) (hq : xs.length = q) :
    (∀ j u, (cellsOf cs)[j]? = some u → w.cell? ((⟨g, (q + 1) * 4, none⟩ : Addr).add j) = some u) ∧
    (∀ j, j < (cellsOf cs).length → (w.cell? ⟨g, 0 + q * 4 + j, none⟩).isSome = true ∧ w.frozen? ⟨g, 0 + q * 4 + j, none⟩ = false) ∧
    RowAt (w.setCells g (0 + q * 4) (cellsOf cs)) g (cellsOf (xs ++ cs)) := by
  subst hq
  have hl : (cellsOf xs).length = xs.length * 4 := cellsOf_length xs
  have hlc : (cellsOf cs).length = cs.length * 4 := cellsOf_length cs
  have hsp : ∀ j, j < (cellsOf cs).length → (w.cell? ⟨g, 0 + xs.length * 4 + j, none⟩).isSome = true ∧ w.frozen? ⟨g, 0 + xs.length * 4 + j, none⟩ = false := by
    intro j hj
    rw [hlc] at hj
    simp only [List.length_append, List.length_cons] at hcap
    constructor
    · rw [cell_of_row w g _ cur 31 (0, 0) hh]
      simp
      omega
    · simp [World.frozen?, hh]
  refine ⟨fun j u hu => ?_, hsp, fun j u hu => ?_⟩
  · rw [Addr.add_lit]
    apply hrow
    rw [cellsOf_append, cellsOf_cons, List.getElem?_append_right (by rw [hl]; omega), hl, show (xs.length + 1) * 4 + j - xs.length * 4 = j + 4 by omega]
    simpa using hu
  · rw [cellsOf_append] at hu
    by_cases hj : j < xs.length * 4
    · rw [List.getElem?_append_left (by omega)] at hu
      rw [World.cell?_setCells_out g _ _ _ _ (fun _ _ => by simp; omega)]
      apply hrow
      rw [cellsOf_append, List.getElem?_append_left (by omega)]
      exact hu
    · rw [List.getElem?_append_right (by omega), hl] at hu
      obtain ⟨hjl, hju⟩ := List.getElem?_eq_some_iff.1 hu
      have := World.cell?_setCells_in g (cellsOf cs) (0 + xs.length * 4) w (fun j hj => (hsp j hj).1) (j - xs.length * 4) hjl
      rw [show 0 + xs.length * 4 + (j - xs.length * 4) = j by omega] at this
      rw [this, hju]

end Go.Proofs.Qxb6625794a
