import Derived.Test.Qxb6626079aDoorWalkD
import Derived.Laws.CopyOwn
namespace Go.Proofs.Qxb6626079aDoor
open Go.RowKit

def strVals (ss : List ByteArray) : List Value := ss.map Value.string

theorem strVals_one (ss : List ByteArray) : ∀ v ∈ strVals ss, v.oneCell' = true := by
  intro v hv
  simp only [strVals, List.mem_map] at hv
  obtain ⟨s, _, rfl⟩ := hv
  rfl

theorem size9 : (Tryd.prog.info? 9).map (·.size) = some 1 := by kernel_rfl

/-- What the copy reads. -/
theorem copy_src {w : World} {ad : Addr} {ss : List ByteArray} (h : StrsAt w (some ad) ss) : ∀ j v, (strVals ss)[j]? = some v → w.cell? (ad.add j) = some v := by
  intro j v hj
  simp only [strVals, List.getElem?_map, Option.map_eq_some_iff] at hj
  obtain ⟨s, hs, rfl⟩ := hj
  have hjl := (List.getElem?_eq_some_iff.1 hs).1
  obtain ⟨b, off, ha, hlt, hc⟩ := h.2 (by omega)
  simp at ha
  subst ha
  rw [Addr.add_lit]
  exact hc j s hs

/-- What it leaves. -/
theorem copied {w : World} {g n : Nat} {cur : Array Value} {ss : List ByteArray} (hg : w.heap[g]? = some (.cells cur 9 (0, 0))) (_hs : cur.size = n) (_hl : ss.length = n) (hm : ss.length ≤ maxLen) :
    StrsAt (w.setRow g (cur.toList.take 0 ++ (strVals ss ++ cur.toList.drop (0 + (strVals ss).length))).toArray) (some ⟨g, 0, none⟩) ss := by
  refine ⟨hm, fun _ => ⟨g, 0, rfl, ?_, fun i s hi => ?_⟩⟩
  · have := (Array.getElem?_eq_some_iff.1 hg).1
    simpa [World.setRow] using this
  · have hil := (List.getElem?_eq_some_iff.1 hi).1
    rw [cell_of_row _ g _ _ 9 (0, 0) (setRow_heap w g cur _ 9 (0, 0) hg)]
    simp only [List.take_zero, List.nil_append, Nat.zero_add, List.getElem?_toArray]
    rw [List.getElem?_append_left (by simp only [strVals, List.length_map]; exact hil)]
    simp only [strVals, List.getElem?_map, hi, Option.map_some]

/-- A made row of strings, its block. -/
theorem made_block {w : World} {B g n : Nat} {xs : List Value} (h : w.ownsRow B 9 1 (.slice (some ⟨g, 0, none⟩) n n) n xs) : ∃ cur, w.heap[g]? = some (.cells cur 9 (0, 0)) ∧ cur.size = n := by
  rcases h.2 with ⟨h', _⟩ | ⟨g', cap', cur, h', hb, hg, hnc, hcm, hcs, htake⟩
  · simp at h'
  · simp only [Value.slice.injEq, Option.some.injEq, Addr.mk.injEq, and_true, true_and] at h'
    obtain ⟨rfl, rfl⟩ := h'
    exact ⟨cur, hg, by omega⟩

/-- THE COPY, its run: a world in which the new row holds the strings. -/
theorem copy_run {W0 w1 : World} {B g n cap : Nat} {ad : Addr} {xs : List Value} {ss : List ByteArray} (hown : w1.ownsRow B 9 1 (.slice (some ⟨g, 0, none⟩) n n) n xs) (hb : Below W0.heap.size W0 w1) (hg : W0.heap.size ≤ g) (hs : StrsAt w1 (some ad) ss) (hl : ss.length = n) :
    ∃ w2 gi, (Builtin.copy_ #[22, 22] 3 #[.slice (some ⟨g, 0, none⟩) n n, .slice (some ad) n cap]).run Tryd.prog w1 = .ok (.int .i64 gi) w2 ∧ StrsAt w2 (some ⟨g, 0, none⟩) ss ∧ Below W0.heap.size W0 w2 := by
  obtain ⟨cur, hcur, hcs⟩ := made_block hown
  have hl' : (strVals ss).length = n := by simp only [strVals, List.length_map]; exact hl
  have hcp := run_copy_row (P := Tryd.prog) w1 22 22 3 9 g 0 n n ad n cap cur 9 (strVals ss) Tryd.underlying22 size9 hcur (by rw [hl']; exact (Nat.min_self n).symm) (copy_src hs) (by rw [hl', hcs]; omega) (strVals_one ss)
  rw [List.append_assoc] at hcp
  exact ⟨_, _, hcp, copied (n := n) hcur hcs hl hs.1, below_setRow hb hg _⟩
end Go.Proofs.Qxb6626079aDoor
