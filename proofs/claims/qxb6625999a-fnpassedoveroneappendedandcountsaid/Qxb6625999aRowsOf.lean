import Derived.Test.Qxb6625999aPlain
namespace Go.Proofs.Qxb6625999a
open Go.RowKit

/-- Block I is a row of 256 cells of type e, cell j holding 'f j'. -/
def Row256 (w : World) (I : Nat) (e : TypeId) (f : Nat → Value) : Prop :=
  ∃ cur : Array Value, w.heap[I]? = some (.cells cur e (0, 0)) ∧ cur.size = 256 ∧ ∀ j, j < 256 → cur[j]? = some (f j)

theorem Row256.lt {w : World} {I : Nat} {e : TypeId} {f : Nat → Value} (h : Row256 w I e f) : I < w.heap.size := by
  obtain ⟨cur, hh, _⟩ := h
  exact (Array.getElem?_eq_some_iff.1 hh).1
theorem Row256.cell {w : World} {I : Nat} {e : TypeId} {f : Nat → Value} (h : Row256 w I e f) {j : Nat} (hj : j < 256) : w.cell? ⟨I, j, none⟩ = some (f j) := by
  obtain ⟨cur, hh, _, hc⟩ := h
  rw [cell_of_row w I j cur e (0, 0) hh]
  exact hc j hj
theorem Row256.frozen {w : World} {I : Nat} {e : TypeId} {f : Nat → Value} (h : Row256 w I e f) (j : Nat) : w.frozen? ⟨I, j, none⟩ = false := by
  obtain ⟨cur, hh, _⟩ := h
  exact frozen_of_row w I j cur e hh
theorem Row256.of_block {w w' : World} {I : Nat} {e : TypeId} {f : Nat → Value} (h : Row256 w I e f) (hb : w'.heap[I]? = w.heap[I]?) : Row256 w' I e f := by
  obtain ⟨cur, hh, r⟩ := h
  exact ⟨cur, hb.trans hh, r⟩
theorem Row256.alloc {w : World} {I : Nat} {e : TypeId} {f : Nat → Value} (h : Row256 w I e f) (o : Obj) : Row256 (w.alloc o) I e f := h.of_block (Below.heap_alloc w o I h.lt)
theorem Row256.drewN {w : World} {I : Nat} {e : TypeId} {f : Nat → Value} (h : Row256 w I e f) (n : Nat) : Row256 (w.drewN n) I e f := h
theorem Row256.other {w : World} {I J : Nat} {e : TypeId} {f : Nat → Value} (h : Row256 w I e f) (hne : I ≠ J) (j : Nat) (v : Value) : Row256 (w.setCell ⟨J, j, none⟩ v) I e f := h.of_block (Below.heap_setCell w _ _ _ hne)
theorem Row256.set {w : World} {I : Nat} {e : TypeId} {f g : Nat → Value} (h : Row256 w I e f) {j : Nat} {v : Value} (hg : ∀ i, i < 256 → g i = if i = j then v else f i) : Row256 (w.setCell ⟨I, j, none⟩ v) I e g := by
  obtain ⟨cur, hh, hs, hc⟩ := h
  refine ⟨cur.setIfInBounds j v, heap_setCell_same w I j cur e v hh, by simpa using hs, fun i hi => ?_⟩
  rw [hg i hi]
  by_cases hij : i = j
  · subst hij
    rw [if_pos rfl, Array.getElem?_setIfInBounds_self]
    simp [hs, hi]
  · rw [if_neg hij, Array.getElem?_setIfInBounds_ne (by omega)]
    exact hc i hi
theorem Row256.congr {w : World} {I : Nat} {e : TypeId} {f g : Nat → Value} (h : Row256 w I e f) (hg : ∀ i, i < 256 → g i = f i) : Row256 w I e g := by
  obtain ⟨cur, hh, hs, hc⟩ := h
  exact ⟨cur, hh, hs, fun i hi => by rw [hg i hi]; exact hc i hi⟩

def zeros32 : Array Value := Array.replicate 256 (.bool false)
def zeros33 : Array Value := Array.replicate 256 (.int .i64 0)
set_option maxRecDepth 100000 in
theorem zero32 (w : World) : (zeroValue 32).run Try.prog w = .ok (.agg zeros32) w := by kernel_rfl
set_option maxRecDepth 100000 in
theorem zero33 (w : World) : (zeroValue 33).run Try.prog w = .ok (.agg zeros33) w := by kernel_rfl

theorem row32 (w : World) : Row256 (w.alloc (.cells zeros32 32)) w.heap.size 32 (fun _ => .bool false) :=
  ⟨zeros32, heap_alloc_new w _, by simp [zeros32], fun j hj => by simp [zeros32, hj]⟩
theorem row33 (w : World) : Row256 (w.alloc (.cells zeros33 33)) w.heap.size 33 (fun _ => .int .i64 0) :=
  ⟨zeros33, heap_alloc_new w _, by simp [zeros33], fun j hj => by simp [zeros33, hj]⟩

/-- inRead, after k of the read types. -/
def inF (rd : List Int) (k : Nat) (j : Nat) : Value := .bool ((rd.take k).contains (j : Int))
theorem inF_next {rd : List Int} {k : Nat} {z : Int} (h : rd[k]? = some z) (h0 : 0 ≤ z) : ∀ i, i < 256 → inF rd (k + 1) i = if i = z.toNat then .bool true else inF rd k i := by
  intro i _
  obtain ⟨hk, he⟩ := List.getElem?_eq_some_iff.1 h
  unfold inF
  rw [List.take_succ_eq_append_getElem hk, he, List.contains_append]
  by_cases hi : i = z.toNat
  · rw [if_pos hi]
    have : (i : Int) = z := by omega
    simp [this]
  · rw [if_neg hi]
    have : (i : Int) ≠ z := by omega
    simp [this]

/-- first, after k payloads: the first index at which a payload of type j stands, else -1. -/
def firstTo (ps : List Pl) : Nat → Nat → Int
  | 0, _ => -1
  | k + 1, j =>
    match ps[k]? with
    | none => firstTo ps k j
    | some p => if p.ty.toNat = j ∧ firstTo ps k j < 0 then (k : Int) else firstTo ps k j

theorem first_spec (ps : List Pl) (j : Nat) (hpos : ∀ p ∈ ps, 0 ≤ p.ty) : ∀ k, k ≤ ps.length →
    (firstTo ps k j = -1 ∧ ((ps.take k).any fun q => q.ty == (j : Int)) = false) ∨ (∃ (i : Nat) (p : Pl), i < k ∧ firstTo ps k j = (i : Int) ∧ ps[i]? = some p ∧ p.ty = (j : Int) ∧ ((ps.take i).any fun q => q.ty == (j : Int)) = false)
  | 0, _ => Or.inl ⟨rfl, by simp⟩
  | k + 1, hk => by
    have hp : ps[k]? = some ps[k] := List.getElem?_eq_getElem (by omega)
    have h0 := hpos ps[k] (List.getElem_mem _)
    simp only [firstTo, hp]
    rcases first_spec ps j hpos k (by omega) with ⟨h1, h2⟩ | ⟨i, p, hi, h1, h2, h3, h4⟩
    · by_cases ht : ps[k].ty.toNat = j
      · right
        have hlt : firstTo ps k j < 0 := by omega
        rw [if_pos ⟨ht, hlt⟩]
        exact ⟨k, ps[k], by omega, rfl, hp, by omega, h2⟩
      · left
        rw [if_neg (fun h => ht h.1)]
        refine ⟨h1, ?_⟩
        rw [any_next hp, h2]
        have hb : (ps[k].ty == (j : Int)) = false := beq_eq_false_iff_ne.2 (by omega)
        rw [hb]
        rfl
    · right
      rw [if_neg (fun h => by omega)]
      exact ⟨i, p, by omega, h1, h2, h3, h4⟩

theorem any_before {ps : List Pl} {i k : Nat} {p : Pl} (hi : ps[i]? = some p) (hik : i < k) : ((ps.take k).any fun q => q.ty == p.ty) = true := by
  rw [List.any_eq_true]
  refine ⟨p, ?_, by simp⟩
  have : (ps.take k)[i]? = some p := by rw [List.getElem?_take_of_lt hik]; exact hi
  exact List.mem_of_getElem? this

/-- What the law asks at payload k is what PassedOver did there. -/
theorem first_is {ps : List Pl} {k : Nat} {p : Pl} (hpos : ∀ p ∈ ps, 0 ≤ p.ty) (hk : ps[k]? = some p) : (firstTo ps ps.length p.ty.toNat == (k : Int)) = !((ps.take k).any fun q => q.ty == p.ty) := by
  have h0 := hpos p (List.mem_of_getElem? hk)
  have hlt := (List.getElem?_eq_some_iff.1 hk).1
  have hc : ((p.ty.toNat : Nat) : Int) = p.ty := by omega
  rcases first_spec ps p.ty.toNat hpos ps.length (Nat.le_refl _) with ⟨h1, h2⟩ | ⟨i, q, hi, h1, h2, h3, h4⟩
  · rw [hc] at h2
    rw [any_before hk hlt] at h2
    cases h2
  · rw [hc] at h3 h4
    rw [h1]
    by_cases hik : i = k
    · subst hik
      rw [h4]
      simp
    · have hne : ((i : Int) == (k : Int)) = false := beq_eq_false_iff_ne.2 (by omega)
      rw [hne]
      have hlt2 : i < k := by
        apply Nat.lt_of_not_le
        intro hle
        have := any_before hk (show k < i by omega)
        rw [h4] at this
        cases this
      have h5 := any_before h2 hlt2
      rw [h3] at h5
      rw [h5]
      rfl

theorem drop_is {rd : List Int} {ps : List Pl} {k : Nat} {p : Pl} (hpos : ∀ p ∈ ps, 0 ≤ p.ty) (hk : ps[k]? = some p) : dropAt rd ps k = (rd.contains p.ty && (firstTo ps ps.length p.ty.toNat == (k : Int))) := by
  rw [first_is hpos hk]
  simp only [dropAt, hk]

theorem over_le (rd : List Int) (ps : List Pl) {i : Nat} : ∀ k, i ≤ k → ∃ ys, overTo rd ps k = overTo rd ps i ++ ys
  | 0, h => ⟨[], by have : i = 0 := by omega
                    subst this
                    simp⟩
  | k + 1, h => by
    by_cases hi : i = k + 1
    · subst hi
      exact ⟨[], by simp⟩
    · obtain ⟨ys, hy⟩ := over_le rd ps (i := i) k (by omega)
      exact ⟨ys ++ (if dropAt rd ps k then [] else (ps[k]?).toList), by simp only [overTo]; rw [hy, List.append_assoc]⟩

/-- The kept payload k stands in the answer behind those kept before it. -/
theorem over_at {rd : List Int} {ps : List Pl} {k n : Nat} {p : Pl} (hk : ps[k]? = some p) (hd : dropAt rd ps k = false) (hn : k < n) : (overTo rd ps n)[(overTo rd ps k).length]? = some p := by
  obtain ⟨ys, hy⟩ := over_le rd ps (i := k + 1) n (by omega)
  rw [hy, over_keep hd hk, List.append_assoc, List.getElem?_append_right (Nat.le_refl _)]
  simp

def firstF (ps : List Pl) (k : Nat) (j : Nat) : Value := .int .i64 (firstTo ps k j)
theorem firstF_yes {ps : List Pl} {k : Nat} {p : Pl} (h : ps[k]? = some p) (hlt : firstTo ps k p.ty.toNat < 0) : ∀ i, i < 256 → firstF ps (k + 1) i = if i = p.ty.toNat then .int .i64 (k : Int) else firstF ps k i := by
  intro i _
  simp only [firstF, firstTo, h]
  by_cases hi : i = p.ty.toNat
  · subst hi
    rw [if_pos ⟨rfl, hlt⟩, if_pos rfl]
  · rw [if_neg (fun h => hi h.1.symm), if_neg hi]
theorem firstF_no {ps : List Pl} {k : Nat} {p : Pl} (h : ps[k]? = some p) (hlt : ¬ firstTo ps k p.ty.toNat < 0) : ∀ i, i < 256 → firstF ps (k + 1) i = firstF ps k i := by
  intro i _
  simp only [firstF, firstTo, h]
  by_cases hi : i = p.ty.toNat
  · subst hi
    rw [if_neg (fun h => hlt h.2)]
  · rw [if_neg (fun h => hi h.1.symm)]

def minusF (k : Nat) (j : Nat) : Value := .int .i64 (if j < k then -1 else 0)
theorem minusF_next (k : Nat) : ∀ i, i < 256 → minusF (k + 1) i = if i = k then .int .i64 (-1) else minusF k i := by
  intro i _
  unfold minusF
  by_cases hi : i = k
  · subst hi
    rw [if_pos rfl, if_pos (by omega)]
  · rw [if_neg hi]
    congr 1
    by_cases h : i < k
    · rw [if_pos h, if_pos (by omega)]
    · rw [if_neg h, if_neg (by omega)]
theorem minusF_all (ps : List Pl) : ∀ i, i < 256 → firstF ps 0 i = minusF 256 i := by
  intro i hi
  simp [firstF, firstTo, minusF, hi]

end Go.Proofs.Qxb6625999a
