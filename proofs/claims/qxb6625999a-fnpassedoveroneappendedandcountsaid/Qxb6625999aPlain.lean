import Derived.Test.Qxb6625999aBase
namespace Go.Proofs.Qxb6625999a

/-- Is payload k the first of its type, and its type one of those that are read? -/
def dropAt (rd : List Int) (ps : List Pl) (k : Nat) : Bool :=
  match ps[k]? with
  | none => false
  | some p => rd.contains p.ty && !((ps.take k).any fun q => q.ty == p.ty)

/-- What PassedOver has kept after k payloads. -/
def overTo (rd : List Int) (ps : List Pl) : Nat → List Pl
  | 0 => []
  | k + 1 => overTo rd ps k ++ (if dropAt rd ps k then [] else (ps[k]?).toList)

/-- The types that it has noted as seen after k payloads. -/
def seenTo (rd : List Int) (ps : List Pl) : Nat → List Int
  | 0 => []
  | k + 1 => seenTo rd ps k ++ (if dropAt rd ps k then ((ps[k]?).map Pl.ty).toList else [])

theorem any_next {ps : List Pl} {k : Nat} {p : Pl} (h : ps[k]? = some p) (t : Int) : ((ps.take (k + 1)).any fun q => q.ty == t) = (((ps.take k).any fun q => q.ty == t) || p.ty == t) := by
  obtain ⟨hk, he⟩ := List.getElem?_eq_some_iff.1 h
  rw [List.take_succ_eq_append_getElem hk, he]
  simp

theorem seen_iff (rd : List Int) (ps : List Pl) (t : Int) : ∀ k, k ≤ ps.length → (seenTo rd ps k).contains t = (rd.contains t && (ps.take k).any fun q => q.ty == t)
  | 0, _ => by simp [seenTo]
  | k + 1, hk => by
    have ih := seen_iff rd ps t k (by omega)
    have hp : ps[k]? = some ps[k] := List.getElem?_eq_getElem (by omega)
    rw [any_next hp]
    simp only [seenTo]
    by_cases hd : dropAt rd ps k = true
    · rw [if_pos hd, hp]
      simp only [dropAt, hp, Bool.and_eq_true, Bool.not_eq_true'] at hd
      simp only [Option.map_some, Option.toList_some, List.contains_append, ih]
      by_cases ht : ps[k].ty = t
      · subst ht
        rw [hd.1]
        simp
      · have hb : (ps[k].ty == t) = false := beq_eq_false_iff_ne.2 ht
        rw [hb]
        simp [Ne.symm ht]
    · have hd' : dropAt rd ps k = false := by simpa using hd
      rw [if_neg hd, List.append_nil, ih]
      simp only [dropAt, hp] at hd'
      by_cases ht : ps[k].ty = t
      · subst ht
        cases h1 : rd.contains ps[k].ty
        · simp
        · rw [h1] at hd'
          simp only [Bool.true_and, Bool.not_eq_false'] at hd'
          rw [hd']
          simp
      · have hb : (ps[k].ty == t) = false := beq_eq_false_iff_ne.2 ht
        rw [hb]
        simp

theorem drop_yes {rd : List Int} {ps : List Pl} {k : Nat} {p : Pl} (h : ps[k]? = some p) (hr : rd.contains p.ty = true) (hs : (seenTo rd ps k).contains p.ty = false) : dropAt rd ps k = true := by
  have hk := (List.getElem?_eq_some_iff.1 h).1
  rw [seen_iff rd ps p.ty k (by omega), hr] at hs
  simp only [Bool.true_and] at hs
  simp only [dropAt, h, hr, hs]
  rfl
theorem drop_no1 {rd : List Int} {ps : List Pl} {k : Nat} {p : Pl} (h : ps[k]? = some p) (hr : rd.contains p.ty = false) : dropAt rd ps k = false := by
  simp only [dropAt, h, hr, Bool.false_and]
theorem drop_no2 {rd : List Int} {ps : List Pl} {k : Nat} {p : Pl} (h : ps[k]? = some p) (hs : (seenTo rd ps k).contains p.ty = true) : dropAt rd ps k = false := by
  have hk := (List.getElem?_eq_some_iff.1 h).1
  rw [seen_iff rd ps p.ty k (by omega)] at hs
  simp only [Bool.and_eq_true] at hs
  simp only [dropAt, h, hs.2, Bool.not_true, Bool.and_false]

theorem over_drop {rd : List Int} {ps : List Pl} {k : Nat} (h : dropAt rd ps k = true) : overTo rd ps (k + 1) = overTo rd ps k := by simp [overTo, h]
theorem over_keep {rd : List Int} {ps : List Pl} {k : Nat} {p : Pl} (h : dropAt rd ps k = false) (hp : ps[k]? = some p) : overTo rd ps (k + 1) = overTo rd ps k ++ [p] := by simp [overTo, h, hp]
theorem seen_drop {rd : List Int} {ps : List Pl} {k : Nat} {p : Pl} (h : dropAt rd ps k = true) (hp : ps[k]? = some p) : seenTo rd ps (k + 1) = seenTo rd ps k ++ [p.ty] := by simp [seenTo, h, hp]
theorem seen_keep {rd : List Int} {ps : List Pl} {k : Nat} (h : dropAt rd ps k = false) : seenTo rd ps (k + 1) = seenTo rd ps k := by simp [seenTo, h]

theorem over_len (rd : List Int) (ps : List Pl) : ∀ k, (overTo rd ps k).length ≤ k
  | 0 => by simp [overTo]
  | k + 1 => by
    have ih := over_len rd ps k
    simp only [overTo]
    split
    · simp; omega
    · rw [List.length_append]
      have : (ps[k]?).toList.length ≤ 1 := by cases ps[k]? <;> simp
      omega
theorem seen_len (rd : List Int) (ps : List Pl) : ∀ k, (seenTo rd ps k).length ≤ k
  | 0 => by simp [seenTo]
  | k + 1 => by
    have ih := seen_len rd ps k
    simp only [seenTo]
    split
    · rw [List.length_append]
      have : ((ps[k]?).map Pl.ty).toList.length ≤ 1 := by cases ps[k]? <;> simp
      omega
    · simp; omega

end Go.Proofs.Qxb6625999a
