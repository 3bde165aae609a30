import Derived.Test.Qxb6625999aRowsOf
namespace Go.Proofs.Qxb6625999a
open Go.RowKit

theorem drop_app {rd : List Int} {ps : List Pl} {p : Pl} {k : Nat} (hk : k < ps.length) : dropAt rd (ps ++ [p]) k = dropAt rd ps k := by
  simp only [dropAt]
  rw [List.getElem?_append_left hk, List.take_append_of_le_length (by omega)]

theorem over_app (rd : List Int) (ps : List Pl) (p : Pl) : ∀ k, k ≤ ps.length → overTo rd (ps ++ [p]) k = overTo rd ps k
  | 0, _ => rfl
  | k + 1, hk => by
    simp only [overTo]
    rw [over_app rd ps p k (by omega), drop_app (by omega), List.getElem?_append_left (by omega)]

theorem drop_last {rd : List Int} {ps : List Pl} {p : Pl} {n : Nat} (hn : ps.length = n) : dropAt rd (ps ++ [p]) n = (rd.contains p.ty && !(ps.any fun q => q.ty == p.ty)) := by
  subst hn
  simp only [dropAt]
  rw [List.getElem?_append_right (Nat.le_refl _), List.take_append_of_le_length (Nat.le_refl _), List.take_length]
  simp

theorem last_at {ps : List Pl} {p : Pl} {n : Nat} (hn : ps.length = n) : (ps ++ [p])[n]? = some p := by
  subst hn
  simp

theorem over_last_keep {rd : List Int} {ps : List Pl} {p : Pl} {n : Nat} (hn : ps.length = n) (hd : dropAt rd (ps ++ [p]) n = false) : overTo rd (ps ++ [p]) (n + 1) = overTo rd ps n ++ [p] := by
  rw [over_keep hd (last_at hn), over_app rd ps p n (by omega)]
theorem over_last_drop {rd : List Int} {ps : List Pl} {p : Pl} {n : Nat} (hn : ps.length = n) (hd : dropAt rd (ps ++ [p]) n = true) : overTo rd (ps ++ [p]) (n + 1) = overTo rd ps n := by
  rw [over_drop hd, over_app rd ps p n (by omega)]

theorem over_mem {rd : List Int} {ps : List Pl} {q : Pl} : ∀ k, q ∈ overTo rd ps k → q ∈ ps
  | 0, h => by simp [overTo] at h
  | k + 1, h => by
    simp only [overTo, List.mem_append] at h
    rcases h with h | h
    · exact over_mem k h
    · split at h
      · simp at h
      · rw [Option.mem_toList] at h
        exact List.mem_of_getElem? h

/-- How many payloads have been taken out. -/
def dropsTo (rd : List Int) (ps : List Pl) : Nat → Nat
  | 0 => 0
  | k + 1 => dropsTo rd ps k + (if dropAt rd ps k then 1 else 0)

theorem drops_over (rd : List Int) (ps : List Pl) : ∀ k, k ≤ ps.length → (overTo rd ps k).length + dropsTo rd ps k = k
  | 0, _ => rfl
  | k + 1, hk => by
    have ih := drops_over rd ps k (by omega)
    have hp : ps[k]? = some ps[k] := List.getElem?_eq_getElem (by omega)
    simp only [dropsTo]
    by_cases hd : dropAt rd ps k = true
    · rw [over_drop hd, if_pos hd]
      omega
    · have hd' : dropAt rd ps k = false := by simpa using hd
      rw [over_keep hd' hp, if_neg hd, List.length_append]
      simp
      omega

/-- occurs, after k payloads. -/
def occF (ps : List Pl) (k : Nat) (j : Nat) : Value := .bool ((ps.take k).any fun q => q.ty == (j : Int))
theorem occF_next {ps : List Pl} {k : Nat} {p : Pl} (h : ps[k]? = some p) (h0 : 0 ≤ p.ty) : ∀ i, i < 256 → occF ps (k + 1) i = if i = p.ty.toNat then .bool true else occF ps k i := by
  intro i _
  unfold occF
  rw [any_next h]
  by_cases hi : i = p.ty.toNat
  · rw [if_pos hi]
    have : p.ty = (i : Int) := by omega
    simp [this]
  · rw [if_neg hi]
    have hb : (p.ty == (i : Int)) = false := beq_eq_false_iff_ne.2 (by omega)
    rw [hb, Bool.or_false]
theorem occF_at {ps : List Pl} {k : Nat} {t : Int} (h0 : 0 ≤ t) : occF ps k t.toNat = .bool ((ps.take k).any fun q => q.ty == t) := by
  unfold occF
  rw [show ((t.toNat : Nat) : Int) = t by omega]

/-- inRead at a type, when all of read has been marked. -/
theorem inF_all {rd : List Int} {q : Nat} {t : Int} (hq : rd.length = q) (h0 : 0 ≤ t) : inF rd q t.toNat = .bool (rd.contains t) := by
  unfold inF
  rw [List.take_of_length_le (by omega), show ((t.toNat : Nat) : Int) = t by omega]

theorem BodyAt.ofDrawn {w : World} {a : Option Addr} {l : Nat} (h : BodyAt w a l) (n : Nat) : BodyAt (w.drewN n) a l := h

end Go.Proofs.Qxb6625999a
