import Derived.Test.Qxb6625794aBase
namespace Go.Proofs.Qxb6625794a
open Go.RowKit

def cellsOf (os : List Ob) : List Value := os.flatMap fun o => [.string o.t, .string o.i, .string o.k, .string o.r]
theorem cellsOf_append (xs ys : List Ob) : cellsOf (xs ++ ys) = cellsOf xs ++ cellsOf ys := by simp [cellsOf]
theorem cellsOf_length (xs : List Ob) : (cellsOf xs).length = xs.length * 4 := by
  induction xs with
  | nil => rfl
  | cons x xs ih =>
    have : cellsOf (x :: xs) = [.string x.t, .string x.i, .string x.k, .string x.r] ++ cellsOf xs := rfl
    rw [this, List.length_append, ih]
    simp
    omega

theorem info31 : (Try.prog.info? 31).map (fun i => (i.zero, i.size, i.bytes)) = some (some (.agg #[.string ByteArray.empty, .string ByteArray.empty, .string ByteArray.empty, .string ByteArray.empty]), 4, 64) := by kernel_rfl

/-- The call's own row: block g holds a row of 'cap' Objs of which the first are 'os'. -/
def Own (w : World) (B g cap : Nat) (os : List Ob) : Prop :=
  w.ownsRow B 31 4 (.slice (some ⟨g, 0, none⟩) os.length cap) os.length (cellsOf os)

theorem take_next {os : List Ob} {k : Nat} {o : Ob} (h : os[k]? = some o) : os.take (k + 1) = os.take k ++ [o] := by
  obtain ⟨hk, he⟩ := List.getElem?_eq_some_iff.1 h
  rw [List.take_succ_eq_append_getElem hk, he]

theorem cells_four (w : World) (x y z u : Value) (e : TypeId) : ∀ j v, [x, y, z, u][j]? = some v → (w.alloc (.cells #[x, y, z, u] e)).cell? ((⟨w.heap.size, 0, none⟩ : Addr).add j) = some v := by
  intro j v hj
  rw [Addr.add_lit, cell_of_row _ _ _ #[x, y, z, u] e (0, 0) (heap_alloc_new w _)]
  simpa using hj

theorem four_one (t i k r : ByteArray) : ∀ u ∈ [Value.string t, .string i, .string k, .string r], u.oneCell' = true := by
  intro u hu
  simp at hu
  rcases hu with rfl | rfl | rfl | rfl <;> rfl

theorem Own.of {w : World} {B g cap n : Nat} {os : List Ob} (h : w.ownsRow B 31 4 (.slice (some ⟨g, 0, none⟩) n cap) n (cellsOf os)) (hn : os.length = n) : Own w B g cap os := by
  subst hn
  exact h

theorem Own.row {w : World} {B g cap n : Nat} {os : List Ob} (h : Own w B g cap os) (hn : os.length = n) : w.ownsRow B 31 4 (.slice (some ⟨g, 0, none⟩) n cap) n (cellsOf os) := by
  subst hn
  exact h

def ToEnd (w : World) (B g cap l : Nat) (os : List Ob) (e : Ending) (w' : World) : Prop :=
  e = .returned (.slice (some ⟨g, 0, none⟩) l cap) ∧ Own w' B g cap os ∧ w.grownBy w' (some g)

set_option maxHeartbeats 1000000 in
theorem toLock_any (W0 : World) (a : Option Addr) (la ca : Nat) (os qs : List Ob) (g n cap : Nat) (w : World) (ho : ObsAt W0 a os) (hla : Hid (os.length = la)) (hn : Hid (qs.length = n))
    (hbel : Below W0.heap.size W0 w) (hg : W0.heap.size ≤ g) (hown : Own w W0.heap.size g cap qs) (hfit : n + la ≤ cap) (hcap : cap ≤ 4194304) :
    Calls Try.prog 9 #[.slice a la ca, .slice (some ⟨g, 0, none⟩) n cap] w fun e w' => ToEnd w W0.heap.size g cap (n + la) (qs ++ os) e w' := by
  obtain ⟨i0, hi, hz0, hz1, hz2⟩ := info_parts info31
  go_enter Try.func9, Try.ntmps9
  go_wp2
  go_loopw [1, 5] (fun s i wr => ∃ (k : Nat), k ≤ la ∧ i = .int .i64 k ∧ s = .slice (some ⟨g, 0, none⟩) (n + k) cap ∧ Own wr W0.heap.size g cap (qs ++ os.take k) ∧ w.grownBy wr (some g)) (fun _ i _ => la - (intOf i).toNat)
  case atStart => exact ⟨0, Nat.zero_le _, rfl, rfl, by simpa using hown, World.grownBy.refl _ _⟩
  case round =>
    obtain ⟨k, hk, rfl, rfl, howr, hgr⟩ := hrel
    by_cases hlt : k < la
    · have hbr : Below W0.heap.size W0 wr := hbel.grown hgr hbel.size (fun j hj => by cases hj; exact hg)
      obtain ⟨b, off, t, i, kk, r, hos, rfl, hb, g0, g1, g2, g3⟩ := (ho.below hbr).pick (k := k) (by have := hla.out; omega)
      have hlen : Hid ((qs ++ os.take k).length = n + k) := by
        have := hla.out
        have := hn.out
        show (qs ++ os.take k).length = n + k
        simp
        omega
      have hrow := howr.row hlen.out
      clear ho howr hown hbr
      go_wp2_with (at_builtin; refine wpList_append_fits _ rfl (.tmp 12) (.tmp 17) 29 rfl W0.heap.size 31 i0 4 Try.underlying29 hi hz1 g (n + k) cap _ rfl (hrow.alloc _) ⟨wr.heap.size, 0, none⟩ 1 1 [.string t, .string i, .string kk, .string r] rfl rfl ?c1 ?c2 ?c3 ?_)
      · exact cells_four _ _ _ _ _ _
      · exact four_one _ _ _ _
      · omega
      · intro w1 hown1 hgrow1
        have hall := hgr.trans ((World.grownBy_alloc wr _ _).trans hgrow1)
        have hown2 : Own w1 W0.heap.size g cap (qs ++ os.take (k + 1)) := by
          refine Own.of (n := n + k + 1) ?_ ?_
          · rw [take_next hos.out, ← List.append_assoc, cellsOf_append]
            exact hown1
          · have := hla.out
            have := hn.out
            simp
            omega
        clear hown1 hgrow1 hrow hgr
        go_wp2
        go_roundw
        case rel => exact ⟨k + 1, by omega, by go_num, by rw [Nat.add_assoc], hown2, hall⟩
        case measure => simp [intOf]; omega
    · go_wp2
      go_ret
      have e : os.take k = os := List.take_of_length_le (by have := hla.out; omega)
      rw [e] at howr
      have hk2 : k = la := by omega
      rw [hk2]
      exact ⟨rfl, howr, hgr⟩
end Go.Proofs.Qxb6625794a
