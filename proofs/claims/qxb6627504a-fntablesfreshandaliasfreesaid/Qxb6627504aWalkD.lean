import Derived.Test.Qxb6627504aWalkC
import Derived.Lib.SmallJoins
namespace Go.Proofs.Qxb6627504a
open Go.RowKit

theorem info36 : (Try.prog.info? 36).map (fun i => (i.zero, i.size, i.bytes)) = some (some (.agg #[.string ByteArray.empty, .string ByteArray.empty]), 2, 32) := by kernel_rfl

/-- The cells of a row of tables. -/
def flat2 (rs : List Rf) : List Value := rs.flatMap fun r => [.string r.s, .string r.n]

theorem flat2_append (xs ys : List Rf) : flat2 (xs ++ ys) = flat2 xs ++ flat2 ys := by simp [flat2]
theorem flat2_length : ∀ rs : List Rf, (flat2 rs).length = rs.length * 2
  | [] => rfl
  | r :: rs => by
    have := flat2_length rs
    simp only [flat2, List.flatMap_cons, List.length_append, List.length_cons, List.length_nil] at this ⊢
    omega
theorem flat2_at : ∀ (rs : List Rf) (k : Nat) (r : Rf), rs[k]? = some r → (flat2 rs)[k * 2]? = some (.string r.s) ∧ (flat2 rs)[k * 2 + 1]? = some (.string r.n)
  | x :: rs, 0, r, h => by
    simp at h
    subst h
    exact ⟨rfl, rfl⟩
  | x :: rs, k + 1, r, h => by
    have := flat2_at rs k r (by simpa using h)
    have e : flat2 (x :: rs) = [.string x.s, .string x.n] ++ flat2 rs := rfl
    rw [e]
    refine ⟨?_, ?_⟩
    · rw [List.getElem?_append_right (by simp; omega), show (k + 1) * 2 - [Value.string x.s, .string x.n].length = k * 2 by simp; omega]; exact this.1
    · rw [List.getElem?_append_right (by simp; omega), show (k + 1) * 2 + 1 - [Value.string x.s, .string x.n].length = k * 2 + 1 by simp; omega]; exact this.2

/-- The job's own row, as a slice of references. -/
theorem JobAt.row {w : World} {J : Nat} {rs : List Rf} (h : JobAt w J rs) (hm : rs.length ≤ maxLen) : ∃ q cap, w.cell? ⟨J, 8, none⟩ = some (.slice q rs.length cap) ∧ RefsAt w q rs := by
  obtain ⟨v, hc, _, hown⟩ := h
  rcases hown.2 with ⟨rfl, hn⟩ | ⟨g, cap, cur, rfl, hB, hblk, _⟩
  · exact ⟨none, 0, by rw [hn]; exact hc, hm, fun h0 => by omega⟩
  · refine ⟨some ⟨g, 0, none⟩, cap, hc, hm, fun _ => ⟨g, 0, rfl, (Array.getElem?_eq_some_iff.1 hblk).1, fun i r hi => ?_⟩⟩
    have hil := (List.getElem?_eq_some_iff.1 hi).1
    obtain ⟨f0, f1, f2⟩ := flat_at rs i r hi
    rw [Nat.zero_add]
    exact ⟨(hown.cellAt (i * 3) (by omega)).trans f0, (hown.cellAt (i * 3 + 1) (by omega)).trans f1, (hown.cellAt (i * 3 + 2) (by omega)).trans f2⟩

/-- A row of tables that is one's own: block g. -/
def TabsAt (w : World) (B g : Nat) (rs : List Rf) : Prop := w.ownsRow B 36 2 (.slice (some ⟨g, 0, none⟩) rs.length rs.length) rs.length (flat2 rs)

def TabEnd (w : World) (l : Nat) (rs : List Rf) (e : Ending) (w' : World) : Prop := e = .returned (.slice (some ⟨w.heap.size, 0, none⟩) l l) ∧ TabsAt w' w.heap.size w.heap.size rs ∧ Below w.heap.size w w'

theorem stored_tab {w : World} {B g n k : Nat} {xs : List Value} {rs : List Rf} {r : Rf} (h : w.ownsRow B 36 2 (.slice (some ⟨g, 0, none⟩) n n) n xs) (hk : k < n) (hz : rs[k]? = some r) (hx : xs.take (k * 2) = flat2 (rs.take k)) :
    ∃ xs', ((w.setCell ⟨g, k * 2, none⟩ (.string r.s)).setCell ⟨g, k * 2 + 1, none⟩ (.string r.n)).ownsRow B 36 2 (.slice (some ⟨g, 0, none⟩) n n) n xs' ∧ xs'.take ((k + 1) * 2) = flat2 (rs.take (k + 1)) := by
  obtain ⟨h1, _⟩ := h.stored (k * 2) (.string r.s)
  obtain ⟨h2, _⟩ := h1.stored (k * 2 + 1) (.string r.n)
  refine ⟨_, h2, ?_⟩
  have hl := h.1
  rw [take_next hz, flat2_append, ← hx]
  apply List.ext_getElem?
  intro j
  have hlen : (xs.take (k * 2)).length = k * 2 := by rw [List.length_take]; omega
  have e : flat2 [r] = [.string r.s, .string r.n] := rfl
  rw [e]
  by_cases hj : j < k * 2
  · rw [List.getElem?_append_left (by omega), List.getElem?_take_of_lt (by omega), List.getElem?_take_of_lt hj, List.getElem?_set_ne (by omega), List.getElem?_set_ne (by omega)]
  · rw [List.getElem?_append_right (by omega), hlen]
    by_cases h0 : j = k * 2
    · subst h0
      rw [List.getElem?_take_of_lt (by omega), List.getElem?_set_ne (by omega), List.getElem?_set_self (by omega)]
      simp
    · by_cases h1 : j = k * 2 + 1
      · subst h1
        rw [List.getElem?_take_of_lt (by omega), List.getElem?_set_self (by simp; omega)]
        simp
      · rw [List.getElem?_eq_none (by rw [List.length_take]; omega), List.getElem?_eq_none (by simp; omega)]

set_option maxHeartbeats 2000000 in
theorem tables_any (J l : Nat) (rs : List Rf) (w : World) (hj : JobAt w J rs) (hl : Hid (rs.length = l)) (hsm : l ≤ 65537) :
    Calls Try.prog 9 #[.pointer (some ⟨J, 0, none⟩)] w fun e w' => TabEnd w l rs e w' := by
  have hJ := hj.lt
  obtain ⟨q, cap, hc, hrow⟩ := hj.row (by rw [hl.out]; unfold maxLen; omega)
  rw [hl.out] at hc
  obtain ⟨i0, hi, hz0, hz1, hz2⟩ := info_parts info36
  clear hj
  go_enter Try.func9, Try.ntmps9
  go_wp2_with (at_make; refine wpList_make_full _ rfl _ _ 37 rfl w.heap.size 36 i0 _ 2 Try.underlying37 hi hz0 hz1 _ _ _ _ l rfl rfl (by omega) (by omega) (by rw [hz2]; omega) (by unfold maxLen; omega) (by omega) ?_; intro w1 hown1 hg1; have hb1 : Below w.heap.size w w1 := (Below.refl _ _).grown hg1 (Nat.le_refl _) (fun j hj => by cases hj); have hc1 := (hb1.cell (p := ⟨J, 8, none⟩) hJ).trans hc; clear hg1)
  have HC : Hid (w.cell? ⟨J, 8, none⟩ = some (.slice q l cap)) := hc
  clear hc hc1
  go_loopw [17] (fun i wr => ∃ (k : Nat) (xs : List Value), k ≤ l ∧ i = .int .i64 k ∧ wr.ownsRow w.heap.size 36 2 (.slice (some ⟨w.heap.size, 0, none⟩) l l) l xs ∧ Hid (xs.take (k * 2) = flat2 (rs.take k)) ∧ Below w.heap.size w wr) (fun i _ => l - (intOf i).toNat)
  case atStart => exact ⟨0, _, Nat.zero_le _, rfl, hown1, by show List.take _ _ = _; simp [flat2], hb1⟩
  case round =>
    obtain ⟨k, xs, hk, rfl, howr, hxs, hbr⟩ := hrel
    clear hown1 hb1
    by_cases hlt : k < l
    · obtain ⟨b, off, s, n, a, hrs, rfl, hb, g0, g1, g2⟩ := (hrow.below hbr).pick (k := k) (by have := hl.out; omega)
      have hbw : b < w.heap.size := by
        obtain ⟨b', off', he, hlt', _⟩ := hrow.2 (by have := hl.out; omega)
        simp at he
        omega
      obtain ⟨v0, o0⟩ : ∃ v, wr.cell? ⟨w.heap.size, k * 2, none⟩ = some v := ⟨_, (howr.cellAt (k * 2) (by omega)).trans (List.getElem?_eq_getElem (by have := howr.1; omega))⟩
      obtain ⟨v1, o1⟩ : ∃ v, wr.cell? ⟨w.heap.size, k * 2 + 1, none⟩ = some v := ⟨_, (howr.cellAt (k * 2 + 1) (by omega)).trans (List.getElem?_eq_getElem (by have := howr.1; omega))⟩
      have f0 := howr.frozenAt (k * 2)
      have f1 := howr.frozenAt (k * 2 + 1)
      have hlw : w.heap.size < wr.heap.size := (howr.lt _ rfl).2
      have HOW := hide howr
      have HBR := hide hbr
      clear hrow howr hbr
      go_wp2
      go_roundw
      case rel =>
        obtain ⟨xs', h1, h2⟩ := stored_tab HOW.out hlt hrs.out hxs.out
        exact ⟨k + 1, xs', by omega, by go_num, h1.alloc _, h2, ((HBR.out.setCell (p := ⟨w.heap.size, k * 2, none⟩) (Nat.le_refl _) _).setCell (p := ⟨w.heap.size, k * 2 + 1, none⟩) (Nat.le_refl _) _).alloc (by simp; omega) _⟩
      case measure => simp [intOf]; omega
    · clear hrow
      go_wp2
      go_ret
      have hk' : k = l := by omega
      subst hk'
      refine ⟨rfl, ?_, hbr⟩
      have hx : xs = flat2 rs := by
        have h1 := hxs.out
        rwa [List.take_of_length_le (by have := howr.1; omega), List.take_of_length_le (by have := hl.out; omega)] at h1
      rw [hx] at howr
      unfold TabsAt
      rw [hl.out]
      exact howr

/-! matchesRefs -/
theorem TabsAt.below {w w' : World} {B g : Nat} {rs : List Rf} (h : TabsAt w B g rs) (hb : Below w.heap.size w w') : TabsAt w' B g rs := ownsRow_kept h hb

theorem TabsAt.pick {w : World} {B g : Nat} {rs : List Rf} (h : TabsAt w B g rs) {k : Nat} {s n a : ByteArray} (hk : rs[k]? = some ⟨s, n, a⟩) : w.cell? ⟨g, k * 2, none⟩ = some (.string s) ∧ w.cell? ⟨g, k * 2 + 1, none⟩ = some (.string n) := by
  have hil := (List.getElem?_eq_some_iff.1 hk).1
  obtain ⟨f0, f1⟩ := flat2_at rs k _ hk
  exact ⟨(World.ownsRow.cellAt h (k * 2) (by omega)).trans f0, (World.ownsRow.cellAt h (k * 2 + 1) (by omega)).trans f1⟩

theorem TabsAt.lt {w : World} {B g : Nat} {rs : List Rf} (h : TabsAt w B g rs) : B ≤ g ∧ g < w.heap.size := World.ownsRow.lt h g rfl

def MatEnd (w : World) (e : Ending) (w' : World) : Prop := e = .returned (.bool true) ∧ Below w.heap.size w w'

set_option maxHeartbeats 2000000 in
theorem matches_any (B g : Nat) (p : Option Addr) (l c : Nat) (rs : List Rf) (w : World) (ht : TabsAt w B g rs) (hp : RefsAt w p rs) (hl : Hid (rs.length = l)) :
    Calls Try.prog 10 #[.slice (some ⟨g, 0, none⟩) l l, .slice p l c] w fun e w' => MatEnd w e w' := by
  have hm := hp.1
  rw [hl.out] at hm
  unfold maxLen at hm
  have HT : Hid (TabsAt w B g rs) := ht
  clear ht
  go_enter Try.func10, Try.ntmps10
  go_wp2
  go_loopw [5] (fun i wr => ∃ (k : Nat), k ≤ l ∧ i = .int .i64 k ∧ Below w.heap.size w wr) (fun i _ => l - (intOf i).toNat)
  case atStart => exact ⟨0, Nat.zero_le _, rfl, Below.refl _ _⟩
  case round =>
    obtain ⟨k, hk, rfl, hbel⟩ := hrel
    by_cases hlt : k < l
    · obtain ⟨b, off, s, n, a, hrs, rfl, hb, g0, g1, g2⟩ := (hp.below hbel).pick (k := k) (by have := hl.out; omega)
      obtain ⟨t0, t1⟩ := (HT.out.below hbel).pick hrs.out
      have HB : Hid (Below w.heap.size w wr) := hbel
      clear hp hbel
      have hkl : (k : Int) < (l : Int) := by omega
      go_wp2
      go_quiet (fail)
      go_wp2
      go_roundw
      case rel => exact ⟨k + 1, by omega, by go_num, below_drewN HB.out nq⟩
      case measure => simp [intOf]; omega
    · clear hp
      go_wp2
      go_ret
      exact ⟨rfl, hbel⟩
end Go.Proofs.Qxb6627504a
