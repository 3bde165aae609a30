import Derived.Test.Qxb6625999aBase
namespace Go.Proofs.Qxb6625999a
open Go.RowKit

/-- A fresh row of payloads is handed back. -/
def RowEnd (w : World) (n : Nat) (ps : List Pl) (e : Ending) (w' : World) : Prop :=
  e = .returned (.slice (some ⟨w.heap.size, 0, none⟩) n n) ∧ w'.ownsRow w.heap.size 36 2 (.slice (some ⟨w.heap.size, 0, none⟩) n n) n (cellsP ps) ∧ Below w.heap.size w w'

theorem take_next {α : Type} {ps : List α} {k : Nat} {p : α} (h : ps[k]? = some p) : ps.take (k + 1) = ps.take k ++ [p] := by
  obtain ⟨hk, he⟩ := List.getElem?_eq_some_iff.1 h
  rw [List.take_succ_eq_append_getElem hk, he]

/-- Two stores into an owned row of payloads. -/
theorem stored_two {w : World} {B g n k : Nat} {xs : List Value} {ps : List Pl} {p : Pl} (h : w.ownsRow B 36 2 (.slice (some ⟨g, 0, none⟩) n n) n xs) (hk : k < n) (hps : ps[k]? = some p) (hx : xs.take (k * 2) = cellsP (ps.take k)) (hB : B ≤ g) (W : World) (hb : Below B W w) :
    ∃ xs', ((w.setCell ⟨g, k * 2, none⟩ (.int .u8 p.ty)).setCell ⟨g, k * 2 + 1, none⟩ (.slice p.ad p.ln p.cp)).ownsRow B 36 2 (.slice (some ⟨g, 0, none⟩) n n) n xs' ∧ xs'.take ((k + 1) * 2) = cellsP (ps.take (k + 1)) ∧
      Below B W ((w.setCell ⟨g, k * 2, none⟩ (.int .u8 p.ty)).setCell ⟨g, k * 2 + 1, none⟩ (.slice p.ad p.ln p.cp)) := by
  obtain ⟨h1, g1⟩ := h.stored (k * 2) (.int .u8 p.ty)
  obtain ⟨h2, g2⟩ := h1.stored (k * 2 + 1) (.slice p.ad p.ln p.cp)
  refine ⟨_, h2, ?_, (hb.setCell (p := ⟨g, k * 2, none⟩) hB _).setCell (p := ⟨g, k * 2 + 1, none⟩) hB _⟩
  have hl := h.1
  rw [take_next hps, cellsP_append, ← hx]
  apply List.ext_getElem?
  intro j
  have hlen : (xs.take (k * 2)).length = k * 2 := by rw [List.length_take]; omega
  by_cases hj : j < k * 2
  · rw [List.getElem?_append_left (by omega), List.getElem?_take_of_lt (by omega), List.getElem?_take_of_lt hj, List.getElem?_set_ne (by omega), List.getElem?_set_ne (by omega)]
  · rw [List.getElem?_append_right (by omega), hlen]
    by_cases h0 : j = k * 2
    · subst h0
      rw [List.getElem?_take_of_lt (by omega), List.getElem?_set_ne (by omega), List.getElem?_set_self (by omega)]
      simp [cellsP]
    · by_cases h1 : j = k * 2 + 1
      · subst h1
        rw [List.getElem?_take_of_lt (by omega), List.getElem?_set_self (by rw [List.length_set]; omega), show k * 2 + 1 - k * 2 = 1 by omega]
        simp [cellsP]
      · rw [List.getElem?_eq_none (by rw [List.length_take]; omega), List.getElem?_eq_none (by simp [cellsP]; omega)]

set_option maxHeartbeats 1000000 in
theorem toPayloads_any (a : Option Addr) (la ca : Nat) (ps : List Pl) (w : World) (hp : PlsAt w a ps) (hla : Hid (ps.length = la)) (hsm : la ≤ 16384) :
    Calls Try.prog 6 #[.slice a la ca] w fun e w' => RowEnd w la ps e w' := by
  obtain ⟨i0, hi, hz0, hz1, hz2⟩ := info_parts info36
  go_enter Try.func6, Try.ntmps6
  go_wp2_with (at_make; refine wpList_make_full _ rfl _ _ 27 rfl w.heap.size 36 i0 _ 2 Try.underlying27 hi hz0 hz1 _ _ _ _ la rfl rfl (by omega) (by omega) (by rw [hz2]; omega) (by unfold maxLen; omega) (by omega) ?_; intro w1 hown1 hg1)
  have hb1 : Below w.heap.size w w1 := (Below.refl _ _).grown hg1 (Nat.le_refl _) (fun j hj => by cases hj)
  clear hg1
  go_loopw [4] (fun i wr => ∃ (k : Nat) (xs : List Value), k ≤ la ∧ i = .int .i64 k ∧ wr.ownsRow w.heap.size 36 2 (.slice (some ⟨w.heap.size, 0, none⟩) la la) la xs ∧ Hid (xs.take (k * 2) = cellsP (ps.take k)) ∧ Below w.heap.size w wr) (fun i _ => la - (intOf i).toNat)
  case atStart => exact ⟨0, _, Nat.zero_le _, rfl, hown1, by show List.take _ _ = _; simp [cellsP], hb1⟩
  case round =>
    obtain ⟨k, xs, hk, rfl, howr, hxs, hbr⟩ := hrel
    clear hown1
    by_cases hlt : k < la
    · obtain ⟨b, off, t, d, l, cp, hps, rfl, hb, g0, g1⟩ := (hp.below hbr).pick (k := k) (by have := hla.out; omega)
      have hbw : b < w.heap.size := by
        obtain ⟨b', off', he, hlt', _⟩ := hp.2 (by have := hla.out; omega)
        simp at he
        omega
      obtain ⟨v0, o0⟩ : ∃ v, wr.cell? ⟨w.heap.size, k * 2, none⟩ = some v := ⟨_, (howr.cellAt (k * 2) (by omega)).trans (List.getElem?_eq_getElem (by have := howr.1; omega))⟩
      obtain ⟨v1, o1⟩ : ∃ v, wr.cell? ⟨w.heap.size, k * 2 + 1, none⟩ = some v := ⟨_, (howr.cellAt (k * 2 + 1) (by omega)).trans (List.getElem?_eq_getElem (by have := howr.1; omega))⟩
      have f0 := howr.frozenAt (k * 2)
      have f1 := howr.frozenAt (k * 2 + 1)
      have st := stored_two (W := w) howr hlt hps.out hxs.out (Nat.le_refl _) hbr
      have ST := (show Hid _ from st)
      clear st hp howr hxs hbr
      go_wp2_with fail
      go_region
      all_goals go_wp2
      go_roundw
      case rel =>
        obtain ⟨xs', h1, h2, h3⟩ := ST.out
        exact ⟨k + 1, xs', by omega, by go_num, h1.drew, h2, h3.drew⟩
      case measure => simp [intOf]; omega
    · clear hp
      go_wp2
      go_ret
      have hk' : k = la := by omega
      subst hk'
      have hx : xs = cellsP ps := by
        have h1 := hxs.out
        rwa [List.take_of_length_le (by have := howr.1; omega), List.take_of_length_le (by have := hla.out; omega)] at h1
      rw [hx] at howr
      exact ⟨rfl, howr, hbr⟩

/-- A fresh row of types is handed back. -/
def TypesEnd (w : World) (n : Nat) (zs : List Int) (e : Ending) (w' : World) : Prop :=
  e = .returned (.slice (some ⟨w.heap.size, 0, none⟩) n n) ∧ w'.ownsRow w.heap.size 34 1 (.slice (some ⟨w.heap.size, 0, none⟩) n n) n (zs.map (Value.int .u8)) ∧ Below w.heap.size w w'

theorem stored_one {w : World} {B g n k : Nat} {xs : List Value} {zs : List Int} {z : Int} (h : w.ownsRow B 34 1 (.slice (some ⟨g, 0, none⟩) n n) n xs) (hk : k < n) (hz : zs[k]? = some z) (hx : xs.take k = (zs.take k).map (Value.int .u8)) (hB : B ≤ g) (W : World) (hb : Below B W w) :
    ∃ xs', (w.setCell ⟨g, k, none⟩ (.int .u8 z)).ownsRow B 34 1 (.slice (some ⟨g, 0, none⟩) n n) n xs' ∧ xs'.take (k + 1) = (zs.take (k + 1)).map (Value.int .u8) ∧ Below B W (w.setCell ⟨g, k, none⟩ (.int .u8 z)) := by
  obtain ⟨h1, g1⟩ := h.stored k (.int .u8 z)
  refine ⟨_, h1, ?_, hb.setCell (p := ⟨g, k, none⟩) hB _⟩
  have hl := h.1
  rw [take_next hz, List.map_append, ← hx]
  apply List.ext_getElem?
  intro j
  have hlen : (xs.take k).length = k := by rw [List.length_take]; omega
  by_cases hj : j < k
  · rw [List.getElem?_append_left (by omega), List.getElem?_take_of_lt (by omega), List.getElem?_take_of_lt hj, List.getElem?_set_ne (by omega)]
  · rw [List.getElem?_append_right (by omega), hlen]
    by_cases h0 : j = k
    · subst h0
      rw [List.getElem?_take_of_lt (by omega), List.getElem?_set_self (by omega)]
      simp
    · rw [List.getElem?_eq_none (by rw [List.length_take]; omega), List.getElem?_eq_none (by simp; omega)]

set_option maxHeartbeats 1000000 in
theorem toTypes_any (a : Option Addr) (la ca : Nat) (zs : List Int) (w : World) (hp : IntsAt w a zs) (hla : Hid (zs.length = la)) (hsm : la ≤ 4096) :
    Calls Try.prog 7 #[.slice a la ca] w fun e w' => TypesEnd w la zs e w' := by
  obtain ⟨i0, hi, hz0, hz1, hz2⟩ := info_parts info34
  go_enter Try.func7, Try.ntmps7
  go_wp2_with (at_make; refine wpList_make_full _ rfl _ _ 29 rfl w.heap.size 34 i0 _ 1 Try.underlying29 hi hz0 hz1 _ _ _ _ la rfl rfl (by omega) (by omega) (by rw [hz2]; omega) (by unfold maxLen; omega) (by omega) ?_; intro w1 hown1 hg1)
  have hb1 : Below w.heap.size w w1 := (Below.refl _ _).grown hg1 (Nat.le_refl _) (fun j hj => by cases hj)
  clear hg1
  go_loopw [4] (fun i wr => ∃ (k : Nat) (xs : List Value), k ≤ la ∧ i = .int .i64 k ∧ wr.ownsRow w.heap.size 34 1 (.slice (some ⟨w.heap.size, 0, none⟩) la la) la xs ∧ Hid (xs.take k = (zs.take k).map (Value.int .u8)) ∧ Below w.heap.size w wr) (fun i _ => la - (intOf i).toNat)
  case atStart => exact ⟨0, _, Nat.zero_le _, rfl, hown1, by show List.take _ _ = _; simp, hb1⟩
  case round =>
    obtain ⟨k, xs, hk, rfl, howr, hxs, hbr⟩ := hrel
    clear hown1
    by_cases hlt : k < la
    · obtain ⟨b, off, z, hzk, rfl, hb, g0⟩ := (hp.below hbr).pick (k := k) (by have := hla.out; omega)
      have hbw : b < w.heap.size := by
        obtain ⟨b', off', he, hlt', _⟩ := hp.2 (by have := hla.out; omega)
        simp at he
        omega
      obtain ⟨v0, o0⟩ : ∃ v, wr.cell? ⟨w.heap.size, k, none⟩ = some v := ⟨_, (howr.cellAt k (by omega)).trans (List.getElem?_eq_getElem (by have := howr.1; omega))⟩
      have f0 := howr.frozenAt k
      have st := stored_one (W := w) howr hlt hzk.out hxs.out (Nat.le_refl _) hbr
      have ST := (show Hid _ from st)
      clear st hp howr hxs hbr
      go_wp2
      go_roundw
      case rel =>
        obtain ⟨xs', h1, h2, h3⟩ := ST.out
        exact ⟨k + 1, xs', by omega, by go_num, h1, h2, h3⟩
      case measure => simp [intOf]; omega
    · clear hp
      go_wp2
      go_ret
      have hk' : k = la := by omega
      subst hk'
      have hx : xs = zs.map (Value.int .u8) := by
        have h1 := hxs.out
        rwa [List.take_of_length_le (by have := howr.1; omega), List.take_of_length_le (by have := hla.out; omega)] at h1
      rw [hx] at howr
      exact ⟨rfl, howr, hbr⟩
end Go.Proofs.Qxb6625999a
