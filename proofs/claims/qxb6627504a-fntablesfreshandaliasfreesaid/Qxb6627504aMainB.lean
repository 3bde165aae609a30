import Derived.Test.Qxb6627504aWalkA
import Derived.Test.Qxb6627504aWalkD
namespace Go.Proofs.Qxb6627504a
open Go.RowKit

def LawBEnd (w : World) (e : Ending) (w' : World) : Prop := e = .returned (.bool true) ∧ Below w.heap.size w w'

/-- The references, their aliases struck. -/
def bare (rs : List Rf) : List Rf := rs.map fun r => ⟨r.s, r.n, ⟨#[]⟩⟩
theorem bare_length (rs : List Rf) : (bare rs).length = rs.length := by simp [bare]
theorem bare_next {rs : List Rf} {k : Nat} {s n a : ByteArray} (h : rs[k]? = some ⟨s, n, a⟩) : bare (rs.take (k + 1)) = bare (rs.take k) ++ [⟨s, n, ⟨#[]⟩⟩] := by
  rw [take_next h]
  simp [bare]
theorem flat2_bare (rs : List Rf) : flat2 (bare rs) = flat2 rs := by
  simp [flat2, bare, List.flatMap_map]
theorem TabsAt.ofBare {w : World} {B g : Nat} {rs : List Rf} (h : TabsAt w B g (bare rs)) : TabsAt w B g rs := by
  unfold TabsAt at h ⊢
  rw [flat2_bare, bare_length] at h
  exact h

/-- The row of tables, scribbled over up to place k; behind it it is as it was. -/
def ScribAt (w : World) (g l k : Nat) (rs : List Rf) : Prop := ∃ xs, w.ownsRow g 36 2 (.slice (some ⟨g, 0, none⟩) l l) l xs ∧ xs.drop (k * 2) = (flat2 rs).drop (k * 2)

theorem ScribAt.start {w : World} {g l : Nat} {rs : List Rf} (h : TabsAt w g g rs) (hl : rs.length = l) : ScribAt w g l 0 rs := by
  unfold TabsAt at h
  rw [hl] at h
  exact ⟨_, h, rfl⟩

theorem ScribAt.pick {w : World} {g l k : Nat} {rs : List Rf} {s n a : ByteArray} (h : ScribAt w g l k rs) (hl : rs.length = l) (hk : rs[k]? = some ⟨s, n, a⟩) :
    w.cell? ⟨g, k * 2, none⟩ = some (.string s) ∧ w.cell? ⟨g, k * 2 + 1, none⟩ = some (.string n) ∧ w.frozen? ⟨g, k * 2, none⟩ = false ∧ w.frozen? ⟨g, k * 2 + 1, none⟩ = false ∧ g < w.heap.size ∧
      Hid (∀ X Y : Value, ScribAt ((w.setCell ⟨g, k * 2, none⟩ X).setCell ⟨g, k * 2 + 1, none⟩ Y) g l (k + 1) rs) := by
  obtain ⟨xs, hown, hdrop⟩ := h
  have hil := (List.getElem?_eq_some_iff.1 hk).1
  obtain ⟨f0, f1⟩ := flat2_at rs k _ hk
  have e0 : xs[k * 2]? = some (.string s) := by
    have : (xs.drop (k * 2))[0]? = ((flat2 rs).drop (k * 2))[0]? := by rw [hdrop]
    rw [List.getElem?_drop, List.getElem?_drop] at this
    exact this.trans f0
  have e1 : xs[k * 2 + 1]? = some (.string n) := by
    have : (xs.drop (k * 2))[1]? = ((flat2 rs).drop (k * 2))[1]? := by rw [hdrop]
    rw [List.getElem?_drop, List.getElem?_drop] at this
    exact this.trans f1
  refine ⟨(hown.cellAt (k * 2) (by omega)).trans e0, (hown.cellAt (k * 2 + 1) (by omega)).trans e1, hown.frozenAt _, hown.frozenAt _, (hown.lt g rfl).2, fun X Y => ?_⟩
  obtain ⟨h1, _⟩ := hown.stored (k * 2) X
  obtain ⟨h2, _⟩ := h1.stored (k * 2 + 1) Y
  refine ⟨_, h2, ?_⟩
  apply List.ext_getElem?
  intro j
  have : (xs.drop (k * 2))[j + 2]? = ((flat2 rs).drop (k * 2))[j + 2]? := by rw [hdrop]
  rw [List.getElem?_drop, List.getElem?_drop] at this ⊢
  rw [List.getElem?_set_ne (by omega), List.getElem?_set_ne (by omega), show (k + 1) * 2 + j = k * 2 + (j + 2) by omega]
  exact this

theorem ScribAt.alloc {w : World} {g l k : Nat} {rs : List Rf} (h : ScribAt w g l k rs) (o : Obj) : ScribAt (w.alloc o) g l k rs := by
  obtain ⟨xs, h1, h2⟩ := h
  exact ⟨xs, h1.alloc o, h2⟩

theorem ScribAt.below {w w' : World} {g l k : Nat} {rs : List Rf} (h : ScribAt w g l k rs) (hb : Below w.heap.size w w') : ScribAt w' g l k rs := by
  obtain ⟨xs, h1, h2⟩ := h
  exact ⟨xs, ownsRow_kept h1 hb, h2⟩

set_option maxRecDepth 100000 in
set_option maxHeartbeats 4000000 in
theorem lawB_any (p : Option Addr) (l c : Nat) (rs : List Rf) (w : World) (hp : RefsAt w p rs) (hl : Hid (rs.length = l)) :
    Calls Try.prog 4 #[.slice p l c] w fun e w' => LawBEnd w e w' := by
  have hm := hp.1
  rw [hl.out] at hm
  unfold maxLen at hm
  have HP : Hid (RefsAt w p rs) := hp
  clear hp
  go_enter Try.func4, Try.ntmps4
  go_wp2_with fail
  refine (zzBytes11_any p l c rs w HP.out hl).mono ?_
  rintro e w0 ⟨b, rfl, hw0⟩
  have hw0' : w = w0 := hw0.symm
  subst hw0'
  clear hw0
  cases b
  · go_wp2
    go_ret
    exact ⟨rfl, Below.refl _ _⟩
  go_wp2_with fail
  refine (tooBig_any p l c _ rs w HP.out hl).mono ?_
  rintro e W1 ⟨b, rfl, hb1, hbig⟩
  have HB1 : Hid (Below w.heap.size w W1) := hb1
  clear hb1
  cases b
  case true =>
    go_wp2
    go_ret
    exact ⟨rfl, HB1.out⟩
  have hl6 : l ≤ 65536 := (hbig rfl).1
  have HSH : Hid (Short rs) := (hbig rfl).2
  clear hbig
  have HP1 : Hid (RefsAt W1 p rs) := HP.out.below HB1.out
  go_wp2_with fail
  refine (build_any p l c rs W1 HP1.out hl hl6).mono ?_
  rintro e W2 ⟨rfl, hj1, hb2⟩
  have HJ1 : Hid (JobAt W2 W1.heap.size rs) := hj1
  have HB2 : Hid (Below w.heap.size w W2) := HB1.out.trans (hb2.mono HB1.out.size)
  have HP2 : Hid (RefsAt W2 p rs) := HP1.out.below hb2
  clear hj1 hb2
  go_wp2
  go_loopw [5] (fun i wr => ∃ (k : Nat), k ≤ l ∧ i = .int .i64 k ∧ JobAt wr W2.heap.size (bare (rs.take k)) ∧ Below W2.heap.size W2 wr) (fun i _ => l - (intOf i).toNat)
  case atStart => exact ⟨0, Nat.zero_le _, rfl, job_new W2 _ rfl, (Below.refl _ _).alloc (Nat.le_refl _) _⟩
  case round =>
    obtain ⟨k, hk, rfl, hj, hbel⟩ := hrel
    by_cases hlt : k < l
    · obtain ⟨b, off, s, n, a, hrs, rfl, hb, g0, g1, g2, KEEP⟩ := HP2.out.deep hbel (k := k) (by have := hl.out; omega)
      have HB : Hid (Below W2.heap.size W2 wr) := hbel
      have HC := hide (addRef_any W2.heap.size (bare (rs.take k)) s n ⟨#[]⟩ wr.drew hj.drew (by rw [bare_length, List.length_take]; omega))
      clear hbel hj g2
      have hkl : (k : Int) < (l : Int) := by omega
      have hk0 : (0 : Int) ≤ (k : Int) := by omega
      go_wp2
      go_region_held3 (fun w' => w'.cell? ⟨b, off + k * 3, none⟩ = some (.string s) ∧ w'.cell? ⟨b, off + k * 3+1, none⟩ = some (.string n)) (first | go_keep | exact ⟨(KEEP.out _ hb1).1, (KEEP.out _ hb1).2.1⟩)
        ((go_at_call 8; refine HC.out.mono ?_; rintro e w1 ⟨rfl, hj1, hb1⟩))
      all_goals go_wp2
      go_roundw
      case rel => exact ⟨k + 1, by omega, by go_num, by rw [bare_next hrs.out]; exact hj1, HB.out.trans ((Below.refl _ _).drew.trans hb1)⟩
      case measure => simp [intOf]; omega
    · obtain ⟨W4, hW4⟩ : ∃ W, W = wr := ⟨_, rfl⟩
      subst hW4
      have hk' : rs.take k = rs := List.take_of_length_le (by have := hl.out; omega)
      rw [hk'] at hj
      have HJ41 : Hid (JobAt W4 W1.heap.size rs) := HJ1.out.below hbel
      have HJ42 : Hid (JobAt W4 W2.heap.size (bare rs)) := hj
      have HP4 : Hid (RefsAt W4 p rs) := HP2.out.below hbel
      have HBW4 : Hid (Below w.heap.size w W4) := HB2.out.trans (hbel.mono HB2.out.size)
      clear hj hbel hk'
      go_wp2_with fail
      refine (tables_any W1.heap.size l rs W4 HJ41.out hl (by omega)).mono ?_
      rintro e W5 ⟨rfl, ht5, hb5⟩
      have HT5 : Hid (TabsAt W5 W4.heap.size W4.heap.size rs) := ht5
      have HB5 : Hid (Below W4.heap.size W4 W5) := hb5
      have HP5 : Hid (RefsAt W5 p rs) := HP4.out.below hb5
      clear ht5 hb5
      go_wp2_with fail
      refine (matches_any W4.heap.size W4.heap.size p l c rs W5 HT5.out HP5.out hl).mono ?_
      rintro e W6 ⟨rfl, hb6⟩
      have HT6 : Hid (TabsAt W6 W4.heap.size W4.heap.size rs) := HT5.out.below hb6
      have HB6 : Hid (Below W4.heap.size W4 W6) := HB5.out.trans (hb6.mono HB5.out.size)
      clear hb6 HT5 HB5 HP5
      go_wp2
      go_loopw [7] (fun i wr => ∃ (m : Nat), m ≤ l ∧ i = .int .i64 m ∧ ScribAt wr W4.heap.size l m rs ∧ Below W4.heap.size W4 wr) (fun i _ => l - (intOf i).toNat)
      case atStart => exact ⟨0, Nat.zero_le _, rfl, ScribAt.start HT6.out hl.out, HB6.out⟩
      case round =>
        obtain ⟨m, hml, rfl, hsc, hbel⟩ := hrel
        by_cases hlt2 : m < l
        · obtain ⟨r, hr⟩ : ∃ r, rs[m]? = some r := ⟨_, List.getElem?_eq_getElem (by have := hl.out; omega)⟩
          obtain ⟨s, n, a⟩ := r
          obtain ⟨z1, z2, z3⟩ := HSH.out _ (List.mem_of_getElem? hr)
          replace z1 : s.size ≤ 1048576 := z1
          replace z2 : n.size ≤ 1048576 := z2
          obtain ⟨c0, c1, f0, f1, hgl, NEXT⟩ := hsc.pick hl.out hr
          have HBR : Hid (Below W4.heap.size W4 wr) := hbel
          have hmll : (m : Int) < (l : Int) := by omega
          clear hr hsc hbel z3
          go_wp2
          go_roundw
          case rel => exact ⟨m + 1, by omega, by go_num, (NEXT.out _ _).alloc _, ((HBR.out.setCell (p := ⟨W4.heap.size, m * 2, none⟩) (Nat.le_refl _) _).setCell (p := ⟨W4.heap.size, m * 2 + 1, none⟩) (Nat.le_refl _) _).alloc (by simp; omega) _⟩
          case measure => simp [intOf]; omega
        · obtain ⟨W7, hW7⟩ : ∃ W, W = wr := ⟨_, rfl⟩
          subst hW7
          have HB7 : Hid (Below W4.heap.size W4 W7) := hbel
          have HJ71 : Hid (JobAt W7 W1.heap.size rs) := HJ41.out.below hbel
          have HJ72 : Hid (JobAt W7 W2.heap.size (bare rs)) := HJ42.out.below hbel
          have HP7 : Hid (RefsAt W7 p rs) := HP4.out.below hbel
          have HBW7 : Hid (Below w.heap.size w W7) := HBW4.out.trans (hbel.mono HBW4.out.size)
          clear hsc hbel HT6 HB6
          go_wp2_with fail
          refine (tables_any W1.heap.size l rs W7 HJ71.out hl (by omega)).mono ?_
          rintro e W8 ⟨rfl, ht8, hb8⟩
          have HT8 : Hid (TabsAt W8 W7.heap.size W7.heap.size rs) := ht8
          have HJ8 : Hid (JobAt W8 W2.heap.size (bare rs)) := HJ72.out.below hb8
          have HP8 : Hid (RefsAt W8 p rs) := HP7.out.below hb8
          have HBW8 : Hid (Below w.heap.size w W8) := HBW7.out.trans (hb8.mono HBW7.out.size)
          clear ht8 hb8 HJ71 HJ72 HP7 HBW7
          have hbl : Hid ((bare rs).length = l) := by
            show _ = _
            rw [bare_length, hl.out]
          go_wp2_with fail
          refine (tables_any W2.heap.size l (bare rs) W8 HJ8.out hbl (by omega)).mono ?_
          rintro e W9 ⟨rfl, ht9, hb9⟩
          have HT9 : Hid (TabsAt W9 W8.heap.size W8.heap.size rs) := ht9.ofBare
          have HT89 : Hid (TabsAt W9 W7.heap.size W7.heap.size rs) := HT8.out.below hb9
          have HP9 : Hid (RefsAt W9 p rs) := HP8.out.below hb9
          have HBW9 : Hid (Below w.heap.size w W9) := HBW8.out.trans (hb9.mono HBW8.out.size)
          clear ht9 hb9 HT8 HJ8 HP8 HBW8
          go_wp2_with fail
          refine (matches_any W7.heap.size W7.heap.size p l c rs W9 HT89.out HP9.out hl).mono ?_
          rintro e W10 ⟨rfl, hb10⟩
          have HT10 : Hid (TabsAt W10 W8.heap.size W8.heap.size rs) := HT9.out.below hb10
          have HP10 : Hid (RefsAt W10 p rs) := HP9.out.below hb10
          have HBW10 : Hid (Below w.heap.size w W10) := HBW9.out.trans (hb10.mono HBW9.out.size)
          clear hb10 HT9 HT89 HP9 HBW9
          go_wp2_with fail
          refine (matches_any W8.heap.size W8.heap.size p l c rs W10 HT10.out HP10.out hl).mono ?_
          rintro e W11 ⟨rfl, hb11⟩
          have HBW11 : Hid (Below w.heap.size w W11) := HBW10.out.trans (hb11.mono HBW10.out.size)
          clear hb11
          go_wp2
          go_ret
          exact ⟨rfl, HBW11.out⟩
end Go.Proofs.Qxb6627504a
