import Derived.Test.Qxb6627504aWalkA
import Derived.Test.Qxb6627504aWalkD
namespace Go.Proofs.Qxb6627504a
open Go.RowKit

def LawEnd (w : World) (e : Ending) (w' : World) : Prop := e = .returned (.bool true) ∧ Below w.heap.size w w'

/-- The list, x put in at place q. -/
def ins (rs : List Rf) (q : Nat) (x : Rf) : List Rf := rs.take q ++ x :: rs.drop q

theorem ins_start {rs : List Rf} {q : Nat} (x : Rf) : rs.take q ++ [x] = ins (rs.take q) q x := by
  unfold ins
  rw [List.take_take, Nat.min_self, List.drop_of_length_le (by rw [List.length_take]; omega)]

theorem ins_next {rs : List Rf} {q k : Nat} {x r : Rf} (hk : rs[k]? = some r) (hqk : q ≤ k) : ins (rs.take (k + 1)) q x = ins (rs.take k) q x ++ [r] := by
  have hkl := (List.getElem?_eq_some_iff.1 hk).1
  have hlen : (rs.take k).length = k := by rw [List.length_take]; omega
  unfold ins
  rw [take_next hk, List.take_append_of_le_length (by omega), List.drop_append_of_le_length (by omega)]
  simp

theorem ins_length {rs : List Rf} {q : Nat} (x : Rf) (hq : q ≤ rs.length) : (ins rs q x).length = rs.length + 1 := by
  unfold ins
  simp
  omega
theorem ins_low {rs : List Rf} {q k : Nat} {x : Rf} (hq : q ≤ rs.length) (hk : k < q) : (ins rs q x)[k]? = rs[k]? := by
  unfold ins
  rw [List.getElem?_append_left (by rw [List.length_take]; omega), List.getElem?_take_of_lt hk]
theorem ins_mid {rs : List Rf} {q : Nat} {x : Rf} (hq : q ≤ rs.length) : (ins rs q x)[q]? = some x := by
  unfold ins
  rw [List.getElem?_append_right (by rw [List.length_take]; omega), List.length_take, Nat.min_eq_left hq, Nat.sub_self]
  rfl
theorem ins_high {rs : List Rf} {q k : Nat} {x : Rf} (hq : q ≤ rs.length) (hk : q ≤ k) : (ins rs q x)[k + 1]? = rs[k]? := by
  unfold ins
  rw [List.getElem?_append_right (by rw [List.length_take]; omega), List.length_take, Nat.min_eq_left hq, show k + 1 - q = (k - q) + 1 by omega, List.getElem?_cons_succ, List.getElem?_drop]
  congr 1
  omega

set_option maxRecDepth 100000 in
set_option maxHeartbeats 4000000 in
theorem lawA_any (p : Option Addr) (l c : Nat) (at' : Int) (xs xn xa : ByteArray) (rs : List Rf) (w : World) (hp : RefsAt w p rs) (hl : Hid (rs.length = l)) :
    Calls Try.prog 3 #[.slice p l c, .int .i64 at', .string xs, .string xn, .string xa] w fun e w' => LawEnd w e w' := by
  have hm := hp.1
  rw [hl.out] at hm
  unfold maxLen at hm
  have HP : Hid (RefsAt w p rs) := hp
  clear hp
  by_cases h1 : 1048576 < xs.size ∨ 1048576 < xn.size ∨ 1048576 < xa.size
  · go_enter Try.func3, Try.ntmps3
    go_wp2_with fail
    refine (zzBytes5_any p l c at' xs xn xa rs w HP.out hl).mono ?_
    rintro e w' ⟨b, rfl, rfl⟩
    cases b
    · go_wp2
      go_ret
      exact ⟨rfl, Below.refl _ _⟩
    · by_cases h1a : 1048576 < xs.size
      · go_wp2
        go_ret
        exact ⟨rfl, Below.refl _ _⟩
      by_cases h1b : 1048576 < xn.size
      · go_wp2
        go_ret
        exact ⟨rfl, Below.refl _ _⟩
      have h1c : 1048576 < xa.size := by omega
      go_wp2
      go_ret
      exact ⟨rfl, Below.refl _ _⟩
  have hs1 : xs.size ≤ 1048576 := by omega
  have hs2 : xn.size ≤ 1048576 := by omega
  have hs3 : xa.size ≤ 1048576 := by omega
  clear h1
  go_enter Try.func3, Try.ntmps3
  go_wp2_with fail
  refine (zzBytes5_any p l c at' xs xn xa rs w HP.out hl).mono ?_
  rintro e w0 ⟨b, rfl, hw0⟩
  have hw0' : w = w0 := hw0.symm
  subst hw0'
  clear hw0
  cases b
  · go_wp2
    go_ret
    exact ⟨rfl, Below.refl _ _⟩
  go_wp2_with fail
  refine (tooBig_any p l c _ rs w HP.out hl).mono ?_
  rintro e W1 ⟨b, rfl, hb1, hbig⟩
  have HB1 : Hid (Below w.heap.size w W1) := hb1
  clear hb1
  cases b
  case true =>
    go_wp2
    go_ret
    exact ⟨rfl, HB1.out⟩
  have hl6 : l ≤ 65536 := (hbig rfl).1
  clear hbig
  by_cases ha0 : at' < 0
  · go_wp2
    go_ret
    exact ⟨rfl, HB1.out⟩
  by_cases ha1 : (l : Int) < at'
  · go_wp2
    go_ret
    exact ⟨rfl, HB1.out⟩
  obtain ⟨q, rfl⟩ : ∃ q : Nat, at' = (q : Int) := ⟨at'.toNat, by omega⟩
  have hql : q ≤ l := by omega
  clear ha0 ha1
  have HP1 : Hid (RefsAt W1 p rs) := HP.out.below HB1.out
  go_wp2_with fail
  refine (build_any p l c rs W1 HP1.out hl hl6).mono ?_
  rintro e W2 ⟨rfl, hj1, hb2⟩
  have HJ1 : Hid (JobAt W2 W1.heap.size rs) := hj1
  have HB2 : Hid (Below w.heap.size w W2) := HB1.out.trans (hb2.mono HB1.out.size)
  have HP2 : Hid (RefsAt W2 p rs) := HP1.out.below hb2
  clear hj1 hb2
  go_wp2
  go_loopw [13] (fun i wr => ∃ (k : Nat), k ≤ q ∧ i = .int .i64 k ∧ JobAt wr W2.heap.size (rs.take k) ∧ Below W2.heap.size W2 wr) (fun i _ => q - (intOf i).toNat)
  case atStart => exact ⟨0, Nat.zero_le _, rfl, job_new W2 _ rfl, (Below.refl _ _).alloc (Nat.le_refl _) _⟩
  case round =>
    obtain ⟨k, hk, rfl, hj, hbel⟩ := hrel
    by_cases hlt : k < q
    · obtain ⟨b, off, s, n, a, hrs, rfl, hb, g0, g1, g2, KEEP⟩ := HP2.out.deep hbel (k := k) (by have := hl.out; omega)
      have HB : Hid (Below W2.heap.size W2 wr) := hbel
      have HC := hide (addRef_any W2.heap.size (rs.take k) s n a wr.drew hj.drew (by rw [List.length_take]; omega))
      clear hbel hj
      have hkl : (k : Int) < (l : Int) := by omega
      have hk0 : (0 : Int) ≤ (k : Int) := by omega
      go_wp2
      go_region_held3 (fun w' => w'.cell? ⟨b, off + k * 3, none⟩ = some (.string s) ∧ w'.cell? ⟨b, off + k * 3+1, none⟩ = some (.string n) ∧ w'.cell? ⟨b, off + k * 3+2, none⟩ = some (.string a)) (first | go_keep | exact KEEP.out _ hb1)
        ((go_at_call 8; refine HC.out.mono ?_; rintro e w1 ⟨rfl, hj1, hb1⟩))
      all_goals go_wp2
      go_roundw
      case rel => exact ⟨k + 1, by omega, by go_num, by rw [take_next hrs.out]; exact hj1, HB.out.trans ((Below.refl _ _).drew.trans hb1)⟩
      case measure => simp [intOf]; omega
    · have hkq : k = q := by omega
      subst hkq
      obtain ⟨W3, hW3⟩ : ∃ W, W = wr := ⟨_, rfl⟩
      subst hW3
      have HB3 : Hid (Below W2.heap.size W2 W3) := hbel
      have HJ3 : Hid (JobAt W3 W2.heap.size (rs.take k)) := hj
      clear hbel hj
      go_wp2_with fail
      refine (addRef_any W2.heap.size (rs.take k) xs xn xa W3 HJ3.out (by rw [List.length_take]; omega)).mono ?_
      rintro e W4 ⟨rfl, hj4, hb4⟩
      rw [ins_start] at hj4
      have HJ4 : Hid (JobAt W4 W2.heap.size (ins (rs.take k) k ⟨xs, xn, xa⟩)) := hj4
      have HB4 : Hid (Below W2.heap.size W2 W4) := HB3.out.trans hb4
      clear hj4 hb4 HB3 HJ3
      go_wp2
      go_loopw [14] (fun i wr => ∃ (m : Nat), k ≤ m ∧ m ≤ l ∧ i = .int .i64 m ∧ JobAt wr W2.heap.size (ins (rs.take m) k ⟨xs, xn, xa⟩) ∧ Below W2.heap.size W2 wr) (fun i _ => l - (intOf i).toNat)
      case atStart => exact ⟨k, Nat.le_refl _, hql, rfl, HJ4.out, HB4.out⟩
      case round =>
        obtain ⟨m, hkm, hml, rfl, hj, hbel⟩ := hrel
        by_cases hlt2 : m < l
        · obtain ⟨b, off, s, n, a, hrs, rfl, hb, g0, g1, g2, KEEP⟩ := HP2.out.deep hbel (k := m) (by have := hl.out; omega)
          have HB : Hid (Below W2.heap.size W2 wr) := hbel
          have HC := hide (addRef_any W2.heap.size (ins (rs.take m) k ⟨xs, xn, xa⟩) s n a wr.drew hj.drew (by
            rw [ins_length _ (by rw [List.length_take]; have := hl.out; omega), List.length_take]; omega))
          clear hbel hj
          have hmll : (m : Int) < (l : Int) := by omega
          have hm0 : (0 : Int) ≤ (m : Int) := by omega
          go_wp2
          go_region_held3 (fun w' => w'.cell? ⟨b, off + m * 3, none⟩ = some (.string s) ∧ w'.cell? ⟨b, off + m * 3+1, none⟩ = some (.string n) ∧ w'.cell? ⟨b, off + m * 3+2, none⟩ = some (.string a)) (first | go_keep | exact KEEP.out _ hb1)
            ((go_at_call 8; refine HC.out.mono ?_; rintro e w1 ⟨rfl, hj1, hb1⟩))
          all_goals go_wp2
          go_roundw
          case rel => exact ⟨m + 1, by omega, by omega, by go_num, by rw [ins_next hrs.out hkm]; exact hj1, HB.out.trans ((Below.refl _ _).drew.trans hb1)⟩
          case measure => simp [intOf]; omega
        · obtain ⟨W5, hW5⟩ : ∃ W, W = wr := ⟨_, rfl⟩
          subst hW5
          have hm' : rs.take m = rs := List.take_of_length_le (by have := hl.out; omega)
          rw [hm'] at hj
          have HJ5 : Hid (JobAt W5 W2.heap.size (ins rs k ⟨xs, xn, xa⟩)) := hj
          have HB5 : Hid (Below W2.heap.size W2 W5) := hbel
          have HJ51 : Hid (JobAt W5 W1.heap.size rs) := HJ1.out.below hbel
          have HP5 : Hid (RefsAt W5 p rs) := HP2.out.below hbel
          have HBW5 : Hid (Below w.heap.size w W5) := HB2.out.trans (hbel.mono HB2.out.size)
          clear hj hbel hm' HJ4 HB4
          go_wp2_with fail
          refine (tables_any W1.heap.size l rs W5 HJ51.out hl (by omega)).mono ?_
          rintro e W6 ⟨rfl, ht6, hb6⟩
          have HT6 : Hid (TabsAt W6 W5.heap.size W5.heap.size rs) := ht6
          have HJ6 : Hid (JobAt W6 W2.heap.size (ins rs k ⟨xs, xn, xa⟩)) := HJ5.out.below hb6
          have HP6 : Hid (RefsAt W6 p rs) := HP5.out.below hb6
          have HBW6 : Hid (Below w.heap.size w W6) := HBW5.out.trans (hb6.mono HBW5.out.size)
          clear ht6 hb6 HJ5 HB5 HJ51 HP5 HBW5
          have hinl : Hid ((ins rs k ⟨xs, xn, xa⟩).length = l + 1) := by
            show _ = _
            rw [ins_length _ (by have := hl.out; omega), hl.out]
          go_wp2_with fail
          refine (tables_any W2.heap.size (l + 1) (ins rs k ⟨xs, xn, xa⟩) W6 HJ6.out hinl (by omega)).mono ?_
          rintro e W7 ⟨rfl, ht7, hb7⟩
          have HT7 : Hid (TabsAt W7 W6.heap.size W6.heap.size (ins rs k ⟨xs, xn, xa⟩)) := ht7
          have HT67 : Hid (TabsAt W7 W5.heap.size W5.heap.size rs) := HT6.out.below hb7
          have HP7 : Hid (RefsAt W7 p rs) := HP6.out.below hb7
          have HBW7 : Hid (Below w.heap.size w W7) := HBW6.out.trans (hb7.mono HBW6.out.size)
          clear ht7 hb7 HT6 HJ6 HP6 HBW6
          go_wp2_with fail
          refine (matches_any W5.heap.size W5.heap.size p l c rs W7 HT67.out HP7.out hl).mono ?_
          rintro e W8 ⟨rfl, hb8⟩
          have HT8 : Hid (TabsAt W8 W6.heap.size W6.heap.size (ins rs k ⟨xs, xn, xa⟩)) := HT7.out.below hb8
          have HT68 : Hid (TabsAt W8 W5.heap.size W5.heap.size rs) := HT67.out.below hb8
          have HBW8 : Hid (Below w.heap.size w W8) := HBW7.out.trans (hb8.mono HBW7.out.size)
          clear hb8 HT7 HT67 HP7 HBW7
          go_wp2
          go_loopw [17] (fun i wr => ∃ (m : Nat), m ≤ l + 1 ∧ i = .int .i64 m ∧ Below W8.heap.size W8 wr) (fun i _ => l + 1 - (intOf i).toNat)
          case atStart => exact ⟨0, Nat.zero_le _, rfl, Below.refl _ _⟩
          case round =>
            obtain ⟨j, hj, rfl, hbel⟩ := hrel
            have HBR : Hid (Below W8.heap.size W8 wr) := hbel
            have ht8 := HT8.out.below hbel
            have ht68 := HT68.out.below hbel
            have hlt6 : W6.heap.size < wr.heap.size := ht8.lt.2
            have hlt5 : W5.heap.size < wr.heap.size := ht68.lt.2
            have hkl := hl.out
            by_cases hlt3 : j < l + 1
            · have hji : (j : Int) < (l : Int) + 1 := by omega
              clear hbel
              rcases Nat.lt_trichotomy j k with hjk | rfl | hjk
              · obtain ⟨r, hr⟩ : ∃ r, rs[j]? = some r := ⟨_, List.getElem?_eq_getElem (by omega)⟩
                obtain ⟨s, n, a⟩ := r
                obtain ⟨c0, c1⟩ := ht8.pick ((ins_low (by omega) hjk).trans hr)
                obtain ⟨d0, d1⟩ := ht68.pick hr
                clear ht8 ht68 hr hkl
                have hjl : (j : Int) < (l : Int) := by omega
                go_wp2
                go_quiet (fail)
                go_wp2
                go_roundw
                case rel => exact ⟨j + 1, by omega, by go_num, below_drewN (HBR.out.alloc HBR.out.size _) nq⟩
                case measure => simp [intOf]; omega
              · obtain ⟨c0, c1⟩ := ht8.pick (ins_mid (by omega))
                clear ht8 ht68 hkl
                go_wp2
                go_quiet (fail)
                go_wp2
                go_roundw
                case rel => exact ⟨j + 1, by omega, by go_num, below_drewN (HBR.out.alloc HBR.out.size _) nq⟩
                case measure => simp [intOf]; omega
              · obtain ⟨i, rfl⟩ : ∃ i, j = i + 1 := ⟨j - 1, by omega⟩
                obtain ⟨r, hr⟩ : ∃ r, rs[i]? = some r := ⟨_, List.getElem?_eq_getElem (by omega)⟩
                obtain ⟨s, n, a⟩ := r
                obtain ⟨c0, c1⟩ := ht8.pick ((ins_high (x := ⟨xs, xn, xa⟩) (by omega) (by omega)).trans hr)
                obtain ⟨d0, d1⟩ := ht68.pick hr
                clear ht8 ht68 hr hkl
                have hil : (i : Int) < (l : Int) := by omega
                have hi0 : (0 : Int) ≤ (i : Int) := by omega
                have hne : (((i + 1 : Nat) : Int) == (k : Int)) = false := by simp; omega
                have hnlt : ¬ ((i + 1 : Nat) : Int) < (k : Int) := by omega
                go_wp2
                go_quiet (fail)
                go_wp2
                go_roundw
                case rel => exact ⟨i + 1 + 1, by omega, by go_num, below_drewN (HBR.out.alloc HBR.out.size _) nq⟩
                case measure => simp [intOf]; omega
            · clear ht8 ht68
              go_wp2
              go_ret
              exact ⟨rfl, HBW8.out.trans (hbel.mono HBW8.out.size)⟩
end Go.Proofs.Qxb6627504a
