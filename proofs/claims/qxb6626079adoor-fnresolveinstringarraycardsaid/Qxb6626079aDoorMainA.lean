import Derived.Test.Qxb6626079aDoorWalkA
import Derived.Test.Qxb6626079aDoorWalkB
import Derived.Test.Qxb6626079aDoorWalkF
import Derived.Test.Qxb6626079aDoorCopy
import Derived.Deep.DeepCutAuto
namespace Go.Proofs.Qxb6626079aDoor
open Go.RowKit

def LawEnd (w : World) (e : Ending) (w' : World) : Prop := e = .returned (.bool true) ∧ Below w.heap.size w w'

theorem out_two (es : List ByteArray) (n : Nat) (t u : ByteArray) (r : List ByteArray) : outOf n 0 (ndRun [] es (some none) (t :: u :: r)) = (0, ⟨#[]⟩, 0, false) := by
  simp only [ndRun, ndStep]
  cases aIdx t.data.toList with
  | none => rfl
  | some i =>
    simp only [Option.bind_some]
    cases es[i]? with
    | none => rfl
    | some s => rfl

theorem out_hit {es : List ByteArray} {n i : Nat} {t se : ByteArray} (hi : decOf i = t.data.toList) (hb : i < 9223372036854775808) (he : es[i]? = some se) : outOf n 0 (ndRun [] es (some none) [t]) = (1, se, 0, true) := by
  simp only [ndRun, ndStep]
  rw [← hi, aIdx_decOf hb]
  simp only [Option.bind_some]
  rw [he]
  rfl

theorem out_miss {es : List ByteArray} {n : Nat} {t : ByteArray} (hn : es.length = n) (hno : ∀ i, i < n → decOf i ≠ t.data.toList) : outOf n 0 (ndRun [] es (some none) [t]) = (0, ⟨#[]⟩, 0, false) := by
  simp only [ndRun, ndStep]
  cases hx : aIdx t.data.toList with
  | none => rfl
  | some i =>
    simp only [Option.bind_some]
    have hd := (decOf_aIdx hx).1
    have hge : n ≤ i := by
      apply Nat.le_of_not_lt
      intro hlt
      exact hno i hlt hd
    rw [List.getElem?_eq_none (by omega)]
    rfl

set_option maxRecDepth 100000 in
set_option maxHeartbeats 4000000 in
theorem lawA_any (a c : Option Addr) (lp cp le ce : Nat) (ps es : List ByteArray) (te : TypeId) (pe : Value) (w : World) (hp : StrsAt w a ps) (hlp : Hid (ps.length = lp)) (he : StrsAt w c es) (hle : Hid (es.length = le))
    (hv : w.cell? ⟨1, 0, none⟩ = some (.iface te pe)) :
    Calls Tryd.prog 3 #[.slice a lp cp, .slice c le ce] w fun e w' => LawEnd w e w' := by
  have hm := hp.1
  rw [hlp.out] at hm
  have hm' := he.1
  rw [hle.out] at hm'
  unfold maxLen at hm hm'
  have HV : Hid (w.cell? ⟨1, 0, none⟩ = some (.iface te pe)) := hv
  have HP : Hid (StrsAt w a ps) := hp
  have HE : Hid (StrsAt w c es) := he
  clear hv hp he
  by_cases h1 : 65536 < lp
  · go_enter Tryd.func3, Tryd.ntmps3
    go_wp2_with fail
    refine (zzBytes5_any a c lp cp le ce ps es w HP.out HE.out hlp hle).mono ?_
    rintro e w' ⟨b, rfl, rfl, _⟩
    cases b
    · go_wp2
      go_ret
      exact ⟨rfl, Below.refl _ _⟩
    · go_wp2
      go_ret
      exact ⟨rfl, Below.refl _ _⟩
  have h1' : lp ≤ 65536 := by omega
  by_cases h2 : 65536 < le
  · go_enter Tryd.func3, Tryd.ntmps3
    go_wp2_with fail
    refine (zzBytes5_any a c lp cp le ce ps es w HP.out HE.out hlp hle).mono ?_
    rintro e w' ⟨b, rfl, rfl, _⟩
    cases b
    · go_wp2
      go_ret
      exact ⟨rfl, Below.refl _ _⟩
    · go_wp2
      go_ret
      exact ⟨rfl, Below.refl _ _⟩
  have h2' : le ≤ 65536 := by omega
  clear h1 h2
  obtain ⟨i9, hi9, hz90, hz91, hz92⟩ := info_parts info9
  go_enter Tryd.func3, Tryd.ntmps3
  go_wp2_with fail
  refine (zzBytes5_any a c lp cp le ce ps es w HP.out HE.out hlp hle).mono ?_
  rintro e w0 ⟨b, rfl, hw, hshort⟩
  have hw0 : w = w0 := hw.symm
  subst hw0
  cases b
  · go_wp2
    go_ret
    exact ⟨rfl, Below.refl _ _⟩
  have HSH := hshort rfl
  have HSP : Hid (Short ps) := HSH.1
  clear hshort HSH hw
  go_upto_if 26 with (fail)
  go_cut [0, 5] (fun p z wx => ∃ a' c', p = .slice a' lp c' ∧ StrsAt wx a' ps ∧ Below w.heap.size w wx)
  case first =>
    cases a with
    | none =>
      go_wp2
      go_meet
      exact ⟨none, cp, rfl, HP.out, Below.refl _ _⟩
    | some ad =>
      go_upto_region 7 with (at_make; refine wpList_make_full _ rfl _ _ 22 rfl w.heap.size 9 i9 _ 1 Tryd.underlying22 hi9 hz90 hz91 _ _ _ _ lp rfl rfl (by omega) (by omega) (by rw [hz92]; omega) (by unfold maxLen; omega) (by omega) ?_; intro w1 hown1 hg1)
      have hb1 : Below w.heap.size w w1 := (Below.refl _ _).grown hg1 (Nat.le_refl _) (fun j hj => by cases hj)
      obtain ⟨w2, gi, hcp, hst, hb2⟩ := copy_run (cap := cp) hown1 hb1 (Nat.le_refl _) (HP.out.below hb1) hlp.out
      have HST : Hid (StrsAt w2 (some ⟨w.heap.size, 0, none⟩) ps) := hst
      have HB2 : Hid (Below w.heap.size w w2) := hb2
      clear hown1 hg1 hb1 hst hb2
      go_wp2
      go_meet
      exact ⟨_, _, rfl, HST.out, HB2.out⟩
  case rest =>
    obtain ⟨a1, c1, rfl, hst1, hb1⟩ := hcut
    have HST1 : Hid (StrsAt wc a1 ps) := hst1
    have HB1 : Hid (Below w.heap.size w wc) := hb1
    clear hst1 hb1
    go_upto_if 35 with (fail)
    go_cut [1, 6] (fun p z wx => ∃ a' c', p = .slice a' le c' ∧ StrsAt wx a' es ∧ StrsAt wx a1 ps ∧ Below w.heap.size w wx)
    case first =>
      cases c with
      | none =>
        go_wp2
        go_meet
        exact ⟨none, ce, rfl, HE.out.below HB1.out, HST1.out, HB1.out⟩
      | some ad =>
        go_upto_region 11 with (at_make; refine wpList_make_full _ rfl _ _ 22 rfl wc.heap.size 9 i9 _ 1 Tryd.underlying22 hi9 hz90 hz91 _ _ _ _ le rfl rfl (by omega) (by omega) (by rw [hz92]; omega) (by unfold maxLen; omega) (by omega) ?_; intro w1 hown1 hg1)
        have hb0 : Below wc.heap.size wc w1 := (Below.refl _ _).grown hg1 (Nat.le_refl _) (fun j hj => by cases hj)
        obtain ⟨w2, gi, hcp, hst, hb2⟩ := copy_run (cap := ce) hown1 hb0 (Nat.le_refl _) ((HE.out.below HB1.out).below hb0) hle.out
        have HST : Hid (StrsAt w2 (some ⟨wc.heap.size, 0, none⟩) es) := hst
        have HST2 : Hid (StrsAt w2 a1 ps) := HST1.out.below hb2
        have HB2 : Hid (Below w.heap.size w w2) := HB1.out.trans (hb2.mono HB1.out.size)
        clear hown1 hg1 hb0 hst hb2
        go_wp2
        go_meet
        exact ⟨_, _, rfl, HST.out, HST2.out, HB2.out⟩
    case rest =>
      obtain ⟨a2, c2, rfl, hst2, hst3, hb2⟩ := hcut
      obtain ⟨W, hW⟩ : ∃ W, W = wc := ⟨_, rfl⟩
      subst hW
      have HES : Hid (StrsAt W a2 es) := hst2
      have HPS : Hid (StrsAt W a1 ps) := hst3
      have HB : Hid (Below w.heap.size w W) := hb2
      clear hst2 hst3 hb2 HST1 HB1 HP HE hi9 hz90 hz91 hz92
      have h1w : 1 < w.heap.size := World.block_lt_of_cell? w _ HV.out
      have HVW : Hid (W.cell? ⟨1, 0, none⟩ = some (.iface te pe)) := (HB.out.cell (p := ⟨1, 0, none⟩) h1w).trans HV.out
      go_wp2_with fail
      refine (jpBytes_any 0 a1 lp c1 ps W HPS.out hlp).mono ?_
      rintro e wx ⟨m1, rfl, hwx⟩
      have hwx' : W = wx := hwx.symm
      subst hwx'
      clear hwx
      by_cases hm1 : 1048576 < m1
      · go_wp2
        go_ret
        exact ⟨rfl, HB.out⟩
      go_wp2_with fail
      refine (jpBytes_any m1 a2 le c2 es W HES.out hle).mono ?_
      rintro e wx ⟨m2, rfl, hwx⟩
      have hwx' : W = wx := hwx.symm
      subst hwx'
      clear hwx
      by_cases hm2 : 1048576 < m2
      · go_wp2
        go_ret
        exact ⟨rfl, HB.out⟩
      go_wp2_with fail
      refine (resInArray_any a1 a2 lp c1 le c2 ps es te pe W HPS.out hlp HSP HES.out hle h2' HVW.out).mono ?_
      rintro e w3 ⟨kk, ss, mm, ok, rfl, hb3, hx⟩
      have HB3 : Hid (Below w.heap.size w w3) := HB.out.trans (hb3.mono HB.out.size)
      have HES3 : Hid (StrsAt w3 a2 es) := HES.out.below hb3
      have HPS3 : Hid (StrsAt w3 a1 ps) := HPS.out.below hb3
      clear hb3 HES HPS HB
      by_cases hl0 : lp = 0
      · have hps0 : ps = [] := List.eq_nil_of_length_eq_zero (by rw [hlp.out]; exact hl0)
        rw [hps0] at hx
        simp only [ndRun, outOf, Prod.mk.injEq] at hx
        obtain ⟨rfl, rfl, rfl, rfl⟩ := hx
        subst hl0
        go_wp2
        go_ret
        exact ⟨rfl, HB3.out⟩
      · have hl0' : ((lp : Int) == 0) = false := by simpa using hl0
        have hpos : (0 : Int) < (lp : Int) := by omega
        obtain ⟨b, off, t, htk, rfl, hb, g0⟩ := HPS3.out.pick (k := 0) (by rw [hlp.out]; omega)
        rw [Nat.add_zero] at g0
        have HX := (show Hid _ from hx)
        clear hx
        go_wp2_with fail
        refine (indexOf_any t le h2' w3).mono ?_
        rintro e w4 ⟨rr, rfl, hb4, hidx⟩
        have HB4 : Hid (Below w.heap.size w w4) := HB3.out.trans (hb4.mono HB3.out.size)
        have HES4 : Hid (StrsAt w4 a2 es) := HES3.out.below hb4
        clear hb4 HES3 HB3
        by_cases hl1 : lp = 1
        · subst hl1
          have hps1 : ps = [t] := by
            have h1 := htk.out
            match ps, hlp.out, h1 with
            | [x], _, h1 => simp at h1; rw [h1]
          rcases hidx with ⟨rfl, hno⟩ | ⟨i, hi, rfl, hdec⟩
          · have hx := HX.out
            rw [hps1, out_miss hle.out hno] at hx
            simp only [Prod.mk.injEq] at hx
            obtain ⟨rfl, rfl, rfl, rfl⟩ := hx
            clear hps1 hno
            go_wp2
            go_ret
            exact ⟨rfl, HB4.out⟩
          · obtain ⟨b2, off2, se, hse, rfl, hb2, g2⟩ := HES4.out.pick (k := i) (by rw [hle.out]; exact hi)
            have hx := HX.out
            rw [hps1, out_hit hdec (by omega) hse.out] at hx
            simp only [Prod.mk.injEq] at hx
            obtain ⟨rfl, rfl, rfl, rfl⟩ := hx
            clear hps1 hdec
            have hi' : (i : Int) < (le : Int) := by omega
            go_wp2
            go_ret
            exact ⟨rfl, HB4.out⟩
        · have hl1' : ((lp : Int) == 1) = false := by simp; omega
          have hx := HX.out
          have hps2 : ∃ x y r, ps = x :: y :: r := by
            match ps, hlp.out with
            | [], h => simp at h; omega
            | [x], h => simp at h; omega
            | x :: y :: r, _ => exact ⟨x, y, r, rfl⟩
          obtain ⟨x, y, r, hps2⟩ := hps2
          rw [hps2, out_two] at hx
          simp only [Prod.mk.injEq] at hx
          obtain ⟨rfl, rfl, rfl, rfl⟩ := hx
          clear hps2 hidx
          go_wp2
          go_ret
          exact ⟨rfl, HB4.out⟩
end Go.Proofs.Qxb6626079aDoor
