import Derived.Test.Qxb6626079aDoorWalkA
import Derived.Test.Qxb6626079aDoorWalkB
import Derived.Test.Qxb6626079aDoorWalkH
import Derived.Test.Qxb6626079aDoorWalkI
import Derived.Test.Qxb6626079aDoorCopy
import Derived.Deep.DeepCutAuto
namespace Go.Proofs.Qxb6626079aDoor
open Go.RowKit

def LawBEnd (w : World) (e : Ending) (w' : World) : Prop := e = .returned (.bool true) ∧ Below w.heap.size w w'

theorem ob_no {ks es : List ByteArray} {n sz : Nat} {t : ByteArray} {r : List ByteArray} (h : hasKey ks t = false) : outOf n sz (ndRun ks es none (t :: r)) = (0, ⟨#[]⟩, 0, false) := by
  simp only [ndRun, ndStep, h]
  rfl
theorem ob_yes {ks es : List ByteArray} {t : ByteArray} {r : List ByteArray} (h : hasKey ks t = true) : ndRun ks es none (t :: r) = ndRun ks es (some none) r := by
  simp only [ndRun, ndStep, h]
  rfl

theorem ob_two (ks es : List ByteArray) (n sz : Nat) (t u : ByteArray) (r : List ByteArray) : outOf n sz (ndRun ks es (some none) (t :: u :: r)) = (0, ⟨#[]⟩, 0, false) := by
  simp only [ndRun, ndStep]
  cases aIdx t.data.toList with
  | none => rfl
  | some i =>
    simp only [Option.bind_some]
    cases es[i]? with
    | none => rfl
    | some s => rfl

theorem ob_hit {ks es : List ByteArray} {n sz i : Nat} {t se : ByteArray} (hi : decOf i = t.data.toList) (hb : i < 9223372036854775808) (he : es[i]? = some se) : outOf n sz (ndRun ks es (some none) [t]) = (1, se, 0, true) := by
  simp only [ndRun, ndStep]
  rw [← hi, aIdx_decOf hb]
  simp only [Option.bind_some]
  rw [he]
  rfl

theorem ob_miss {ks es : List ByteArray} {n sz : Nat} {t : ByteArray} (hn : es.length = n) (hno : ∀ i, i < n → decOf i ≠ t.data.toList) : outOf n sz (ndRun ks es (some none) [t]) = (0, ⟨#[]⟩, 0, false) := by
  simp only [ndRun, ndStep]
  cases hx : aIdx t.data.toList with
  | none => rfl
  | some i =>
    simp only [Option.bind_some]
    have hd := (decOf_aIdx hx).1
    have hge : n ≤ i := by
      apply Nat.le_of_not_lt
      intro hlt
      exact hno i hlt hd
    rw [List.getElem?_eq_none (by omega)]
    rfl

set_option maxRecDepth 100000 in
set_option maxHeartbeats 4000000 in
theorem lawB_any (a d c : Option Addr) (lp cp lk ck le ce : Nat) (ps ks es : List ByteArray) (te : TypeId) (pe : Value) (w : World) (hp : StrsAt w a ps) (hlp : Hid (ps.length = lp)) (hk : StrsAt w d ks) (hlk : Hid (ks.length = lk)) (he : StrsAt w c es) (hle : Hid (es.length = le))
    (hv : w.cell? ⟨1, 0, none⟩ = some (.iface te pe)) :
    Calls Tryd.prog 4 #[.slice a lp cp, .slice d lk ck, .slice c le ce] w fun e w' => LawBEnd w e w' := by
  have hm := hp.1
  rw [hlp.out] at hm
  have hm' := he.1
  rw [hle.out] at hm'
  have hm'' := hk.1
  rw [hlk.out] at hm''
  unfold maxLen at hm hm' hm''
  have HV : Hid (w.cell? ⟨1, 0, none⟩ = some (.iface te pe)) := hv
  have HP : Hid (StrsAt w a ps) := hp
  have HE : Hid (StrsAt w c es) := he
  have HK : Hid (StrsAt w d ks) := hk
  clear hv hp he hk
  by_cases hbig : 65536 < lp ∨ 4096 < lk ∨ 65536 < le
  · go_enter Tryd.func4, Tryd.ntmps4
    go_wp2_with fail
    refine (zzBytes9_any a d c lp cp lk ck le ce ps ks es w HP.out HK.out HE.out hlp hlk hle).mono ?_
    rintro e w' ⟨b, rfl, rfl, _⟩
    cases b
    · go_wp2
      go_ret
      exact ⟨rfl, Below.refl _ _⟩
    · by_cases h1 : 65536 < lp
      · go_wp2
        go_ret
        exact ⟨rfl, Below.refl _ _⟩
      by_cases h2 : 4096 < lk
      · go_wp2
        go_ret
        exact ⟨rfl, Below.refl _ _⟩
      have h3 : 65536 < le := by omega
      go_wp2
      go_ret
      exact ⟨rfl, Below.refl _ _⟩
  have h1' : lp ≤ 65536 := by omega
  have h2' : lk ≤ 4096 := by omega
  have h3' : le ≤ 65536 := by omega
  clear hbig
  obtain ⟨i9, hi9, hz90, hz91, hz92⟩ := info_parts info9
  go_enter Tryd.func4, Tryd.ntmps4
  go_wp2_with fail
  refine (zzBytes9_any a d c lp cp lk ck le ce ps ks es w HP.out HK.out HE.out hlp hlk hle).mono ?_
  rintro e w0 ⟨b, rfl, hw, hshort⟩
  have hw0 : w = w0 := hw.symm
  subst hw0
  cases b
  · go_wp2
    go_ret
    exact ⟨rfl, Below.refl _ _⟩
  have HSP : Hid (Short ps) := hshort rfl
  clear hshort hw
  go_upto_if 35 with (fail)
  go_cut [0, 7] (fun p z wx => ∃ a' c', p = .slice a' lp c' ∧ StrsAt wx a' ps ∧ Below w.heap.size w wx)
  case first =>
    cases a with
    | none =>
      go_wp2
      go_meet
      exact ⟨none, cp, rfl, HP.out, Below.refl _ _⟩
    | some ad =>
      go_upto_region 7 with (at_make; refine wpList_make_full _ rfl _ _ 22 rfl w.heap.size 9 i9 _ 1 Tryd.underlying22 hi9 hz90 hz91 _ _ _ _ lp rfl rfl (by omega) (by omega) (by rw [hz92]; omega) (by unfold maxLen; omega) (by omega) ?_; intro w1 hown1 hg1)
      have hb1 : Below w.heap.size w w1 := (Below.refl _ _).grown hg1 (Nat.le_refl _) (fun j hj => by cases hj)
      obtain ⟨w2, gi, hcp, hst, hb2⟩ := copy_run (cap := cp) hown1 hb1 (Nat.le_refl _) (HP.out.below hb1) hlp.out
      have HST : Hid (StrsAt w2 (some ⟨w.heap.size, 0, none⟩) ps) := hst
      have HB2 : Hid (Below w.heap.size w w2) := hb2
      clear hown1 hg1 hb1 hst hb2
      go_wp2
      go_meet
      exact ⟨_, _, rfl, HST.out, HB2.out⟩
  case rest =>
    obtain ⟨a1, c1, rfl, hst1, hb1⟩ := hcut
    have HST1 : Hid (StrsAt wc a1 ps) := hst1
    have HB1 : Hid (Below w.heap.size w wc) := hb1
    clear hst1 hb1
    go_upto_if 44 with (fail)
    go_cut [1, 8] (fun p z wx => ∃ a' c', p = .slice a' lk c' ∧ StrsAt wx a' ks ∧ StrsAt wx a1 ps ∧ Below w.heap.size w wx)
    case first =>
      cases d with
      | none =>
        go_wp2
        go_meet
        exact ⟨none, ck, rfl, HK.out.below HB1.out, HST1.out, HB1.out⟩
      | some ad =>
        go_upto_region 11 with (at_make; refine wpList_make_full _ rfl _ _ 22 rfl wc.heap.size 9 i9 _ 1 Tryd.underlying22 hi9 hz90 hz91 _ _ _ _ lk rfl rfl (by omega) (by omega) (by rw [hz92]; omega) (by unfold maxLen; omega) (by omega) ?_; intro w1 hown1 hg1)
        have hb0 : Below wc.heap.size wc w1 := (Below.refl _ _).grown hg1 (Nat.le_refl _) (fun j hj => by cases hj)
        obtain ⟨w2, gi, hcp, hst, hb2⟩ := copy_run (cap := ck) hown1 hb0 (Nat.le_refl _) ((HK.out.below HB1.out).below hb0) hlk.out
        have HST : Hid (StrsAt w2 (some ⟨wc.heap.size, 0, none⟩) ks) := hst
        have HST2 : Hid (StrsAt w2 a1 ps) := HST1.out.below hb2
        have HB2 : Hid (Below w.heap.size w w2) := HB1.out.trans (hb2.mono HB1.out.size)
        clear hown1 hg1 hb0 hst hb2
        go_wp2
        go_meet
        exact ⟨_, _, rfl, HST.out, HST2.out, HB2.out⟩
    case rest =>
      obtain ⟨a2, c2, rfl, hst2, hst3, hb2⟩ := hcut
      obtain ⟨V, hV⟩ : ∃ V, V = wc := ⟨_, rfl⟩
      subst hV
      have HKS2 : Hid (StrsAt V a2 ks) := hst2
      have HPS2 : Hid (StrsAt V a1 ps) := hst3
      have HBV : Hid (Below w.heap.size w V) := hb2
      clear hst2 hst3 hb2 HST1 HB1
      go_upto_if 53 with (fail)
      go_cut [2, 9] (fun p z wx => ∃ a' c', p = .slice a' le c' ∧ StrsAt wx a' es ∧ StrsAt wx a2 ks ∧ StrsAt wx a1 ps ∧ Below w.heap.size w wx)
      case first =>
        cases c with
        | none =>
          go_wp2
          go_meet
          exact ⟨none, ce, rfl, HE.out.below HBV.out, HKS2.out, HPS2.out, HBV.out⟩
        | some ad =>
          go_upto_region 15 with (at_make; refine wpList_make_full _ rfl _ _ 22 rfl V.heap.size 9 i9 _ 1 Tryd.underlying22 hi9 hz90 hz91 _ _ _ _ le rfl rfl (by omega) (by omega) (by rw [hz92]; omega) (by unfold maxLen; omega) (by omega) ?_; intro w1 hown1 hg1)
          have hb0 : Below V.heap.size V w1 := (Below.refl _ _).grown hg1 (Nat.le_refl _) (fun j hj => by cases hj)
          obtain ⟨w2, gi, hcp, hst, hb2⟩ := copy_run (cap := ce) hown1 hb0 (Nat.le_refl _) ((HE.out.below HBV.out).below hb0) hle.out
          have HST : Hid (StrsAt w2 (some ⟨V.heap.size, 0, none⟩) es) := hst
          have HST2 : Hid (StrsAt w2 a1 ps) := HPS2.out.below hb2
          have HST3 : Hid (StrsAt w2 a2 ks) := HKS2.out.below hb2
          have HB2 : Hid (Below w.heap.size w w2) := HBV.out.trans (hb2.mono HBV.out.size)
          clear hown1 hg1 hb0 hst hb2
          go_wp2
          go_meet
          exact ⟨_, _, rfl, HST.out, HST3.out, HST2.out, HB2.out⟩
      case rest =>
        obtain ⟨a3, c3, rfl, hst4, hst5, hst6, hb3⟩ := hcut
        obtain ⟨W, hW⟩ : ∃ W, W = wc := ⟨_, rfl⟩
        subst hW
        have HES : Hid (StrsAt W a3 es) := hst4
        have HKS : Hid (StrsAt W a2 ks) := hst5
        have HPS : Hid (StrsAt W a1 ps) := hst6
        have HB : Hid (Below w.heap.size w W) := hb3
        clear hst4 hst5 hst6 hb3 HKS2 HPS2 HBV HP HE HK hi9 hz90 hz91 hz92
        have h1w : 1 < w.heap.size := World.block_lt_of_cell? w _ HV.out
        have HVW : Hid (W.cell? ⟨1, 0, none⟩ = some (.iface te pe)) := (HB.out.cell (p := ⟨1, 0, none⟩) h1w).trans HV.out
        go_wp2_with fail
        refine (jpBytes_any 0 a1 lp c1 ps W HPS.out hlp).mono ?_
        rintro e wx ⟨m1, rfl, hwx⟩
        have hwx' : W = wx := hwx.symm
        subst hwx'
        clear hwx
        by_cases hm1 : 1048576 < m1
        · go_wp2
          go_ret
          exact ⟨rfl, HB.out⟩
        go_wp2_with fail
        refine (jpBytes_any m1 a2 lk c2 ks W HKS.out hlk).mono ?_
        rintro e wx ⟨m2, rfl, hwx⟩
        have hwx' : W = wx := hwx.symm
        subst hwx'
        clear hwx
        by_cases hm2 : 1048576 < m2
        · go_wp2
          go_ret
          exact ⟨rfl, HB.out⟩
        go_wp2_with fail
        refine (jpBytes_any m2 a3 le c3 es W HES.out hle).mono ?_
        rintro e wx ⟨m3, rfl, hwx⟩
        have hwx' : W = wx := hwx.symm
        subst hwx'
        clear hwx
        by_cases hm3 : 1048576 < m3
        · go_wp2
          go_ret
          exact ⟨rfl, HB.out⟩
        go_wp2_with fail
        refine (resInObject_any a1 a2 a3 lp c1 lk c2 le c3 ps ks es te pe W HPS.out hlp HSP HKS.out hlk HES.out hle h3' h2' HVW.out).mono ?_
        rintro e w3 ⟨kk, ss, mm, ok, rfl, hb3, hx⟩
        have HB3 : Hid (Below w.heap.size w w3) := HB.out.trans (hb3.mono HB.out.size)
        have HES3 : Hid (StrsAt w3 a3 es) := HES.out.below hb3
        have HKS3 : Hid (StrsAt w3 a2 ks) := HKS.out.below hb3
        have HPS3 : Hid (StrsAt w3 a1 ps) := HPS.out.below hb3
        clear hb3 HES HPS HKS HB
        by_cases hl0 : lp = 0
        · have hps0 : ps = [] := List.eq_nil_of_length_eq_zero (by rw [hlp.out]; exact hl0)
          rw [hps0] at hx
          simp only [ndRun, outOf, Prod.mk.injEq] at hx
          obtain ⟨rfl, rfl, rfl, rfl⟩ := hx
          subst hl0
          go_wp2_with fail
          refine (distinct_any a2 lk c2 ks w3 HKS3.out hlk).mono ?_
          rintro e w4 ⟨rfl, hb4⟩
          have HB4 : Hid (Below w.heap.size w w4) := HB3.out.trans (hb4.mono HB3.out.size)
          clear hb4
          go_wp2
          go_ret
          exact ⟨rfl, HB4.out⟩
        · have hl0' : ((lp : Int) == 0) = false := by simpa using hl0
          have hpos : (0 : Int) < (lp : Int) := by omega
          obtain ⟨b, off, t, htk, rfl, hb, g0⟩ := HPS3.out.pick (k := 0) (by rw [hlp.out]; omega)
          rw [Nat.add_zero] at g0
          have HX := (show Hid _ from hx)
          clear hx
          obtain ⟨r, hr⟩ : ∃ r, Hid (ps = t :: r) := by
            match ps, htk.out with
            | x :: r, h => simp at h; subst h; exact ⟨r, rfl⟩
          go_wp2_with fail
          refine (has_any a2 lk c2 ks t w3 HKS3.out hlk).mono ?_
          rintro e w4 ⟨rfl, hw4⟩
          have hw4' : w3 = w4 := hw4.symm
          subst hw4'
          clear hw4
          cases hhas : hasKey ks t
          · have hx := HX.out
            rw [hr.out, ob_no hhas] at hx
            simp only [Prod.mk.injEq] at hx
            obtain ⟨rfl, rfl, rfl, rfl⟩ := hx
            clear hhas
            go_wp2
            go_ret
            exact ⟨rfl, HB3.out⟩
          have HX2 : Hid (outOf le (distinct ks).length (ndRun ks es (some none) r) = (kk, ss, mm, ok)) := by
            have hx := HX.out
            rw [hr.out, ob_yes hhas] at hx
            exact hx
          clear HX hhas
          have hrl : Hid (r.length + 1 = lp) := by
            show _ = _
            rw [← hlp.out, hr.out]
            rfl
          by_cases hl1 : lp = 1
          · subst hl1
            have hr0 : r = [] := List.eq_nil_of_length_eq_zero (by have := hrl.out; omega)
            have hx := HX2.out
            rw [hr0] at hx
            simp only [ndRun, outOf, Prod.mk.injEq] at hx
            obtain ⟨rfl, rfl, rfl, rfl⟩ := hx
            clear hr0
            go_wp2
            go_ret
            exact ⟨rfl, HB3.out⟩
          have hl1' : ((lp : Int) == 1) = false := by simp; omega
          have hpos1 : (1 : Int) < (lp : Int) := by omega
          obtain ⟨u, hu⟩ : ∃ u, Hid (ps[1]? = some u) := ⟨ps[1]'(by have := hlp.out; omega), List.getElem?_eq_getElem (by have := hlp.out; omega)⟩
          obtain ⟨b', off', u', huk, e1, hb', g1⟩ := HPS3.out.pick (k := 1) (by rw [hlp.out]; omega)
          simp only [Option.some.injEq, Addr.mk.injEq, and_true] at e1
          obtain ⟨rfl, rfl⟩ := e1
          obtain rfl : u = u' := by
            have h1 := hu.out
            rw [huk.out] at h1
            exact (Option.some.inj h1).symm
          obtain ⟨r2, hr2⟩ : ∃ r2, Hid (r = u :: r2) := by
            have h1 := hu.out
            rw [hr.out] at h1
            match r, h1 with
            | x :: r2, h => simp at h; subst h; exact ⟨r2, rfl⟩
          go_wp2_with fail
          refine (indexOf_any u le h3' w3).mono ?_
          rintro e w4 ⟨rr, rfl, hb4, hidx⟩
          have HB4 : Hid (Below w.heap.size w w4) := HB3.out.trans (hb4.mono HB3.out.size)
          have HES4 : Hid (StrsAt w4 a3 es) := HES3.out.below hb4
          clear hb4 HES3 HB3
          by_cases hl2 : lp = 2
          · subst hl2
            have hr20 : r2 = [] := by
              have h1 := hrl.out
              rw [hr2.out] at h1
              simp at h1
              exact h1
            rcases hidx with ⟨rfl, hno⟩ | ⟨i, hi, rfl, hdec⟩
            · have hx := HX2.out
              rw [hr2.out, hr20, ob_miss hle.out hno] at hx
              simp only [Prod.mk.injEq] at hx
              obtain ⟨rfl, rfl, rfl, rfl⟩ := hx
              clear hr20 hno
              go_wp2
              go_ret
              exact ⟨rfl, HB4.out⟩
            · obtain ⟨b2, off2, se, hse, rfl, hb2, g2⟩ := HES4.out.pick (k := i) (by rw [hle.out]; exact hi)
              have hx := HX2.out
              rw [hr2.out, hr20, ob_hit hdec (by omega) hse.out] at hx
              simp only [Prod.mk.injEq] at hx
              obtain ⟨rfl, rfl, rfl, rfl⟩ := hx
              clear hr20 hdec
              have hi' : (i : Int) < (le : Int) := by omega
              go_wp2
              go_ret
              exact ⟨rfl, HB4.out⟩
          · have hl2' : ((lp : Int) == 2) = false := by simp; omega
            obtain ⟨y, r3, hr3⟩ : ∃ y r3, Hid (r2 = y :: r3) := by
              have h1 := hrl.out
              rw [hr2.out] at h1
              match r2, h1 with
              | [], h => simp at h; omega
              | y :: r3, _ => exact ⟨y, r3, rfl⟩
            have hx := HX2.out
            rw [hr2.out, hr3.out, ob_two] at hx
            simp only [Prod.mk.injEq] at hx
            obtain ⟨rfl, rfl, rfl, rfl⟩ := hx
            clear hidx
            go_wp2
            go_ret
            exact ⟨rfl, HB4.out⟩
end Go.Proofs.Qxb6626079aDoor
