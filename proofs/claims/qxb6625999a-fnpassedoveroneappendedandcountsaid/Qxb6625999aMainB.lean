import Derived.Test.Qxb6625999aWalkB
import Derived.Test.Qxb6625999aWalkC
import Derived.Test.Qxb6625999aPlainB
namespace Go.Proofs.Qxb6625999a
open Go.RowKit

def LawEndB (w : World) (e : Ending) (w' : World) : Prop := e = .returned (.bool true) ∧ Below w.heap.size w w'

set_option maxRecDepth 100000 in
set_option maxHeartbeats 8000000 in
theorem lawB_any (a r pb : Option Addr) (la ca lr cr lb cb : Nat) (t0 : Int) (rd : List Int) (ps : List Pl) (w : World) (hp : PlsAt w a ps) (hr : IntsAt w r rd) (hbody : BodyAt w pb lb) (hgood : Good w ps) (hby : Bytes rd) (ht0 : 0 ≤ t0) (ht1 : t0 < 256) (hla : Hid (ps.length = la)) (hlr : Hid (rd.length = lr)) :
    Calls Try.prog 4 #[.slice a la ca, .int .u8 t0, .slice pb lb cb, .slice r lr cr] w fun e w' => LawEndB w e w' := by
  have hm := hp.1
  rw [hla.out] at hm
  have hm' := hr.1
  rw [hlr.out] at hm'
  have hm'' := hm'
  have hmb := hbody.1
  have hmb' := hbody.1
  unfold maxLen at hm hm' hmb
  have HP : Hid (PlsAt w a ps) := hp
  have HR : Hid (IntsAt w r rd) := hr
  have HG : Hid (Good w ps) := hgood
  have HBD : Hid (BodyAt w pb lb) := hbody
  have HBY : Hid (Bytes rd) := hby
  clear hp hr hgood hbody hby
  by_cases h1 : 16384 < la
  · go_enter Try.func4, Try.ntmps4
    go_wp2_with fail
    refine (zzBytes10_any t0 a pb r la ca lb cb lr cr ps w HP.out hla hmb' hm'').mono ?_
    rintro e w' ⟨b, rfl, rfl⟩
    cases b
    · go_wp2
      go_ret
      exact ⟨rfl, Below.refl _ _⟩
    · go_wp2
      go_ret
      exact ⟨rfl, Below.refl _ _⟩
  have h1' : la ≤ 16384 := by omega
  by_cases h2 : 4096 < lr
  · go_enter Try.func4, Try.ntmps4
    go_wp2_with fail
    refine (zzBytes10_any t0 a pb r la ca lb cb lr cr ps w HP.out hla hmb' hm'').mono ?_
    rintro e w' ⟨b, rfl, rfl⟩
    cases b
    · go_wp2
      go_ret
      exact ⟨rfl, Below.refl _ _⟩
    · go_wp2
      go_ret
      exact ⟨rfl, Below.refl _ _⟩
  have h2' : lr ≤ 4096 := by omega
  by_cases h3 : 1048576 < lb
  · go_enter Try.func4, Try.ntmps4
    go_wp2_with fail
    refine (zzBytes10_any t0 a pb r la ca lb cb lr cr ps w HP.out hla hmb' hm'').mono ?_
    rintro e w' ⟨b, rfl, rfl⟩
    cases b
    · go_wp2
      go_ret
      exact ⟨rfl, Below.refl _ _⟩
    · go_wp2
      go_ret
      exact ⟨rfl, Below.refl _ _⟩
  have h3' : lb ≤ 1048576 := by omega
  clear h1 h2 h3
  go_enter Try.func4, Try.ntmps4
  go_wp2_with fail
  refine (zzBytes10_any t0 a pb r la ca lb cb lr cr ps w HP.out hla hmb' hm'').mono ?_
  rintro e w0 ⟨b, rfl, hw⟩
  have hw0 : w = w0 := hw.symm
  subst hw0
  cases b
  · go_wp2
    go_ret
    exact ⟨rfl, Below.refl _ _⟩
  clear hm'' hmb' hw
  by_cases h4 : 1048576 < (la : Int) * 32 + 32 + (lr : Int) + (lb : Int)
  · go_wp2
    go_ret
    exact ⟨rfl, Below.refl _ _⟩
  go_wp2
  go_loop [9, 10] (fun s i => ∃ (m : Int) (k : Nat), k ≤ la ∧ i = .int .i64 k ∧ s = .int .i64 m) (fun _ i => la - (intOf i).toNat)
  case atStart => exact ⟨_, 0, Nat.zero_le _, rfl, rfl⟩
  case round =>
    obtain ⟨m, k, hk, rfl, rfl⟩ := hrel
    by_cases hlt : k < la
    · obtain ⟨b, off, t, d, l, cp, hps, rfl, hb, g0, g1⟩ := HP.out.pick (k := k) (by have := hla.out; omega)
      go_wp2
      case roundEnd =>
        go_round
        case rel => exact ⟨_, k+1, by omega, by go_num, rfl⟩
        case measure => simp [intOf]; omega
      all_goals
        go_ret
        exact ⟨rfl, Below.refl _ _⟩
    go_wp2_with fail
    refine (toPayloads_any a la ca ps w HP.out hla h1').mono ?_
    rintro e w1 ⟨rfl, hrow1, hb1⟩
    have HB1 : Hid (Below w.heap.size w w1) := hb1
    have HPL1 : Hid (PlsAt w1 (some ⟨w.heap.size, 0, none⟩) ps) := by
      obtain ⟨_, a', c', h, hp'⟩ := owns_pls hrow1
      simp only [Value.slice.injEq, true_and] at h
      obtain ⟨rfl, rfl⟩ := h
      exact hp'
    clear hrow1 hb1
    obtain ⟨i0, hi, hz0, hz1, hz2⟩ := info_parts info36
    go_wp2_with (at_make; refine wpList_make_full _ rfl _ _ 27 rfl w1.heap.size 36 i0 _ 2 Try.underlying27 hi hz0 hz1 _ _ _ _ (la + 1) rfl rfl (by omega) (by omega) (by rw [hz2]; omega) (by unfold maxLen; omega) (by omega) ?_; intro w2 hown2 hg2)
    have hb2 : Below w1.heap.size w1 w2 := (Below.refl _ _).grown hg2 (Nat.le_refl _) (fun j hj => by cases hj)
    clear hg2
    obtain ⟨qs, hqs⟩ : ∃ qs : List Pl, Hid (qs = ps ++ [(⟨t0, pb, lb, cb⟩ : Pl)]) := ⟨_, rfl⟩
    go_loopw [13] (fun i wr => ∃ (q : Nat) (xs : List Value), q ≤ la ∧ i = .int .i64 q ∧ wr.ownsRow w1.heap.size 36 2 (.slice (some ⟨w1.heap.size, 0, none⟩) (la + 1) (la + 1)) (la + 1) xs ∧ Hid (xs.take (q * 2) = cellsP (qs.take q)) ∧ Below w1.heap.size w1 wr) (fun i _ => la - (intOf i).toNat)
    case atStart => exact ⟨0, _, Nat.zero_le _, rfl, hown2, by show List.take _ _ = _; simp [cellsP], hb2⟩
    case round =>
      obtain ⟨q, xs, hq, rfl, howr, hxs, hbr⟩ := hrel
      clear hown2 hb2
      obtain ⟨v0, o0⟩ : ∃ v, wr.cell? ⟨w1.heap.size, q * 2, none⟩ = some v := ⟨_, (howr.cellAt (q * 2) (by omega)).trans (List.getElem?_eq_getElem (by have := howr.1; omega))⟩
      obtain ⟨v1, o1⟩ : ∃ v, wr.cell? ⟨w1.heap.size, q * 2 + 1, none⟩ = some v := ⟨_, (howr.cellAt (q * 2 + 1) (by omega)).trans (List.getElem?_eq_getElem (by have := howr.1; omega))⟩
      have f0 := howr.frozenAt (q * 2)
      have f1 := howr.frozenAt (q * 2 + 1)
      by_cases hlt2 : q < la
      · obtain ⟨b, off, t, d, l, cp, hps, rfl, hb, g0, g1⟩ := ((HP.out.below HB1.out).below hbr).pick (k := q) (by have := hla.out; omega)
        have hbw : b < w1.heap.size := by
          obtain ⟨b', off', he, hlt', _⟩ := (HP.out.below HB1.out).2 (by have := hla.out; omega)
          simp at he
          omega
        have st := stored_two (W := w1) (ps := qs) (p := ⟨t, d, l, cp⟩) howr (by omega) (by rw [hqs.out, List.getElem?_append_left (by have := hla.out; omega)]; exact hps.out) hxs.out (Nat.le_refl _) hbr
        have ST := (show Hid _ from st)
        clear st howr hxs hbr
        go_wp2_with fail
        go_region
        all_goals go_wp2
        go_roundw
        case rel =>
          obtain ⟨xs', h1, h2, h3⟩ := ST.out
          exact ⟨q + 1, xs', by omega, by go_num, h1.drew, h2, h3.drew⟩
        case measure => simp [intOf]; omega
      · have hqe : q = la := by omega
        subst hqe
        have st := stored_two (W := w1) (ps := qs) (p := ⟨t0, pb, lb, cb⟩) howr (by omega) (by rw [hqs.out]; exact last_at hla.out) hxs.out (Nat.le_refl _) hbr
        have ST := (show Hid _ from st)
        clear st howr hxs hbr
        go_wp2_with fail
        obtain ⟨w3, hw3⟩ : ∃ w3, w3 = (wr.setCell ⟨w1.heap.size, q * 2, none⟩ (.int .u8 t0)).setCell ⟨w1.heap.size, q * 2 + 1, none⟩ (.slice pb lb cb) := ⟨_, rfl⟩
        have st := ST.out
        rw [← hw3] at st ⊢
        clear hw3 ST o0 o1 f0 f1
        have HLQ : Hid (qs.length = q + 1) := by have := hla.out; show qs.length = q + 1; rw [hqs.out]; simp; omega
        obtain ⟨xs', hrow3, htk, hb3⟩ := st
        have HMORE3 : Hid (PlsAt w3 (some ⟨w1.heap.size, 0, none⟩) qs) := by
          have hx : xs' = cellsP qs := by
            rwa [List.take_of_length_le (by have := hrow3.1; omega), List.take_of_length_le (by have := HLQ.out; omega)] at htk
          rw [hx] at hrow3
          obtain ⟨_, a', c', h, hp'⟩ := owns_pls hrow3
          simp only [Value.slice.injEq, true_and] at h
          obtain ⟨rfl, rfl⟩ := h
          exact hp'
        have HB3 : Hid (Below w.heap.size w w3) := HB1.out.trans (hb3.mono HB1.out.size)
        have HPL3 : Hid (PlsAt w3 (some ⟨w.heap.size, 0, none⟩) ps) := HPL1.out.below hb3
        clear hrow3 htk hb3 HPL1 HB1 hi hz0 hz1 hz2 xs'
        refine (toTypes_any r lr cr rd w3 (HR.out.below HB3.out) hlr h2').mono ?_
        rintro e w4 ⟨rfl, hrow4, hb4⟩
        have HRD4 : Hid (IntsAt w4 (some ⟨w3.heap.size, 0, none⟩) rd) := by
          obtain ⟨_, a', c', h, hp'⟩ := owns_ints hrow4
          simp only [Value.slice.injEq, true_and] at h
          obtain ⟨rfl, rfl⟩ := h
          exact hp'
        have HB4 : Hid (Below w.heap.size w w4) := HB3.out.trans (hb4.mono HB3.out.size)
        have HPL4 : Hid (PlsAt w4 (some ⟨w.heap.size, 0, none⟩) ps) := HPL3.out.below hb4
        have HMORE4 : Hid (PlsAt w4 (some ⟨w1.heap.size, 0, none⟩) qs) := HMORE3.out.below hb4
        clear hrow4 hb4 HB3 HPL3 HMORE3
        go_wp2_with fail
        refine (passedOver_any _ _ q q lr lr rd ps w4 HPL4.out HRD4.out hla hlr (by omega)).mono ?_
        rintro e w5 ⟨ga, gn, gc, rfl, hgn, hgot, _, hb5⟩
        have HGN : Hid ((overTo rd ps q).length = gn) := hgn
        have HGOT5 : Hid (PlsAt w5 ga (overTo rd ps q)) := hgot
        have HB5 : Hid (Below w.heap.size w w5) := HB4.out.trans (hb5.mono HB4.out.size)
        have HMORE5 : Hid (PlsAt w5 (some ⟨w1.heap.size, 0, none⟩) qs) := HMORE4.out.below hb5
        have HRD5 : Hid (IntsAt w5 (some ⟨w3.heap.size, 0, none⟩) rd) := HRD4.out.below hb5
        clear hgn hgot hb5 HB4 HPL4 HMORE4 HRD4
        go_wp2_with fail
        refine (passedOver_any _ _ (q + 1) (q + 1) lr lr rd qs w5 HMORE5.out HRD5.out HLQ hlr (by omega)).mono ?_
        rintro e w6 ⟨gb, gm, gd, rfl, hgm, hgot, _, hb6⟩
        have HGM : Hid ((overTo rd qs (q + 1)).length = gm) := hgm
        have HGOTB : Hid (PlsAt w6 gb (overTo rd qs (q + 1))) := hgot
        have HGOTA : Hid (PlsAt w6 ga (overTo rd ps q)) := HGOT5.out.below hb6
        have HB6 : Hid (Below w.heap.size w w6) := HB5.out.trans (hb6.mono HB5.out.size)
        clear hgm hgot hb6 HB5 HMORE5 HRD5 HGOT5
        have HP6 : Hid (PlsAt w6 a ps) := HP.out.below HB6.out
        have HR6 : Hid (IntsAt w6 r rd) := HR.out.below HB6.out
        have HG6 : Hid (Good w6 ps) := HG.out.below HB6.out
        have HBD6 : Hid (BodyAt w6 pb lb) := HBD.out.below HB6.out
        clear HP HR HG HBD
        have hgn' : gn ≤ 16384 := by have := HGN.out; have := over_len rd ps q; omega
        have hz32 := zero32
        go_wp2_with fail
        clear hz32
        have R0 := (row32 w6).alloc (.cells zeros32 32)
        have R1 := row32 (w6.alloc (.cells zeros32 32))
        obtain ⟨W7, hW7⟩ : ∃ W7, W7 = (w6.alloc (.cells zeros32 32)).alloc (.cells zeros32 32) := ⟨_, rfl⟩
        have HB7 : Hid (Below w6.heap.size w6 W7) := by rw [hW7]; exact ((Below.refl _ _).alloc (Nat.le_refl _) _).alloc (by simp) _
        rw [World.size_alloc] at R1
        rw [← hW7] at R0 R1 ⊢
        obtain ⟨I, hI⟩ : ∃ I, I = w6.heap.size := ⟨_, rfl⟩
        rw [← hI] at R0 R1 ⊢
        obtain ⟨O, hO⟩ : ∃ O, O = I + 1 := ⟨_, rfl⟩
        rw [← hO] at R1 ⊢
        have HI : Hid (I = w6.heap.size) := hI
        have hIO : I < O := by omega
        clear hI hO hW7
        go_loopw [19] (fun i wr => ∃ (q3 : Nat), q3 ≤ lr ∧ i = .int .i64 q3 ∧ Row256 wr I 32 (inF rd q3) ∧ Row256 wr O 32 (occF ps 0) ∧ Below I w6 wr) (fun i _ => lr - (intOf i).toNat)
        case atStart => exact ⟨0, Nat.zero_le _, rfl, R0.congr (fun i _ => by simp [inF]), R1.congr (fun i _ => by simp [occF]), HI.out ▸ HB7.out⟩
        case round =>
          obtain ⟨q3, hq3, rfl, hrowI, hrowO, hbel⟩ := hrel
          clear R0 R1 HB7
          by_cases hlt3 : q3 < lr
          · obtain ⟨b, off, z, hzk, rfl, hb, g0⟩ := (HR6.out.below (HI.out ▸ hbel)).pick (k := q3) (by have := hlr.out; omega)
            obtain ⟨hz0, hz1⟩ := HBY.out.at hzk.out
            have hz2 : z < 256 := by omega
            have o0 := hrowI.cell (j := z.toNat) (by omega)
            have f0 := hrowI.frozen z.toNat
            have HROWI : Hid (Row256 wr I 32 (inF rd q3)) := hrowI
            have HROWO : Hid (Row256 wr O 32 (occF ps 0)) := hrowO
            clear hrowI hrowO
            go_wp2
            go_roundw
            case rel => exact ⟨q3 + 1, by omega, by go_num, HROWI.out.set (inF_next hzk.out hz0), HROWO.out.other (by omega) _ _, hbel.setCell (p := ⟨I, z.toNat, none⟩) (Nat.le_refl _) _⟩
            case measure => simp [intOf]; omega
          · have hq3' : q3 = lr := by omega
            subst hq3'
            have HROWI : Hid (Row256 wr I 32 (inF rd q3)) := hrowI
            have HROWO : Hid (Row256 wr O 32 (occF ps 0)) := hrowO
            have HBEL : Hid (Below I w6 wr) := hbel
            clear hrowI hrowO hbel
            go_wp2_with fail
            go_loopw [20, 21] (fun s i wx => ∃ (q4 nd : Nat), q4 ≤ q ∧ i = .int .i64 q4 ∧ s = .int .i64 nd ∧ Hid (dropsTo rd ps q4 = nd) ∧ Row256 wx I 32 (inF rd q3) ∧ Row256 wx O 32 (occF ps q4) ∧ Below I w6 wx) (fun _ i _ => q - (intOf i).toNat)
            case atStart => exact ⟨0, 0, Nat.zero_le _, rfl, rfl, rfl, HROWI.out, HROWO.out, HBEL.out⟩
            case round =>
              obtain ⟨q4, nd, hq4, rfl, rfl, hnd, hrowI, hrowO, hbel⟩ := hrel
              clear HROWI HROWO HBEL
              have hnd4 : nd ≤ q4 := by have := hnd.out; have := drops_over rd ps q4 (by have := hla.out; omega); omega
              by_cases hlt4 : q4 < q
              · obtain ⟨b, off, t, d, l, cp, hps, rfl, hb, g0, g1⟩ := (HP6.out.below (HI.out ▸ hbel)).pick (k := q4) (by have := hla.out; omega)
                obtain ⟨⟨ht0', ht1'⟩, _⟩ := HG6.out.at hps.out
                have htt0 : 0 ≤ t := ht0'
                have htt2 : t < 256 := by have : t ≤ 255 := ht1'; omega
                obtain ⟨c1, hc1⟩ : ∃ c1, Hid (rd.contains t = c1) := ⟨_, rfl⟩
                obtain ⟨c2, hc2⟩ : ∃ c2, Hid (((ps.take q4).any fun x => x.ty == t) = c2) := ⟨_, rfl⟩
                have o1 : wr.cell? ⟨I, t.toNat, none⟩ = some (.bool c1) := by
                  rw [hrowI.cell (j := t.toNat) (by omega), inF_all hlr.out htt0, hc1.out]
                have o2 : wr.cell? ⟨O, t.toNat, none⟩ = some (.bool c2) := by
                  rw [hrowO.cell (j := t.toNat) (by omega), occF_at htt0, hc2.out]
                have f2 := hrowO.frozen t.toNat
                have hdrop : Hid (dropAt rd ps q4 = (c1 && !c2)) := by
                  show dropAt rd ps q4 = _
                  simp only [dropAt]
                  rw [hps.out]
                  simp only []
                  rw [hc1.out, hc2.out]
                have HROWI : Hid (Row256 wr I 32 (inF rd q3)) := hrowI
                have HROWO : Hid (Row256 wr O 32 (occF ps q4)) := hrowO
                clear hrowI hrowO ht0' ht1'
                cases c1
                · go_wp2
                  go_roundw
                  case rel => exact ⟨q4 + 1, nd, by omega, by go_num, rfl, by show dropsTo rd ps (q4 + 1) = nd; simp only [dropsTo]; rw [hdrop.out, hnd.out]; rfl, HROWI.out.other (by omega) _ _, HROWO.out.set (occF_next hps.out htt0), hbel.setCell (p := ⟨O, t.toNat, none⟩) (by show I ≤ O; omega) _⟩
                  case measure => simp [intOf]; omega
                · cases c2
                  · go_wp2
                    go_roundw
                    case rel => exact ⟨q4 + 1, nd + 1, by omega, by go_num, by go_num, by show dropsTo rd ps (q4 + 1) = nd + 1; simp only [dropsTo]; rw [hdrop.out, hnd.out]; rfl, HROWI.out.other (by omega) _ _, HROWO.out.set (occF_next hps.out htt0), hbel.setCell (p := ⟨O, t.toNat, none⟩) (by show I ≤ O; omega) _⟩
                    case measure => simp [intOf]; omega
                  · go_wp2
                    go_roundw
                    case rel => exact ⟨q4 + 1, nd, by omega, by go_num, rfl, by show dropsTo rd ps (q4 + 1) = nd; simp only [dropsTo]; rw [hdrop.out, hnd.out]; rfl, HROWI.out.other (by omega) _ _, HROWO.out.set (occF_next hps.out htt0), hbel.setCell (p := ⟨O, t.toNat, none⟩) (by show I ≤ O; omega) _⟩
                    case measure => simp [intOf]; omega
              · have hq4' : q4 = q := by omega
                subst hq4'
                obtain ⟨W8, hW8⟩ : ∃ W, W = wr := ⟨_, rfl⟩
                subst hW8
                obtain ⟨c1, hc1⟩ : ∃ c1, Hid (rd.contains t0 = c1) := ⟨_, rfl⟩
                obtain ⟨c2, hc2⟩ : ∃ c2, Hid ((ps.any fun x => x.ty == t0) = c2) := ⟨_, rfl⟩
                have o1 : W8.cell? ⟨I, t0.toNat, none⟩ = some (.bool c1) := by
                  rw [hrowI.cell (j := t0.toNat) (by omega), inF_all hlr.out ht0, hc1.out]
                have o2 : W8.cell? ⟨O, t0.toNat, none⟩ = some (.bool c2) := by
                  rw [hrowO.cell (j := t0.toNat) (by omega), occF_at ht0, List.take_of_length_le (by have := hla.out; omega), hc2.out]
                have hdrop : Hid (dropAt rd qs q4 = (c1 && !c2)) := by
                  show dropAt rd qs q4 = _
                  rw [hqs.out, drop_last hla.out]
                  simp only []
                  rw [hc1.out, hc2.out]
                have hsub : ((q4 : Int) - (gn : Int) != (nd : Int)) = false := by
                  have h1 := drops_over rd ps q4 (by have := hla.out; omega)
                  have h2 := hnd.out
                  have h3 := HGN.out
                  simp
                  omega
                have HB8 : Hid (Below w6.heap.size w6 W8) := HI.out ▸ hbel
                have HEND : Hid (Below w.heap.size w W8) := HB6.out.trans (HB8.out.mono HB6.out.size)
                have HA8 : Hid (PlsAt W8 ga (overTo rd ps q4)) := HGOTA.out.below HB8.out
                have HB8b : Hid (PlsAt W8 gb (overTo rd qs (q4 + 1))) := HGOTB.out.below HB8.out
                have HG8 : Hid (Good W8 ps) := HG6.out.below HB8.out
                have HBD8 : Hid (BodyAt W8 pb lb) := HBD6.out.below HB8.out
                have hgnq : gn ≤ q4 := by have := HGN.out; have := over_len rd ps q4; omega
                clear hrowI hrowO hbel HGOTA HGOTB HG6 HBD6 HB6 HP6 HR6
                cases c1
                · have HOV : Hid (overTo rd qs (q4 + 1) = overTo rd ps q4 ++ [(⟨t0, pb, lb, cb⟩ : Pl)]) := by
                    have hd := hdrop.out
                    rw [hqs.out] at hd
                    show overTo rd qs (q4 + 1) = _
                    rw [hqs.out]
                    exact over_last_keep hla.out hd
                  have hgm : gm = gn + 1 := by have h1 := HGM.out; rw [HOV.out, List.length_append, HGN.out] at h1; exact h1.symm
                  have hgmb : ((gm : Int) != (gn : Int) + 1) = false := by simp; omega
                  have hgme : gn < gm := by omega
                  clear hgm
                  go_wp2_with fail
                  go_loopw [25] (fun i wx => ∃ (q5 : Nat), q5 ≤ gn ∧ i = .int .i64 q5 ∧ ∃ n, wx = W8.drewN n) (fun i _ => gn - (intOf i).toNat)
                  case atStart => exact ⟨0, Nat.zero_le _, rfl, 0, rfl⟩
                  case round =>
                    obtain ⟨q5, hq5, rfl, n5, hwr⟩ := hrel
                    have HWR : Hid (wr = W8.drewN n5) := hwr
                    have HA9 : Hid (PlsAt wr ga (overTo rd ps q4)) := by rw [hwr]; exact HA8.out
                    have HB9 : Hid (PlsAt wr gb (overTo rd qs (q4 + 1))) := by rw [hwr]; exact HB8b.out
                    have HG9 : Hid (Good wr ps) := by rw [hwr]; exact HG8.out
                    have HBD9 : Hid (BodyAt wr pb lb) := by rw [hwr]; exact HBD8.out
                    clear hwr
                    by_cases hlt5 : q5 < gn
                    · obtain ⟨b1, off1, t, d, l, cp, hpa, rfl, _, g0, g1⟩ := HA9.out.pick (k := q5) (by have := HGN.out; omega)
                      obtain ⟨b2, off2, t', d', l', cp', hpb, rfl, _, k0, k1⟩ := HB9.out.pick (k := q5) (by have := HGM.out; omega)
                      have e : (⟨t, d, l, cp⟩ : Pl) = ⟨t', d', l', cp'⟩ := by
                        have h1 := hpb.out
                        rw [HOV.out] at h1
                        first
                          | rw [List.getElem?_append_left (by have := HGN.out; omega)] at h1; exact Option.some.inj (hpa.out.symm.trans h1)
                          | exact Option.some.inj (hpa.out.symm.trans h1)
                      simp only [Pl.mk.injEq] at e
                      obtain ⟨rfl, rfl, rfl, rfl⟩ := e
                      have HBODY : Hid (BodyAt wr d l) := (HG9.out _ (over_mem q4 (List.mem_of_getElem? hpa.out))).2
                      have hlt5a : (q5 : Int) < (gn : Int) := by omega
                      have hlt5b : (q5 : Int) < (gm : Int) := by omega
                      go_wp2_with fail
                      go_quiet ((go_at_call 9; exact Calls.quiet_of (sameBody_any _ _ _ _ (HBODY.out.ofDrawn _))))
                      go_wp2
                      go_roundw
                      case rel => exact ⟨q5 + 1, by omega, by go_num, n5 + nq, by rw [HWR.out, World.drewN_drewN]⟩
                      case measure => simp [intOf]; omega
                    · have hq5' : q5 = gn := by omega
                      subst hq5'
                      obtain ⟨b2, off2, t', d', l', cp', hpb, rfl, _, k0, k1⟩ := HB9.out.pick (k := q5) (by have := HGM.out; omega)
                      have e : (⟨t0, pb, lb, cb⟩ : Pl) = ⟨t', d', l', cp'⟩ := by
                        have h1 := hpb.out
                        rw [HOV.out, List.getElem?_append_right (by have := HGN.out; omega), HGN.out, Nat.sub_self] at h1
                        simpa using h1
                      simp only [Pl.mk.injEq] at e
                      obtain ⟨rfl, rfl, rfl, rfl⟩ := e
                      have hlt5b : (q5 : Int) < (gm : Int) := by omega
                      go_wp2_with fail
                      refine (sameBody_any pb lb cb _ (HBD9.out.below ((Below.refl _ _).alloc (Nat.le_refl _) _))).mono ?_
                      rintro e w9 ⟨rfl, n9, hw9⟩
                      have HW9 : Hid (w9 = _) := hw9
                      clear hw9
                      go_wp2
                      go_ret
                      refine ⟨rfl, ?_⟩
                      rw [HW9.out]
                      refine below_drewN (Below.alloc ?_ ?_ _) n9
                      · rw [HWR.out]
                        exact below_drewN HEND.out n5
                      · rw [HWR.out]
                        exact HEND.out.size
                · cases c2
                  · have HOV : Hid (overTo rd qs (q4 + 1) = overTo rd ps q4) := by
                      have hd := hdrop.out
                      rw [hqs.out] at hd
                      show overTo rd qs (q4 + 1) = _
                      rw [hqs.out]
                      exact over_last_drop hla.out hd
                    have hgm : gm = gn := by have h1 := HGM.out; rw [HOV.out, HGN.out] at h1; exact h1.symm
                    have hgmb : ((gm : Int) != (gn : Int)) = false := by simp; omega
                    have hgme : gn ≤ gm := by omega
                    clear hgm
                    go_wp2_with fail
                    go_loopw [25] (fun i wx => ∃ (q5 : Nat), q5 ≤ gn ∧ i = .int .i64 q5 ∧ ∃ n, wx = W8.drewN n) (fun i _ => gn - (intOf i).toNat)
                    case atStart => exact ⟨0, Nat.zero_le _, rfl, 0, rfl⟩
                    case round =>
                      obtain ⟨q5, hq5, rfl, n5, hwr⟩ := hrel
                      have HWR : Hid (wr = W8.drewN n5) := hwr
                      have HA9 : Hid (PlsAt wr ga (overTo rd ps q4)) := by rw [hwr]; exact HA8.out
                      have HB9 : Hid (PlsAt wr gb (overTo rd qs (q4 + 1))) := by rw [hwr]; exact HB8b.out
                      have HG9 : Hid (Good wr ps) := by rw [hwr]; exact HG8.out
                      have HBD9 : Hid (BodyAt wr pb lb) := by rw [hwr]; exact HBD8.out
                      clear hwr
                      by_cases hlt5 : q5 < gn
                      · obtain ⟨b1, off1, t, d, l, cp, hpa, rfl, _, g0, g1⟩ := HA9.out.pick (k := q5) (by have := HGN.out; omega)
                        obtain ⟨b2, off2, t', d', l', cp', hpb, rfl, _, k0, k1⟩ := HB9.out.pick (k := q5) (by have := HGM.out; omega)
                        have e : (⟨t, d, l, cp⟩ : Pl) = ⟨t', d', l', cp'⟩ := by
                          have h1 := hpb.out
                          rw [HOV.out] at h1
                          first
                            | rw [List.getElem?_append_left (by have := HGN.out; omega)] at h1; exact Option.some.inj (hpa.out.symm.trans h1)
                            | exact Option.some.inj (hpa.out.symm.trans h1)
                        simp only [Pl.mk.injEq] at e
                        obtain ⟨rfl, rfl, rfl, rfl⟩ := e
                        have HBODY : Hid (BodyAt wr d l) := (HG9.out _ (over_mem q4 (List.mem_of_getElem? hpa.out))).2
                        have hlt5a : (q5 : Int) < (gn : Int) := by omega
                        have hlt5b : (q5 : Int) < (gm : Int) := by omega
                        go_wp2_with fail
                        go_quiet ((go_at_call 9; exact Calls.quiet_of (sameBody_any _ _ _ _ (HBODY.out.ofDrawn _))))
                        go_wp2
                        go_roundw
                        case rel => exact ⟨q5 + 1, by omega, by go_num, n5 + nq, by rw [HWR.out, World.drewN_drewN]⟩
                        case measure => simp [intOf]; omega
                      · go_wp2
                        go_ret
                        exact ⟨rfl, by rw [HWR.out]; exact below_drewN HEND.out n5⟩
                  · have HOV : Hid (overTo rd qs (q4 + 1) = overTo rd ps q4 ++ [(⟨t0, pb, lb, cb⟩ : Pl)]) := by
                      have hd := hdrop.out
                      rw [hqs.out] at hd
                      show overTo rd qs (q4 + 1) = _
                      rw [hqs.out]
                      exact over_last_keep hla.out hd
                    have hgm : gm = gn + 1 := by have h1 := HGM.out; rw [HOV.out, List.length_append, HGN.out] at h1; exact h1.symm
                    have hgmb : ((gm : Int) != (gn : Int) + 1) = false := by simp; omega
                    have hgme : gn < gm := by omega
                    clear hgm
                    go_wp2_with fail
                    go_loopw [25] (fun i wx => ∃ (q5 : Nat), q5 ≤ gn ∧ i = .int .i64 q5 ∧ ∃ n, wx = W8.drewN n) (fun i _ => gn - (intOf i).toNat)
                    case atStart => exact ⟨0, Nat.zero_le _, rfl, 0, rfl⟩
                    case round =>
                      obtain ⟨q5, hq5, rfl, n5, hwr⟩ := hrel
                      have HWR : Hid (wr = W8.drewN n5) := hwr
                      have HA9 : Hid (PlsAt wr ga (overTo rd ps q4)) := by rw [hwr]; exact HA8.out
                      have HB9 : Hid (PlsAt wr gb (overTo rd qs (q4 + 1))) := by rw [hwr]; exact HB8b.out
                      have HG9 : Hid (Good wr ps) := by rw [hwr]; exact HG8.out
                      have HBD9 : Hid (BodyAt wr pb lb) := by rw [hwr]; exact HBD8.out
                      clear hwr
                      by_cases hlt5 : q5 < gn
                      · obtain ⟨b1, off1, t, d, l, cp, hpa, rfl, _, g0, g1⟩ := HA9.out.pick (k := q5) (by have := HGN.out; omega)
                        obtain ⟨b2, off2, t', d', l', cp', hpb, rfl, _, k0, k1⟩ := HB9.out.pick (k := q5) (by have := HGM.out; omega)
                        have e : (⟨t, d, l, cp⟩ : Pl) = ⟨t', d', l', cp'⟩ := by
                          have h1 := hpb.out
                          rw [HOV.out] at h1
                          first
                            | rw [List.getElem?_append_left (by have := HGN.out; omega)] at h1; exact Option.some.inj (hpa.out.symm.trans h1)
                            | exact Option.some.inj (hpa.out.symm.trans h1)
                        simp only [Pl.mk.injEq] at e
                        obtain ⟨rfl, rfl, rfl, rfl⟩ := e
                        have HBODY : Hid (BodyAt wr d l) := (HG9.out _ (over_mem q4 (List.mem_of_getElem? hpa.out))).2
                        have hlt5a : (q5 : Int) < (gn : Int) := by omega
                        have hlt5b : (q5 : Int) < (gm : Int) := by omega
                        go_wp2_with fail
                        go_quiet ((go_at_call 9; exact Calls.quiet_of (sameBody_any _ _ _ _ (HBODY.out.ofDrawn _))))
                        go_wp2
                        go_roundw
                        case rel => exact ⟨q5 + 1, by omega, by go_num, n5 + nq, by rw [HWR.out, World.drewN_drewN]⟩
                        case measure => simp [intOf]; omega
                      · have hq5' : q5 = gn := by omega
                        subst hq5'
                        obtain ⟨b2, off2, t', d', l', cp', hpb, rfl, _, k0, k1⟩ := HB9.out.pick (k := q5) (by have := HGM.out; omega)
                        have e : (⟨t0, pb, lb, cb⟩ : Pl) = ⟨t', d', l', cp'⟩ := by
                          have h1 := hpb.out
                          rw [HOV.out, List.getElem?_append_right (by have := HGN.out; omega), HGN.out, Nat.sub_self] at h1
                          simpa using h1
                        simp only [Pl.mk.injEq] at e
                        obtain ⟨rfl, rfl, rfl, rfl⟩ := e
                        have hlt5b : (q5 : Int) < (gm : Int) := by omega
                        go_wp2_with fail
                        refine (sameBody_any pb lb cb _ (HBD9.out.below ((Below.refl _ _).alloc (Nat.le_refl _) _))).mono ?_
                        rintro e w9 ⟨rfl, n9, hw9⟩
                        have HW9 : Hid (w9 = _) := hw9
                        clear hw9
                        go_wp2
                        go_ret
                        refine ⟨rfl, ?_⟩
                        rw [HW9.out]
                        refine below_drewN (Below.alloc ?_ ?_ _) n9
                        · rw [HWR.out]
                          exact below_drewN HEND.out n5
                        · rw [HWR.out]
                          exact HEND.out.size
end Go.Proofs.Qxb6625999a
