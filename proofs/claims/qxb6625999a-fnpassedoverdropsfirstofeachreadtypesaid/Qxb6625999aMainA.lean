import Derived.Test.Qxb6625999aWalkB
import Derived.Test.Qxb6625999aWalkC
import Derived.Test.Qxb6625999aRowsOf
namespace Go.Proofs.Qxb6625999a
open Go.RowKit

theorem BodyAt.drewN {w : World} {a : Option Addr} {l : Nat} (h : BodyAt w a l) (n : Nat) : BodyAt (w.drewN n) a l := h

/-- inRead at a type, when all of read has been marked. -/
theorem inF_at {rd : List Int} {q : Nat} {t : Int} (hq : rd.length = q) (h0 : 0 ≤ t) : inF rd q t.toNat = .bool (rd.contains t) := by
  unfold inF
  rw [List.take_of_length_le (by omega), show ((t.toNat : Nat) : Int) = t by omega]

def LawEnd (w : World) (e : Ending) (w' : World) : Prop := e = .returned (.bool true) ∧ Below w.heap.size w w'

set_option maxRecDepth 100000 in
set_option maxHeartbeats 4000000 in
theorem lawA_any (a r : Option Addr) (la ca lr cr : Nat) (rd : List Int) (ps : List Pl) (w : World) (hp : PlsAt w a ps) (hr : IntsAt w r rd) (hgood : Good w ps) (hby : Bytes rd) (hla : Hid (ps.length = la)) (hlr : Hid (rd.length = lr)) :
    Calls Try.prog 3 #[.slice a la ca, .slice r lr cr] w fun e w' => LawEnd w e w' := by
  have hm := hp.1
  rw [hla.out] at hm
  have hm' := hr.1
  rw [hlr.out] at hm'
  have hm'' := hm'
  unfold maxLen at hm hm'
  have HP : Hid (PlsAt w a ps) := hp
  have HR : Hid (IntsAt w r rd) := hr
  have HG : Hid (Good w ps) := hgood
  clear hp hr hgood
  by_cases h1 : 16384 < la
  · go_enter Try.func3, Try.ntmps3
    go_wp2_with fail
    refine (zzBytes5_any a r la ca lr cr ps w HP.out hla hm'').mono ?_
    rintro e w' ⟨b, rfl, rfl⟩
    cases b
    · go_wp2
      go_ret
      exact ⟨rfl, Below.refl _ _⟩
    · go_wp2
      go_ret
      exact ⟨rfl, Below.refl _ _⟩
  have h1' : la ≤ 16384 := by omega
  by_cases h2 : 4096 < lr
  · go_enter Try.func3, Try.ntmps3
    go_wp2_with fail
    refine (zzBytes5_any a r la ca lr cr ps w HP.out hla hm'').mono ?_
    rintro e w' ⟨b, rfl, rfl⟩
    cases b
    · go_wp2
      go_ret
      exact ⟨rfl, Below.refl _ _⟩
    · go_wp2
      go_ret
      exact ⟨rfl, Below.refl _ _⟩
  have h2' : lr ≤ 4096 := by omega
  clear h1 h2
  go_enter Try.func3, Try.ntmps3
  go_wp2_with fail
  refine (zzBytes5_any a r la ca lr cr ps w HP.out hla hm'').mono ?_
  rintro e w' ⟨b, rfl, hw⟩
  subst hw
  cases b
  · go_wp2
    go_ret
    exact ⟨rfl, Below.refl _ _⟩
  clear hm''
  go_wp2
  go_loop [5, 6] (fun s i => ∃ (m : Int) (k : Nat), k ≤ la ∧ i = .int .i64 k ∧ s = .int .i64 m) (fun _ i => la - (intOf i).toNat)
  case atStart => exact ⟨_, 0, Nat.zero_le _, rfl, rfl⟩
  case round =>
    obtain ⟨m, k, hk, rfl, rfl⟩ := hrel
    by_cases hlt : k < la
    · obtain ⟨b, off, t, d, l, cp, hps, rfl, hb, g0, g1⟩ := HP.out.pick (k := k) (by have := hla.out; omega)
      go_wp2
      case roundEnd =>
        go_round
        case rel => exact ⟨_, k+1, by omega, by go_num, rfl⟩
        case measure => simp [intOf]; omega
      all_goals
        go_ret
        exact ⟨rfl, Below.refl _ _⟩
    go_wp2_with fail
    refine (toPayloads_any a la ca ps w' HP.out hla h1').mono ?_
    rintro e w1 ⟨rfl, hrow1, hb1⟩
    have HB1 : Hid (Below w'.heap.size w' w1) := hb1
    have HROW1 : Hid (w1.ownsRow w'.heap.size 36 2 (.slice (some ⟨w'.heap.size, 0, none⟩) la la) la (cellsP ps)) := hrow1
    clear hrow1 hb1
    go_wp2_with fail
    refine (toTypes_any r lr cr rd w1 (HR.out.below HB1.out) hlr h2').mono ?_
    rintro e w2 ⟨rfl, hrow2, hb2⟩
    have HB2 : Hid (Below w'.heap.size w' w2) := HB1.out.trans (hb2.mono HB1.out.size)
    have HROW2 : Hid (w2.ownsRow w1.heap.size 34 1 (.slice (some ⟨w1.heap.size, 0, none⟩) lr lr) lr (rd.map (Value.int .u8))) := hrow2
    have HPL2 : Hid (PlsAt w2 (some ⟨w'.heap.size, 0, none⟩) ps) := by
      obtain ⟨_, a', c', h, hp'⟩ := owns_pls HROW1.out
      simp only [Value.slice.injEq, true_and] at h
      obtain ⟨rfl, rfl⟩ := h
      exact hp'.below hb2
    have HRD2 : Hid (IntsAt w2 (some ⟨w1.heap.size, 0, none⟩) rd) := by
      obtain ⟨_, a', c', h, hp'⟩ := owns_ints hrow2
      simp only [Value.slice.injEq, true_and] at h
      obtain ⟨rfl, rfl⟩ := h
      exact hp'
    clear hrow2 hb2 HB1 HROW1 HROW2
    go_wp2_with fail
    refine (passedOver_any _ _ la la lr lr rd ps w2 HPL2.out HRD2.out hla hlr (by omega)).mono ?_
    rintro e w3 ⟨ga, gn, gc, rfl, hgn, hgot, hnil, hb3⟩
    have HB3 : Hid (Below w'.heap.size w' w3) := HB2.out.trans (hb3.mono HB2.out.size)
    have HGN : Hid ((overTo rd ps la).length = gn) := hgn
    have HGOT : Hid (PlsAt w3 ga (overTo rd ps la)) := hgot
    have HNIL : Hid (ga = none ↔ overTo rd ps la = []) := hnil
    clear hgn hgot hnil hb3 HB2 HPL2 HRD2
    have HBY : Hid (Bytes rd) := hby
    clear hby
    have hz32 := zero32
    have hz33 := zero33
    obtain ⟨I, hI⟩ : ∃ I, I = w3.heap.size := ⟨_, rfl⟩
    go_wp2_with fail
    clear hz32
    have R0 := row32 w3
    have HBI : Hid (Below I w3 (w3.alloc (.cells zeros32 32))) := by rw [hI]; exact (Below.refl _ _).alloc (Nat.le_refl _) _
    rw [← hI] at R0 ⊢
    have HI : Hid (I = w3.heap.size) := hI
    clear hI
    go_loopw [11] (fun i wr => ∃ (q : Nat), q ≤ lr ∧ i = .int .i64 q ∧ Row256 wr I 32 (inF rd q) ∧ Below I w3 wr) (fun i _ => lr - (intOf i).toNat)
    case atStart => exact ⟨0, Nat.zero_le _, rfl, R0.congr (fun i _ => by simp [inF]), HBI.out⟩
    case round =>
      obtain ⟨q, hq, rfl, hrow, hbel⟩ := hrel
      clear R0 HBI
      by_cases hlt2 : q < lr
      · obtain ⟨b, off, z, hzk, rfl, hb, g0⟩ := ((HR.out.below HB3.out).below (HI.out ▸ hbel)).pick (k := q) (by have := hlr.out; omega)
        obtain ⟨hz0, hz1⟩ := HBY.out.at hzk.out
        have hz2 : z < 256 := by omega
        have o0 := hrow.cell (j := z.toNat) (by omega)
        have f0 := hrow.frozen z.toNat
        have HROW : Hid (Row256 wr I 32 (inF rd q)) := hrow
        clear hrow hz33
        go_wp2
        go_roundw
        case rel => exact ⟨q + 1, by omega, by go_num, HROW.out.set (inF_next hzk.out hz0), hbel.setCell (p := ⟨I, z.toNat, none⟩) (Nat.le_refl _) _⟩
        case measure => simp [intOf]; omega
      · have hq2 : q = lr := by omega
        subst hq2
        obtain ⟨F, hF⟩ : ∃ F, F = wr.heap.size := ⟨_, rfl⟩
        have R0 := row33 wr
        have HRI : Hid (Row256 (wr.alloc (.cells zeros33 33)) I 32 (inF rd q)) := hrow.alloc _
        have HIF : I < F := by rw [hF]; exact hrow.lt
        have HBF : Hid (Below I w3 (wr.alloc (.cells zeros33 33))) := hbel.alloc (by have := hrow.lt; omega) _
        clear hrow hbel
        go_wp2_with fail
        clear hz33
        rw [← hF] at R0 ⊢
        clear hF
        go_loopw [13] (fun i wx => ∃ (q2 : Nat), q2 ≤ 256 ∧ i = .int .i64 q2 ∧ Row256 wx F 33 (minusF q2) ∧ Row256 wx I 32 (inF rd q) ∧ Below I w3 wx) (fun i _ => 256 - (intOf i).toNat)
        case atStart => exact ⟨0, Nat.zero_le _, rfl, R0.congr (fun i _ => by simp [minusF]), HRI.out, HBF.out⟩
        case round =>
          obtain ⟨q2, hq2, rfl, hrowF, hrowI, hbel⟩ := hrel
          clear R0 HRI HBF
          by_cases hlt3 : q2 < 256
          · have o0 := hrowF.cell hlt3
            have f0 := hrowF.frozen q2
            have HROWF : Hid (Row256 wr F 33 (minusF q2)) := hrowF
            have HROWI : Hid (Row256 wr I 32 (inF rd q)) := hrowI
            clear hrowF hrowI
            go_wp2
            go_roundw
            case rel => exact ⟨q2 + 1, by omega, by go_num, HROWF.out.set (minusF_next q2), HROWI.out.other (by omega) _ _, hbel.setCell (p := ⟨F, q2, none⟩) (by show I ≤ F; omega) _⟩
            case measure => simp [intOf]; omega
          · have hq2' : q2 = 256 := by omega
            subst hq2'
            have HROWF : Hid (Row256 wr F 33 (firstF ps 0)) := hrowF.congr (minusF_all ps)
            have HROWI : Hid (Row256 wr I 32 (inF rd q)) := hrowI
            have HBEL : Hid (Below I w3 wr) := hbel
            clear hrowF hrowI hbel
            go_wp2_with fail
            go_loopw [14] (fun i wx => ∃ (q3 : Nat), q3 ≤ la ∧ i = .int .i64 q3 ∧ Row256 wx F 33 (firstF ps q3) ∧ Row256 wx I 32 (inF rd q) ∧ Below I w3 wx) (fun i _ => la - (intOf i).toNat)
            case atStart => exact ⟨0, Nat.zero_le _, rfl, HROWF.out, HROWI.out, HBEL.out⟩
            case round =>
              obtain ⟨q3, hq3, rfl, hrowF, hrowI, hbel⟩ := hrel
              clear HROWF HROWI HBEL
              by_cases hlt4 : q3 < la
              · obtain ⟨b, off, t, d, l, cp, hps, rfl, hb, g0, g1⟩ := ((HP.out.below HB3.out).below (HI.out ▸ hbel)).pick (k := q3) (by have := hla.out; omega)
                obtain ⟨⟨ht0, ht1⟩, _⟩ := HG.out.at hps.out
                have ht0' : 0 ≤ t := ht0
                have ht2 : t < 256 := by have : t ≤ 255 := ht1; omega
                obtain ⟨fv, hfv⟩ : ∃ fv, fv = firstTo ps q3 t.toNat := ⟨_, rfl⟩
                have o0 : wr.cell? ⟨F, t.toNat, none⟩ = some (.int .i64 fv) := by rw [hfv]; exact hrowF.cell (j := t.toNat) (by omega)
                have f0 := hrowF.frozen t.toNat
                have HFV : Hid (fv = firstTo ps q3 t.toNat) := hfv
                have HROWF : Hid (Row256 wr F 33 (firstF ps q3)) := hrowF
                have HROWI : Hid (Row256 wr I 32 (inF rd q)) := hrowI
                clear hrowF hrowI hfv ht0 ht1
                by_cases hneg : fv < 0
                · go_wp2
                  go_roundw
                  case rel => exact ⟨q3 + 1, by omega, by go_num, HROWF.out.set (firstF_yes hps.out (by have := HFV.out; show firstTo ps q3 t.toNat < 0; omega)), HROWI.out.other (by omega) _ _, hbel.setCell (p := ⟨F, t.toNat, none⟩) (by show I ≤ F; omega) _⟩
                  case measure => simp [intOf]; omega
                · go_wp2
                  go_roundw
                  case rel => exact ⟨q3 + 1, by omega, by go_num, HROWF.out.congr (firstF_no hps.out (by have := HFV.out; show ¬ firstTo ps q3 t.toNat < 0; omega)), HROWI.out, hbel⟩
                  case measure => simp [intOf]; omega
              · have hq3' : q3 = la := by omega
                subst hq3'
                have HROWF : Hid (Row256 wr F 33 (firstF ps q3)) := hrowF
                have HROWI : Hid (Row256 wr I 32 (inF rd q)) := hrowI
                have HBEL : Hid (Below I w3 wr) := hbel
                clear hrowF hrowI hbel
                obtain ⟨W5, hW5⟩ : ∃ W, W = wr := ⟨_, rfl⟩
                subst hW5
                have HP5 : Hid (PlsAt W5 a ps) := (HP.out.below HB3.out).below (HI.out ▸ HBEL.out)
                have HG5 : Hid (Good W5 ps) := (HG.out.below HB3.out).below (HI.out ▸ HBEL.out)
                have HGOT5 : Hid (PlsAt W5 ga (overTo rd ps q3)) := HGOT.out.below (HI.out ▸ HBEL.out)
                have HEND : Hid (Below w'.heap.size w' W5) := HB3.out.trans (HBEL.out.mono (by rw [HI.out]; exact HB3.out.size))
                have hnil27 := fun (w : World) (a : Option Addr) (l c : Nat) => Lib.run_eql_slice_nil (P := Try.prog) w 27 36 a l c 0 0 Try.underlying27
                have hgn : gn ≤ 16384 := by have := HGN.out; have := over_len rd ps q3; omega
                go_wp2_with fail
                go_loopw [15, 16] (fun j i wx => ∃ (q4 jn : Nat), q4 ≤ q3 ∧ i = .int .i64 q4 ∧ j = .int .i64 jn ∧ Hid ((overTo rd ps q4).length = jn) ∧ ∃ n, wx = W5.drewN n) (fun _ i _ => q3 - (intOf i).toNat)
                case atStart => exact ⟨0, 0, Nat.zero_le _, rfl, rfl, rfl, 0, rfl⟩
                case round =>
                  obtain ⟨q4, jn, hq4, rfl, rfl, hjn, n4, hwr⟩ := hrel
                  have HWR : Hid (wr = W5.drewN n4) := hwr
                  have HP6 : Hid (PlsAt wr a ps) := by rw [hwr]; exact HP5.out
                  have HG6 : Hid (Good wr ps) := by rw [hwr]; exact HG5.out
                  have HGOT6 : Hid (PlsAt wr ga (overTo rd ps q3)) := by rw [hwr]; exact HGOT5.out
                  have HROWF6 : Hid (Row256 wr F 33 (firstF ps q3)) := by rw [hwr]; exact HROWF.out
                  have HROWI6 : Hid (Row256 wr I 32 (inF rd q)) := by rw [hwr]; exact HROWI.out
                  clear hwr
                  have hjn4 : jn ≤ 16384 := by have := hjn.out; have := over_len rd ps q4; omega
                  by_cases hlt5 : q4 < q3
                  · obtain ⟨b, off, t, d, l, cp, hps, rfl, hb, g0, g1⟩ := HP6.out.pick (k := q4) (by have := hla.out; omega)
                    obtain ⟨⟨ht0, ht1⟩, hbody⟩ := HG6.out.at hps.out
                    have ht0' : 0 ≤ t := ht0
                    have ht2 : t < 256 := by have : t ≤ 255 := ht1; omega
                    have HBODY : Hid (BodyAt wr d l) := hbody
                    obtain ⟨c1, hc1⟩ : ∃ c1, Hid (rd.contains t = c1) := ⟨_, rfl⟩
                    obtain ⟨fv, hfv⟩ : ∃ fv, Hid (firstTo ps q3 t.toNat = fv) := ⟨_, rfl⟩
                    have o1 : wr.cell? ⟨I, t.toNat, none⟩ = some (.bool c1) := by
                      rw [HROWI6.out.cell (j := t.toNat) (by omega), inF_at hlr.out ht0', hc1.out]
                    have o2 : wr.cell? ⟨F, t.toNat, none⟩ = some (.int .i64 fv) := by
                      rw [HROWF6.out.cell (j := t.toNat) (by omega)]
                      unfold firstF
                      rw [hfv.out]
                    have hdrop : Hid (dropAt rd ps q4 = (c1 && (fv == (q4 : Int)))) := by
                      show dropAt rd ps q4 = _
                      rw [drop_is (fun p hp => (HG6.out p hp).1.1) hps.out]
                      have := hla.out
                      subst this
                      rw [hc1.out, hfv.out]
                    clear ht0 ht1 hbody
                    have keep : dropAt rd ps q4 = false → ∃ gb goff, ga = some ⟨gb, goff, none⟩ ∧ wr.cell? ⟨gb, goff + jn * 2, none⟩ = some (.int .u8 t) ∧ wr.cell? ⟨gb, goff + jn * 2 + 1, none⟩ = some (.slice d l cp) ∧ jn < gn := by
                      intro hd
                      have hat := over_at hps.out hd hlt5
                      rw [hjn.out] at hat
                      have hjl := (List.getElem?_eq_some_iff.1 hat).1
                      obtain ⟨gb, goff, t', d', l', cp', hps', hga, _, k0, k1⟩ := HGOT6.out.pick (k := jn) hjl
                      have := Option.some.inj (hat.symm.trans hps'.out)
                      simp only [Pl.mk.injEq] at this
                      obtain ⟨rfl, rfl, rfl, rfl⟩ := this
                      exact ⟨gb, goff, hga, k0, k1, by have := HGN.out; omega⟩
                    have KEEP := (show Hid _ from keep)
                    clear keep
                    cases c1
                    · obtain ⟨gb, goff, rfl, k0, k1, hjg⟩ := KEEP.out (by rw [hdrop.out]; rfl)
                      clear KEEP
                      have hjg' : (jn : Int) < (gn : Int) := by omega
                      go_wp2_with fail
                      go_quiet ((go_at_call 9; exact Calls.quiet_of (sameBody_any _ _ _ _ (HBODY.out.drewN _))))
                      go_wp2
                      go_roundw
                      case rel =>
                        refine ⟨q4 + 1, jn + 1, by omega, by go_num, by go_num, ?_, n4 + nq, by rw [HWR.out, World.drewN_drewN]⟩
                        show (overTo rd ps (q4 + 1)).length = jn + 1
                        rw [over_keep (by rw [hdrop.out]; rfl) hps.out, List.length_append, hjn.out]
                        rfl
                      case measure => simp [intOf]; omega
                    · by_cases hfe : (fv == (q4 : Int)) = true
                      · clear KEEP
                        go_wp2
                        go_roundw
                        case rel =>
                          refine ⟨q4 + 1, jn, by omega, by go_num, rfl, ?_, n4, HWR.out⟩
                          show (overTo rd ps (q4 + 1)).length = jn
                          rw [over_drop (by rw [hdrop.out, hfe]; rfl), hjn.out]
                        case measure => simp [intOf]; omega
                      · have hfe' : (fv == (q4 : Int)) = false := by simpa using hfe
                        clear hfe
                        obtain ⟨gb, goff, rfl, k0, k1, hjg⟩ := KEEP.out (by rw [hdrop.out, hfe']; rfl)
                        clear KEEP
                        have hjg' : (jn : Int) < (gn : Int) := by omega
                        go_wp2_with fail
                        go_quiet ((go_at_call 9; exact Calls.quiet_of (sameBody_any _ _ _ _ (HBODY.out.drewN _))))
                        go_wp2
                        go_roundw
                        case rel =>
                          refine ⟨q4 + 1, jn + 1, by omega, by go_num, by go_num, ?_, n4 + nq, by rw [HWR.out, World.drewN_drewN]⟩
                          show (overTo rd ps (q4 + 1)).length = jn + 1
                          rw [over_keep (by rw [hdrop.out, hfe']; rfl) hps.out, List.length_append, hjn.out]
                          rfl
                        case measure => simp [intOf]; omega
                  · have hqq : q4 = q3 := by omega
                    subst hqq
                    have hjg : jn = gn := by have := hjn.out; have := HGN.out; omega
                    subst hjg
                    cases ga with
                    | none =>
                      have h0 : jn = 0 := by have := hjn.out; rw [HNIL.out.1 rfl] at this; simpa using this.symm
                      subst h0
                      go_wp2
                      go_ret
                      exact ⟨rfl, by rw [HWR.out]; exact below_drewN HEND.out n4⟩
                    | some gaa =>
                      have hne : jn ≠ 0 := by
                        intro h0
                        have h1 := hjn.out
                        rw [h0] at h1
                        have := HNIL.out.2 (List.length_eq_zero_iff.1 h1)
                        cases this
                      have hne' : ((jn : Int) == 0) = false := by simpa using hne
                      go_wp2
                      go_ret
                      exact ⟨rfl, by rw [HWR.out]; exact below_drewN HEND.out n4⟩
end Go.Proofs.Qxb6625999a
