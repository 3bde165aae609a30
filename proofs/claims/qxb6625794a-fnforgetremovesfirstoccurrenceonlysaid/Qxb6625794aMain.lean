import Derived.Test.Qxb6625794aWalkA
import Derived.Test.Qxb6625794aWalkB
import Derived.Test.Qxb6625794aWalkE
import Derived.Test.Qxb6625794aWalkF
namespace Go.Proofs.Qxb6625794a
open Go.RowKit

/-- What stands as long as the call has only made blocks of its own: obj's box reads as it did. -/
theorem stage {w wi : World} {t i k r : ByteArray} (hb : Below (w.heap.size + 1) (w.alloc (.cells #[.string t, .string i, .string k, .string r] 24)) wi) :
    wi.cell? ⟨w.heap.size, 0, none⟩ = some (.string t) ∧ wi.cell? ⟨w.heap.size, 1, none⟩ = some (.string i) ∧ wi.cell? ⟨w.heap.size, 2, none⟩ = some (.string k) ∧ wi.cell? ⟨w.heap.size, 3, none⟩ = some (.string r) ∧
    w.heap.size < wi.heap.size ∧ Hid (Below w.heap.size w wi) :=
  ⟨(hb.cell (p := ⟨w.heap.size, 0, none⟩) (Nat.lt_succ_self _)).trans (by simp), (hb.cell (p := ⟨w.heap.size, 1, none⟩) (Nat.lt_succ_self _)).trans (by simp),
   (hb.cell (p := ⟨w.heap.size, 2, none⟩) (Nat.lt_succ_self _)).trans (by simp), (hb.cell (p := ⟨w.heap.size, 3, none⟩) (Nat.lt_succ_self _)).trans (by simp),
   by have := hb.size; simp at this; omega, ((Below.refl _ _).alloc (Nat.le_refl _) _).trans (hb.mono (by omega))⟩

/-- The law's end: true, and nothing that was there has turned. -/
def LawEnd (w : World) (e : Ending) (w' : World) : Prop := e = .returned (.bool true) ∧ Below w.heap.size w w'

set_option maxRecDepth 100000 in
set_option maxHeartbeats 4000000 in
theorem law_any (n : Int) (a c : Option Addr) (la ca lc cc : Nat) (os ps : List Ob) (t i k r : ByteArray) (w : World) (ho : ObsAt w a os) (hp : ObsAt w c ps) (hla : Hid (os.length = la)) (hlc : Hid (ps.length = lc)) :
    Calls Try.prog 3 #[.int .i64 n, .slice a la ca, .slice c lc cc, .agg #[.string t, .string i, .string k, .string r]] w fun e w' => LawEnd w e w' := by
  have hm := ho.1
  rw [hla.out] at hm
  have hm' := hp.1
  rw [hlc.out] at hm'
  unfold maxLen at hm hm'
  have HO : Hid (ObsAt w a os) := ho
  have HP : Hid (ObsAt w c ps) := hp
  clear ho hp
  go_enter Try.func3, Try.ntmps3
  go_wp2_with fail
  have st0 : Below w.heap.size w (w.alloc (.cells #[.string t, .string i, .string k, .string r] 24)) := (Below.refl _ _).alloc (Nat.le_refl _) _
  refine (zzBytes_any n a c la ca lc cc os ps t i k r _ (HO.out.below st0) (HP.out.below st0) hla hlc).mono ?_
  rintro e w1 ⟨b, rfl, hb1, hbb⟩
  have hb1' : Below (w.heap.size + 1) (w.alloc (.cells #[.string t, .string i, .string k, .string r] 24)) w1 := by simpa using hb1
  obtain ⟨x0, x1, x2, x3, hz1, HB1⟩ := stage hb1'
  clear hb1 st0
  cases b
  · go_wp2
    go_ret
    exact ⟨rfl, HB1.out⟩
  obtain ⟨hla2, hlc2⟩ := hbb rfl
  clear hbb
  go_wp2_with fail
  refine (objBytes_any t i k r _ w1).mono ?_
  rintro e w2 ⟨n2, rfl, hb2⟩
  have hb2' := hb1'.trans (hb2.mono hz1)
  clear hb1' x0 x1 x2 x3 hz1 HB1 hb2
  obtain ⟨x0, x1, x2, x3, hz2, HB2⟩ := stage hb2'
  by_cases hn2 : n2 < 0
  · go_wp2
    go_ret
    exact ⟨rfl, HB2.out⟩
  go_wp2_with fail
  refine (objsBytes_any a la ca os _ w2 (HO.out.below HB2.out) hla).mono ?_
  rintro e w3 ⟨n3, rfl, hb3⟩
  have hb3' := hb2'.trans (hb3.mono hz2)
  clear hb2' x0 x1 x2 x3 hz2 HB2 hb3
  obtain ⟨x0, x1, x2, x3, hz3, HB3⟩ := stage hb3'
  by_cases hn3 : n3 < 0
  · go_wp2
    go_ret
    exact ⟨rfl, HB3.out⟩
  go_wp2_with fail
  refine (objsBytes_any c lc cc ps _ w3 (HP.out.below HB3.out) hlc).mono ?_
  rintro e w4 ⟨n4, rfl, hb4⟩
  have hb4' := hb3'.trans (hb4.mono hz3)
  clear hb3' x0 x1 x2 x3 hz3 HB3 hb4
  obtain ⟨x0, x1, x2, x3, hz4, HB4⟩ := stage hb4'
  by_cases hn4 : n4 < 0
  · go_wp2
    go_ret
    exact ⟨rfl, HB4.out⟩
  go_wp2_with fail
  refine (containsObj_any a la ca os t i k r w4 (HO.out.below HB4.out) hla).mono ?_
  rintro e w5 ⟨b5, rfl, hb5, hno⟩
  have hb5' := hb4'.trans (hb5.mono hz4)
  clear hb4' x0 x1 x2 x3 hz4 HB4 hb5
  obtain ⟨x0, x1, x2, x3, hz5, HB5⟩ := stage hb5'
  cases b5
  rotate_left
  · go_wp2
    go_ret
    exact ⟨rfl, HB5.out⟩
  have HNO : Hid (∀ o, o ∈ os → o ≠ ⟨t, i, k, r⟩) := hno rfl
  clear hno
  obtain ⟨i0, hi, hzz, hz1, hz2⟩ := info_parts info31
  go_wp2_with (at_make; refine wpList_make_own _ rfl _ _ 29 rfl w.heap.size 31 i0 _ 4 Try.underlying29 hi hzz hz1 _ _ _ (la + 1 + lc) rfl rfl (by omega) (by rw [hz2]; omega) (by unfold maxLen; omega) (by omega) ?_; intro w6 hown6 hg6)
  obtain ⟨g, hgE⟩ : ∃ g, g = w5.heap.size := ⟨_, rfl⟩
  rw [← hgE] at hown6 ⊢
  have hgw : w.heap.size < g := by omega
  have HGE : Hid (g = w5.heap.size) := hgE
  clear hgE
  have hb6' := hb5'.grown hg6 (by have := hb5'.size; simp at this; omega) (fun j hj => by cases hj)
  clear hb5' x0 x1 x2 x3 HB5 hg6
  obtain ⟨x0, x1, x2, x3, hz6, HB6⟩ := stage hb6'
  refine (toLock_any w a la ca os [] g 0 (la + 1 + lc) w6 HO.out hla rfl HB6.out (by omega) hown6 (by omega) (by omega)).mono ?_
  rintro e w7 ⟨rfl, hown7, hg7⟩
  rw [Nat.zero_add]
  rw [List.nil_append] at hown7
  have hb7' := hb6'.grown hg7 (by omega) (fun j hj => by cases hj; omega)
  clear hb6' x0 x1 x2 x3 HB6 hg7 hz6 hown6
  obtain ⟨x0, x1, x2, x3, hz7, HB7⟩ := stage hb7'
  have hrow7 := hown7.row hla.out
  clear hown7
  go_wp2_with (at_builtin; refine wpList_append_fits _ rfl (.tmp 46) (.tmp 48) 29 rfl w.heap.size 31 i0 4 Try.underlying29 hi hz1 g la (la + 1 + lc) _ rfl (hrow7.alloc _) ⟨w7.heap.size, 0, none⟩ 1 1 [.string t, .string i, .string k, .string r] rfl rfl (cells_four _ _ _ _ _ _) (four_one _ _ _ _) (by omega) ?_; intro w8 hown8 hg8)
  have hown8' : Own w8 w.heap.size g (la + 1 + lc) (os ++ [⟨t, i, k, r⟩]) := by
    refine Own.of (n := la + 1) ?_ (by have := hla.out; simp; omega)
    rw [cellsOf_append]
    exact hown8
  have hb8' := (hb7'.alloc hz7 _).grown hg8 (by simp; omega) (fun j hj => by cases hj; omega)
  clear hb7' x0 x1 x2 x3 HB7 hg8 hz7 hown8 hrow7
  obtain ⟨x0, x1, x2, x3, hz8, HB8⟩ := stage hb8'
  refine (toLock_any w c lc cc ps (os ++ [⟨t, i, k, r⟩]) g (la + 1) (la + 1 + lc) w8 HP.out hlc (by have := hla.out; show (os ++ [_]).length = la + 1; simp; omega) HB8.out (by omega) hown8' (by omega) (by omega)).mono ?_
  rintro e w9 ⟨rfl, hown9, hg9⟩
  have hb9' := hb8'.grown hg9 (by omega) (fun j hj => by cases hj; omega)
  clear hb8' x0 x1 x2 x3 HB8 hg9 hz8 hown8'
  obtain ⟨x0, x1, x2, x3, hz9, HB9⟩ := stage hb9'
  rw [List.append_assoc, List.singleton_append] at hown9
  have HOWN9 : Hid (Own w9 w.heap.size g (la + 1 + lc) (os ++ ⟨t, i, k, r⟩ :: ps)) := hown9
  have hglt9 : g < w9.heap.size := (hown9.lt g rfl).2
  clear hown9
  go_wp2_with (at_make; refine wpList_make_own _ rfl _ _ 29 rfl w.heap.size 31 i0 _ 4 Try.underlying29 hi hzz hz1 _ _ _ (la + lc) rfl rfl (by omega) (by rw [hz2]; omega) (by unfold maxLen; omega) (by omega) ?_; intro w10 hown10 hg10)
  obtain ⟨g2, hgE⟩ : ∃ g2, g2 = w9.heap.size := ⟨_, rfl⟩
  rw [← hgE] at hown10 ⊢
  have hgw2 : g < g2 := by omega
  have HGE2 : Hid (g2 = w9.heap.size) := hgE
  clear hgE
  have hb10' := hb9'.grown hg10 (by omega) (fun j hj => by cases hj)
  have HOWN10 : Hid (Own w10 w.heap.size g (la + 1 + lc) (os ++ ⟨t, i, k, r⟩ :: ps)) := World.ownsRow.kept HOWN9.out hg10 (Or.inr (by simp [Value.ownBlock]))
  clear hb9' x0 x1 x2 x3 HB9 hg10 hz9 HOWN9 hglt9
  obtain ⟨x0, x1, x2, x3, hz10, HB10⟩ := stage hb10'
  refine (toLock_any w a la ca os [] g2 0 (la + lc) w10 HO.out hla rfl HB10.out (by omega) hown10 (by omega) (by omega)).mono ?_
  rintro e w11 ⟨rfl, hown11, hg11⟩
  rw [Nat.zero_add]
  rw [List.nil_append] at hown11
  have hb11' := hb10'.grown hg11 (by omega) (fun j hj => by cases hj; omega)
  have HOWN11 : Hid (Own w11 w.heap.size g (la + 1 + lc) (os ++ ⟨t, i, k, r⟩ :: ps)) := World.ownsRow.kept HOWN10.out hg11 (Or.inr (by simp [Value.ownBlock]; omega))
  clear hb10' x0 x1 x2 x3 HB10 hg11 hz10 HOWN10 hown10
  obtain ⟨x0, x1, x2, x3, hz11, HB11⟩ := stage hb11'
  go_wp2_with fail
  refine (toLock_any w c lc cc ps os g2 la (la + lc) w11 HP.out hlc hla HB11.out (by omega) hown11 (by omega) (by omega)).mono ?_
  rintro e w12 ⟨rfl, hown12, hg12⟩
  have hb12' := hb11'.grown hg12 (by omega) (fun j hj => by cases hj; omega)
  have HOWN12 : Hid (Own w12 w.heap.size g (la + 1 + lc) (os ++ ⟨t, i, k, r⟩ :: ps)) := World.ownsRow.kept HOWN11.out hg12 (Or.inr (by simp [Value.ownBlock]; omega))
  have HW12 : Hid (Own w12 w.heap.size g2 (la + lc) (os ++ ps)) := hown12
  clear hb11' x0 x1 x2 x3 HB11 hg12 hz11 HOWN11 hown11 hown12
  obtain ⟨x0, x1, x2, x3, hz12, HB12⟩ := stage hb12'
  have hglt : g < w12.heap.size := (World.ownsRow.lt HOWN12.out g rfl).2
  have hg2lt : g2 < w12.heap.size := (World.ownsRow.lt HW12.out g2 rfl).2
  go_wp2_with fail
  refine (newTable_any n g _ _ w12).mono ?_
  rintro e w13 ⟨rfl, rfl⟩
  go_wp2_with fail
  obtain ⟨W, hW⟩ : ∃ W, W = (w12.alloc (oneMap n (.slice (some ⟨g, 0, none⟩) (la + 1 + lc) (la + 1 + lc)))).alloc (theTable w12.heap.size) := ⟨_, rfl⟩
  have hbW : Below w12.heap.size w12 W := by
    rw [hW]
    exact ((Below.refl _ _).alloc (Nat.le_refl _) _).alloc (by simp) _
  have hT : W.cell? ⟨w12.heap.size + 1, 1, none⟩ = some (.map (some w12.heap.size)) := by
    rw [hW]
    exact cell_of_row _ _ _ #[.map none, .map (some w12.heap.size), .map none, .int .u64 0] 45 (0, 0) (by
      have := heap_alloc_new (w12.alloc (oneMap n (.slice (some ⟨g, 0, none⟩) (la + 1 + lc) (la + 1 + lc)))) (theTable w12.heap.size)
      rwa [World.size_alloc] at this)
  have hR : W.heap[w12.heap.size]? = some (oneMap n (.slice (some ⟨g, 0, none⟩) (la + 1 + lc) (la + 1 + lc))) := by
    rw [hW]
    exact (Below.heap_alloc _ _ _ (by simp)).trans (heap_alloc_new w12 _)
  rw [← hW]
  clear hW
  have hownW : Own W w.heap.size g (la + 1 + lc) (os ++ ⟨t, i, k, r⟩ :: ps) := World.ownsRow.kept HOWN12.out (row := none) ⟨hbW.os, hbW.tape, hbW.output, hbW.size, fun j hj _ => hbW.block j hj⟩ (Or.inr (by simp [Value.ownBlock]))
  refine (zzForget_any w.heap.size os ps t i k r n g (la + 1 + lc) (la + 1 + lc) (w12.heap.size + 1) w12.heap.size W hT hR
    (by have := hla.out; have := hlc.out; show (os ++ _ :: ps).length = la + 1 + lc; simp; omega) hownW HNO (by omega) (by omega) (by omega) (by omega)).mono ?_
  rintro e w14 ⟨rfl, hob, hmap, htab, hbut⟩
  have hl : (os ++ ps).length = la + lc := by have := hla.out; have := hlc.out; simp; omega
  rw [hl] at hmap
  have HL : Hid ((os ++ ps).length = la + lc) := hl
  have HOB : Hid (ObsAt w14 (some ⟨g, 0, none⟩) (os ++ ps)) := hob
  have HMAP : Hid (w14.heap[w12.heap.size]? = some (oneMap n (.slice (some ⟨g, 0, none⟩) (la + lc) (la + 1 + lc)))) := hmap
  have HTAB : Hid (w14.cell? ⟨w12.heap.size + 1, 1, none⟩ = some (.map (some w12.heap.size))) := htab
  have HWA : Hid (ObsAt w14 (some ⟨g2, 0, none⟩) (os ++ ps)) := by
    have h2 : Own w14 w.heap.size g2 (la + lc) (os ++ ps) := by
      refine World.ownsRow.kept HW12.out (row := some g) ⟨hbut.os.trans hbW.os, hbut.tape.trans hbW.tape, hbut.output.trans hbW.output, Nat.le_trans hbW.size hbut.size, fun j hj hne => ?_⟩ (Or.inr (by simp [Value.ownBlock]; omega))
      rw [hbut.block j (Nat.lt_of_lt_of_le hj hbW.size) (fun e => hne (by rw [e])) (by omega), hbW.block j hj]
    exact h2.at
  have HEND : Hid (Below w.heap.size w w14) := by
    have h0 := HB12.out
    have hs := hbW.size
    refine h0.trans ⟨hbut.os.trans hbW.os, hbut.tape.trans hbW.tape, hbut.output.trans hbW.output, Nat.le_trans hbW.size hbut.size, fun j hj => ?_⟩
    rw [hbut.block j (by omega) (by omega) (by omega), hbW.block j (by omega)]
  clear hl hob hmap htab hbut hT hR hownW hbW HOWN12 HW12 x0 x1 x2 x3 hb12' HB12 hz12
  go_wp2_with fail
  refine (hasOwner_any n g (la + lc) (la + 1 + lc) (w12.heap.size + 1) w12.heap.size w14 HTAB.out HMAP.out).mono ?_
  rintro e w15 ⟨rfl, hw15⟩
  subst hw15
  go_wp2_with fail
  refine (objects_any n g (la + lc) (la + 1 + lc) (w12.heap.size + 1) w12.heap.size w15 HTAB.out HMAP.out).mono ?_
  rintro e w16 ⟨rfl, hw16⟩
  subst hw16
  go_wp2_with fail
  refine (sameObjs_any (some ⟨g, 0, none⟩) (some ⟨g2, 0, none⟩) (la + lc) _ _ (os ++ ps) w16 HOB.out HWA.out HL).mono ?_
  rintro e w17 ⟨rfl, nd, rfl⟩
  go_wp2
  go_ret
  exact ⟨rfl, below_drewN HEND.out nd⟩
end Go.Proofs.Qxb6625794a
