import Derived.Test.Qxb6626079aDoorWalkG
import Derived.Test.Qxb6626079aDoorWalkF
namespace Go.Proofs.Qxb6626079aDoor
open Go.RowKit

set_option maxHeartbeats 4000000 in
theorem resInObject_any (a d c : Option Addr) (lp cp lk ck le ce : Nat) (ps ks es : List ByteArray) (te : TypeId) (pe : Value) (w : World) (hp : StrsAt w a ps) (hlp : Hid (ps.length = lp)) (hsh : Hid (Short ps))
    (hk : StrsAt w d ks) (hlk : Hid (ks.length = lk)) (he : StrsAt w c es) (hle : Hid (es.length = le)) (hnb : le ≤ 65536) (hkb : lk ≤ 4096) (hv : w.cell? ⟨1, 0, none⟩ = some (.iface te pe)) :
    Calls Tryd.prog 10 #[.slice a lp cp, .slice d lk ck, .slice c le ce] w fun e w' => RaEnd w (outOf le (distinct ks).length (ndRun ks es none ps)) e w' := by
  have HV : Hid (w.cell? ⟨1, 0, none⟩ = some (.iface te pe)) := hv
  have h1 : 1 < w.heap.size := World.block_lt_of_cell? w _ hv
  have HP : Hid (StrsAt w a ps) := hp
  have HE : Hid (StrsAt w c es) := he
  have HK : Hid (StrsAt w d ks) := hk
  clear hv hp he hk
  go_enter Tryd.func10, Tryd.ntmps10
  go_wp2_with fail
  refine (array_any c le ce es w HE.out hle hnb).mono ?_
  rintro e w1 ⟨rfl, harr, hb1⟩
  have HARR : Hid (ArrAt w1 w.heap.size es) := harr
  have HB1 : Hid (Below w.heap.size w w1) := hb1
  clear harr hb1
  have hmk := run_make39 (lk : Int) w1
  go_wp2
  have hmap0 := MapAt.new w1 (.iface 36 (.slice (some ⟨w.heap.size, 0, none⟩) le le))
  have hbel0 : Below w1.heap.size w1 (w1.alloc (.map #[] 0)) := (Below.refl _ _).alloc (Nat.le_refl _) _
  clear hmk
  go_loopw [20] (fun i wr => ∃ (k : Nat), k ≤ lk ∧ i = .int .i64 k ∧ Below w1.heap.size w1 wr ∧ MapAt wr w1.heap.size (distinct (ks.take k)) (.iface 36 (.slice (some ⟨w.heap.size, 0, none⟩) le le))) (fun i _ => lk - (intOf i).toNat)
  case atStart => exact ⟨0, Nat.zero_le _, rfl, hbel0, hmap0⟩
  case round =>
    obtain ⟨k, hk, rfl, hbr, hmap⟩ := hrel
    clear hbel0 hmap0
    by_cases hlt : k < lk
    · obtain ⟨b, off, t, htk, rfl, hb, g0⟩ := ((HK.out.below HB1.out).below hbr).pick (k := k) (by have := hlk.out; omega)
      obtain ⟨w2, hup, hm2, hb2⟩ := hmap.update t (Nat.le_refl _) hbr
      have HM2 : Hid (MapAt w2 w1.heap.size (distinct (ks.take (k + 1))) (.iface 36 (.slice (some ⟨w.heap.size, 0, none⟩) le le))) := by
        show MapAt _ _ _ _
        rw [distinct_next htk.out]
        exact hm2
      have HB2 : Hid (Below w1.heap.size w1 w2) := hb2
      clear hm2 hb2 hmap hbr
      go_wp2
      go_roundw
      case rel => exact ⟨k + 1, by omega, by go_num, HB2.out, HM2.out⟩
      case measure => simp [intOf]; omega
    · have hk' : ks.take k = ks := List.take_of_length_le (by have := hlk.out; omega)
      rw [hk'] at hmap
      have HM : Hid (MapAt wr w1.heap.size (distinct ks) (.iface 36 (.slice (some ⟨w.heap.size, 0, none⟩) le le))) := hmap
      have HB : Hid (Below w1.heap.size w1 wr) := hbr
      have HB0 : Hid (Below w.heap.size w wr) := HB1.out.trans (hbr.mono HB1.out.size)
      clear hmap hbr hk'
      have hlook : Looks wr w1.heap.size w.heap.size le ks := by
        intro W hW t
        have := (HM.out.below hW).look t
        rw [hasKey_distinct] at this
        exact this
      have HLOOK : Hid (Looks wr w1.heap.size w.heap.size le ks) := hlook
      clear hlook
      go_wp2_with fail
      refine (resolve_any a lp cp w1.heap.size w.heap.size le ps ks es none te pe wr (HP.out.below HB0.out) hlp hsh (HARR.out.below HB.out) hle (fun _ => HLOOK.out) ((HB0.out.cell (p := ⟨1, 0, none⟩) h1).trans HV.out)).mono ?_
      rintro e w2 ⟨v, ok, rfl, hb2, hres⟩
      have HB2 : Hid (Below w.heap.size w w2) := HB0.out.trans (hb2.mono HB0.out.size)
      have HM2 : Hid (MapAt w2 w1.heap.size (distinct ks) (.iface 36 (.slice (some ⟨w.heap.size, 0, none⟩) le le))) := HM.out.below hb2
      clear hb2
      match hrun : ndRun ks es none ps, hres with
      | none, hres =>
        obtain ⟨rfl, rfl⟩ := hres
        go_wp2_with fail
        refine (out_nil false w2).mono ?_
        rintro e w3 ⟨rfl, hw3⟩
        subst hw3
        go_wp2
        exact bodyPost_ret (v := .tuple #[.int .i64 0, .string ⟨#[]⟩, .int .i64 0, .bool false]) (by simp [results, Tryd.results10, go_sem]) rfl ⟨_, _, _, _, rfl, HB2.out, by rw [hrun]; rfl⟩
      | some none, hres =>
        obtain ⟨rfl, rfl⟩ := hres
        rw [show ndVal w1.heap.size w.heap.size le none = .iface 39 (.map (some w1.heap.size)) from rfl]
        obtain ⟨xs, clock, hbx, hsz⟩ := HM2.out.size
        have HSZ : Hid (xs.size = (distinct ks).length) := hsz
        have HBX := (show Hid _ from hbx)
        clear hsz hbx
        go_wp2_with fail
        refine (out_map w1.heap.size (distinct ks).length true w2 xs clock HBX.out HSZ).mono ?_
        rintro e w3 ⟨rfl, hw3⟩
        subst hw3
        go_wp2
        exact bodyPost_ret (v := .tuple #[.int .i64 3, .string ⟨#[]⟩, .int .i64 (distinct ks).length, .bool true]) (by simp [results, Tryd.results10, go_sem]) rfl ⟨_, _, _, _, rfl, HB2.out, by rw [hrun]; rfl⟩
      | some (some none), hres =>
        obtain ⟨rfl, rfl⟩ := hres
        rw [show ndVal w1.heap.size w.heap.size le (some none) = .iface 36 (.slice (some ⟨w.heap.size, 0, none⟩) le le) from rfl]
        go_wp2_with fail
        refine (out_arr _ le le true w2).mono ?_
        rintro e w3 ⟨rfl, hw3⟩
        subst hw3
        go_wp2
        exact bodyPost_ret (v := .tuple #[.int .i64 2, .string ⟨#[]⟩, .int .i64 le, .bool true]) (by simp [results, Tryd.results10, go_sem]) rfl ⟨_, _, _, _, rfl, HB2.out, by rw [hrun]; rfl⟩
      | some (some (some s)), hres =>
        obtain ⟨rfl, rfl⟩ := hres
        rw [show ndVal w1.heap.size w.heap.size le (some (some s)) = .iface 9 (.string s) from rfl]
        go_wp2_with fail
        refine (out_str s true w2).mono ?_
        rintro e w3 ⟨rfl, hw3⟩
        subst hw3
        go_wp2
        exact bodyPost_ret (v := .tuple #[.int .i64 1, .string s, .int .i64 0, .bool true]) (by simp [results, Tryd.results10, go_sem]) rfl ⟨_, _, _, _, rfl, HB2.out, by rw [hrun]; rfl⟩
end Go.Proofs.Qxb6626079aDoor
