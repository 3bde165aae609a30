import Derived.Test.Qxb6625999aPlain
import Derived.Test.Qxb6625999aWalkA
namespace Go.Proofs.Qxb6625999a
open Go.RowKit

/-- PassedOver hands back a slice of its own that holds the payloads 'os', nil just where there are none. -/
def OverEnd (w : World) (os : List Pl) (e : Ending) (w' : World) : Prop :=
  ∃ a n c, e = .returned (.slice a n c) ∧ os.length = n ∧ PlsAt w' a os ∧ (a = none ↔ os = []) ∧ Below w.heap.size w w'

theorem cells_pair {w : World} {n : Nat} (hn : w.heap.size = n) (x y : Value) (e : TypeId) : ∀ j v, [x, y][j]? = some v → (w.alloc (.cells #[x, y] e)).cell? ((⟨n, 0, none⟩ : Addr).add j) = some v := by
  intro j v hj
  subst hn
  rw [Addr.add_lit, cell_of_row _ _ _ #[x, y] e (0, 0) (heap_alloc_new w _)]
  simpa using hj
theorem pair_one (t : Int) (d : Option Addr) (l c : Nat) : ∀ u ∈ [Value.int .u8 t, .slice d l c], u.oneCell' = true := by
  intro u hu
  simp at hu
  rcases hu with rfl | rfl <;> rfl
theorem cells_one {w : World} {n : Nat} (hn : w.heap.size = n) (x : Value) (e : TypeId) : ∀ j v, [x][j]? = some v → (w.alloc (.cells #[x] e)).cell? ((⟨n, 0, none⟩ : Addr).add j) = some v := by
  intro j v hj
  subst hn
  rw [Addr.add_lit, cell_of_row _ _ _ #[x] e (0, 0) (heap_alloc_new w _)]
  simpa using hj
theorem one_one (t : Int) : ∀ u ∈ [Value.int .u8 t], u.oneCell' = true := by
  intro u hu
  simp at hu
  subst hu
  rfl

/-- What stands at the head of PassedOver's round k. -/
structure Mid (w wr : World) (rd : List Int) (ps : List Pl) (k : Nat) (oa : Option Addr) (on oc : Nat) (sa : Option Addr) (sn sc : Nat) : Prop where
  over : wr.ownsRow w.heap.size 36 2 (.slice oa on oc) on (cellsP (overTo rd ps k))
  seen : wr.ownsRow w.heap.size 34 1 (.slice sa sn sc) sn ((seenTo rd ps k).map (Value.int .u8))
  below : Below w.heap.size w wr
  nil : oa = none ↔ overTo rd ps k = []

theorem Mid.keep {w wr w1 : World} {rd : List Int} {ps : List Pl} {k : Nat} {oa : Option Addr} {on oc : Nat} {sa : Option Addr} {sn sc : Nat} {o1 o2 : Obj} {v : Value} {p : Pl} (h : Mid w wr rd ps k oa on oc sa sn sc) (hp : ps[k]? = some p) (hd : dropAt rd ps k = false)
    (hown : w1.ownsRow w.heap.size 36 2 v (on + 1) (cellsP (overTo rd ps k) ++ [.int .u8 p.ty, .slice p.ad p.ln p.cp])) (hg : ((wr.alloc o1).alloc o2).grownBy w1 (Value.slice oa on oc).ownBlock) :
    ∃ oa' oc', v = .slice oa' (on + 1) oc' ∧ Mid w w1 rd ps (k + 1) oa' (on + 1) oc' sa sn sc := by
  have ho := over_keep hd hp
  have hown' : w1.ownsRow w.heap.size 36 2 v (on + 1) (cellsP (overTo rd ps (k + 1))) := by
    rw [ho, cellsP_append]
    exact hown
  have hsh : ∃ oa' oc', v = .slice oa' (on + 1) oc' ∧ oa' ≠ none := by
    rcases hown'.2 with ⟨_, h0⟩ | ⟨g, cap, cur, hv, _⟩
    · omega
    · exact ⟨_, _, hv, by simp⟩
  obtain ⟨oa', oc', rfl, hne⟩ := hsh
  refine ⟨oa', oc', rfl, hown', ?_, ?_, ?_⟩
  · rw [seen_keep hd]
    exact ((h.seen.alloc _).alloc _).kept hg (owns_apart h.over h.seen (by decide))
  · refine ((h.below.alloc h.below.size _).alloc (by have := h.below.size; simp; omega) _).grown hg (by have := h.below.size; simp; omega) (fun j hj => ?_)
    exact (h.over.lt j hj).1
  · rw [ho]
    simp [hne]

theorem Mid.drop {w wr w1 : World} {rd : List Int} {ps : List Pl} {k : Nat} {oa : Option Addr} {on oc : Nat} {sa : Option Addr} {sn sc : Nat} {o1 o2 : Obj} {v : Value} {p : Pl} (h : Mid w wr rd ps k oa on oc sa sn sc) (hp : ps[k]? = some p) (hd : dropAt rd ps k = true)
    (hown : w1.ownsRow w.heap.size 34 1 v (sn + 1) ((seenTo rd ps k).map (Value.int .u8) ++ [.int .u8 p.ty])) (hg : ((wr.alloc o1).alloc o2).grownBy w1 (Value.slice sa sn sc).ownBlock) :
    ∃ sa' sc', v = .slice sa' (sn + 1) sc' ∧ Mid w w1 rd ps (k + 1) oa on oc sa' (sn + 1) sc' := by
  have ho := seen_drop hd hp
  have hown' : w1.ownsRow w.heap.size 34 1 v (sn + 1) ((seenTo rd ps (k + 1)).map (Value.int .u8)) := by
    rw [ho, List.map_append]
    exact hown
  have hsh : ∃ oa' oc', v = .slice oa' (sn + 1) oc' := by
    rcases hown'.2 with ⟨_, h0⟩ | ⟨g, cap, cur, hv, _⟩
    · omega
    · exact ⟨_, _, hv⟩
  obtain ⟨sa', sc', rfl⟩ := hsh
  refine ⟨sa', sc', rfl, ?_, hown', ?_, ?_⟩
  · rw [over_drop hd]
    exact ((h.over.alloc _).alloc _).kept hg (owns_apart h.seen h.over (by decide))
  · refine ((h.below.alloc h.below.size _).alloc (by have := h.below.size; simp; omega) _).grown hg (by have := h.below.size; simp; omega) (fun j hj => ?_)
    exact (h.seen.lt j hj).1
  · rw [over_drop hd]
    exact h.nil

theorem Mid.lens {w wr : World} {rd : List Int} {ps : List Pl} {k : Nat} {oa : Option Addr} {on oc : Nat} {sa : Option Addr} {sn sc : Nat} (h : Mid w wr rd ps k oa on oc sa sn sc) : on ≤ k ∧ sn ≤ k := by
  have h1 := h.over.1
  have h2 := h.seen.1
  rw [cellsP_length] at h1
  rw [List.length_map] at h2
  have := over_len rd ps k
  have := seen_len rd ps k
  omega

theorem neq_nil (w : World) : (binOp .neq 39 .nilFunc .nilFunc).run Try.prog w = .ok (.bool false) w := by kernel_rfl

set_option maxHeartbeats 2000000 in
theorem passedOver_any (a r : Option Addr) (la ca lr cr : Nat) (rd : List Int) (ps : List Pl) (w : World) (hp : PlsAt w a ps) (hr : IntsAt w r rd) (hla : Hid (ps.length = la)) (hlr : Hid (rd.length = lr)) (hsm : la ≤ 16385) :
    Calls Try.prog 8 #[.slice a la ca, .nilFunc, .slice r lr cr] w fun e w' => OverEnd w (overTo rd ps la) e w' := by
  obtain ⟨i6, hi6, hz60, hz61, hz62⟩ := info_parts info36
  obtain ⟨i4, hi4, hz40, hz41, hz42⟩ := info_parts info34
  go_enter Try.func8, Try.ntmps8
  go_wp2
  go_loopw [7, 8, 13] (fun o s i wr => ∃ (k : Nat) (oa : Option Addr) (on oc : Nat) (sa : Option Addr) (sn sc : Nat), k ≤ la ∧ i = .int .i64 k ∧ o = .slice oa on oc ∧ s = .slice sa sn sc ∧ Mid w wr rd ps k oa on oc sa sn sc) (fun _ _ i _ => la - (intOf i).toNat)
  case atStart => exact ⟨0, none, 0, 0, none, 0, 0, Nat.zero_le _, rfl, rfl, rfl, ⟨World.ownsRow_nil _ _ _ _, World.ownsRow_nil _ _ _ _, Below.refl _ _, by simp [overTo]⟩⟩
  case round =>
    obtain ⟨k, oa, on, oc, sa, sn, sc, hk, rfl, rfl, rfl, hmid⟩ := hrel
    by_cases hlt : k < la
    · obtain ⟨b, off, t, d, l, cp, hps, rfl, hb, g0, g1⟩ := (hp.below hmid.below).pick (k := k) (by have := hla.out; omega)
      have HM : Hid (Mid w wr rd ps k oa on oc sa sn sc) := hmid
      clear hp hmid
      have hws : w.heap.size ≤ wr.heap.size := HM.out.below.size
      obtain ⟨hon, hsn⟩ := HM.out.lens
      have HR : Hid (IntsAt wr r rd) := hr.below HM.out.below
      clear hr
      have hne := neq_nil
      go_wp2_with fail
      refine (contains_any r lr cr rd t _ (HR.out.below ((Below.refl _ _).alloc (Nat.le_refl _) _)) hlr).mono ?_
      rintro e w' ⟨rfl, rfl⟩
      cases hc1 : rd.contains t
      · have HC1 : Hid (rd.contains t = false) := hc1
        clear hc1
        go_wp2_with (at_builtin; refine wpList_append_own _ rfl _ _ 27 rfl w.heap.size 36 i6 _ 2 32 Try.underlying27 hi6 hz60 hz61 hz62 rfl (by decide) _ _ _ rfl ((HM.out.over.alloc _).alloc _) ⟨wr.heap.size + 1, 0, none⟩ 1 1 [.int .u8 t, .slice d l cp] rfl rfl (cells_pair (by simp) _ _ _) (pair_one _ _ _ _) (by unfold maxLen; omega) (by omega) (by simp; omega) ?_; intro v1 w1 hown1 hg1 _)
        obtain ⟨oa', oc', hv1, hmid'⟩ := HM.out.keep hps.out (drop_no1 hps.out HC1.out) hown1 hg1
        rw [hv1]
        clear hown1 hg1 hv1 hne
        have HM' : Hid (Mid w w1 rd ps (k + 1) oa' (on + 1) oc' sa sn sc) := hmid'
        clear hmid'
        go_wp2
        go_roundw
        case rel => exact ⟨k + 1, oa', on + 1, oc', sa, sn, sc, by omega, by go_num, rfl, rfl, HM'.out⟩
        case measure => simp [intOf]; omega
      · have HC1 : Hid (rd.contains t = true) := hc1
        clear hc1
        obtain ⟨hsl, sa1, sc1, hse, hsi⟩ := owns_ints HM.out.seen
        simp only [Value.slice.injEq, true_and] at hse
        obtain ⟨rfl, rfl⟩ := hse
        have HSI : Hid (IntsAt wr sa (seenTo rd ps k)) := hsi
        have HSL : Hid ((seenTo rd ps k).length = sn) := hsl
        clear hsi hsl
        go_wp2_with fail
        refine (contains_any sa sn sc (seenTo rd ps k) t _ (HSI.out.below ((Below.refl _ _).alloc (Nat.le_refl _) _)) HSL).mono ?_
        rintro e w' ⟨rfl, rfl⟩
        cases hc2 : (seenTo rd ps k).contains t
        · have HC2 : Hid ((seenTo rd ps k).contains t = false) := hc2
          clear hc2
          go_wp2_with (at_builtin; refine wpList_append_own _ rfl _ _ 29 rfl w.heap.size 34 i4 _ 1 1 Try.underlying29 hi4 hz40 hz41 hz42 rfl (by decide) _ _ _ rfl ((HM.out.seen.alloc _).alloc _) ⟨wr.heap.size + 1, 0, none⟩ 1 1 [.int .u8 t] rfl rfl (cells_one (by simp) _ _) (one_one _) (by unfold maxLen; omega) (by omega) (by simp; omega) ?_; intro v1 w1 hown1 hg1 _)
          obtain ⟨sa', sc', hv1, hmid'⟩ := HM.out.drop hps.out (drop_yes hps.out HC1.out HC2.out) hown1 hg1
          rw [hv1]
          clear hown1 hg1 hv1 hne
          have HM' : Hid (Mid w w1 rd ps (k + 1) oa on oc sa' (sn + 1) sc') := hmid'
          clear hmid'
          go_wp2
          go_roundw
          case rel => exact ⟨k + 1, oa, on, oc, sa', sn + 1, sc', by omega, by go_num, rfl, rfl, HM'.out⟩
          case measure => simp [intOf]; omega
        · have HC2 : Hid ((seenTo rd ps k).contains t = true) := hc2
          clear hc2
          go_wp2_with (at_builtin; refine wpList_append_own _ rfl _ _ 27 rfl w.heap.size 36 i6 _ 2 32 Try.underlying27 hi6 hz60 hz61 hz62 rfl (by decide) _ _ _ rfl ((HM.out.over.alloc _).alloc _) ⟨wr.heap.size + 1, 0, none⟩ 1 1 [.int .u8 t, .slice d l cp] rfl rfl (cells_pair (by simp) _ _ _) (pair_one _ _ _ _) (by unfold maxLen; omega) (by omega) (by simp; omega) ?_; intro v1 w1 hown1 hg1 _)
          obtain ⟨oa', oc', hv1, hmid'⟩ := HM.out.keep hps.out (drop_no2 hps.out HC2.out) hown1 hg1
          rw [hv1]
          clear hown1 hg1 hv1 hne
          have HM' : Hid (Mid w w1 rd ps (k + 1) oa' (on + 1) oc' sa sn sc) := hmid'
          clear hmid'
          go_wp2
          go_roundw
          case rel => exact ⟨k + 1, oa', on + 1, oc', sa, sn, sc, by omega, by go_num, rfl, rfl, HM'.out⟩
          case measure => simp [intOf]; omega
    · clear hp hr
      go_wp2
      go_ret
      have hk' : k = la := by omega
      subst hk'
      obtain ⟨h1, a', c', h2, h3⟩ := owns_pls hmid.over
      simp only [Value.slice.injEq, true_and] at h2
      obtain ⟨rfl, rfl⟩ := h2
      exact ⟨_, _, _, rfl, h1, h3, hmid.nil, hmid.below⟩
end Go.Proofs.Qxb6625999a
