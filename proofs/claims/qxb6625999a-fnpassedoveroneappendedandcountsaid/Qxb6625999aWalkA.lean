import Derived.Test.Qxb6625999aBase
namespace Go.Proofs.Qxb6625999a
open Go.RowKit

def SomeBool (w : World) (e : Ending) (w' : World) : Prop := ∃ b : Bool, e = .returned (.bool b) ∧ w' = w

set_option maxHeartbeats 1000000 in
theorem zzBytes5_any (a c : Option Addr) (la ca lc cc : Nat) (ps : List Pl) (w : World) (hp : PlsAt w a ps) (hla : Hid (ps.length = la)) (hlc : lc ≤ maxLen) :
    Calls Try.prog 5 #[.slice a la ca, .slice c lc cc] w fun e w' => SomeBool w e w' := by
  have hm := hp.1
  rw [hla.out] at hm
  unfold maxLen at hm hlc
  by_cases h1 : 1048576 < la
  · clear hp
    go_enter Try.func5, Try.ntmps5
    go_wp2
    go_ret
    exact ⟨_, rfl, rfl⟩
  have h1' : la ≤ 1048576 := by omega
  clear h1
  go_enter Try.func5, Try.ntmps5
  go_wp2
  go_loop [5, 6] (fun s i => ∃ (m : Int) (k : Nat), k ≤ la ∧ i = .int .i64 k ∧ s = .int .i64 m ∧ 0 ≤ m ∧ m ≤ 1048576) (fun _ i => la - (intOf i).toNat)
  case atStart => exact ⟨_, 0, Nat.zero_le _, rfl, rfl, by omega, by omega⟩
  case round =>
    obtain ⟨m, k, hk, rfl, rfl, hm0, hm1⟩ := hrel
    by_cases hlt : k < la
    · obtain ⟨b, off, t, d, l, cp, hps, rfl, hb, g0, g1⟩ := hp.pick (k := k) (by have := hla.out; omega)
      clear hp
      go_wp2
      case roundEnd =>
        go_round
        case rel => exact ⟨_, k+1, by omega, by go_num, rfl, by omega, by assumption⟩
        case measure => simp [intOf]; omega
      all_goals
        go_ret
        exact ⟨_, rfl, rfl⟩
    · clear hp
      go_wp2
      all_goals
        go_ret
        exact ⟨_, rfl, rfl⟩

set_option maxHeartbeats 1000000 in
theorem zzBytes10_any (t0 : Int) (a c d : Option Addr) (la ca lc cc ld cd : Nat) (ps : List Pl) (w : World) (hp : PlsAt w a ps) (hla : Hid (ps.length = la)) (hlc : lc ≤ maxLen) (hld : ld ≤ maxLen) :
    Calls Try.prog 10 #[.slice a la ca, .int .u8 t0, .slice c lc cc, .slice d ld cd] w fun e w' => SomeBool w e w' := by
  have hm := hp.1
  rw [hla.out] at hm
  unfold maxLen at hm hlc hld
  by_cases h1 : 1048576 < la
  · clear hp
    go_enter Try.func10, Try.ntmps10
    go_wp2
    go_ret
    exact ⟨_, rfl, rfl⟩
  have h1' : la ≤ 1048576 := by omega
  clear h1
  go_enter Try.func10, Try.ntmps10
  go_wp2
  go_loop [9, 10] (fun s i => ∃ (m : Int) (k : Nat), k ≤ la ∧ i = .int .i64 k ∧ s = .int .i64 m ∧ 0 ≤ m ∧ m ≤ 1048576) (fun _ i => la - (intOf i).toNat)
  case atStart => exact ⟨_, 0, Nat.zero_le _, rfl, rfl, by omega, by omega⟩
  case round =>
    obtain ⟨m, k, hk, rfl, rfl, hm0, hm1⟩ := hrel
    by_cases hlt : k < la
    · obtain ⟨b, off, t, d, l, cp, hps, rfl, hb, g0, g1⟩ := hp.pick (k := k) (by have := hla.out; omega)
      clear hp
      go_wp2
      case roundEnd =>
        go_round
        case rel => exact ⟨_, k+1, by omega, by go_num, rfl, by omega, by assumption⟩
        case measure => simp [intOf]; omega
      all_goals
        go_ret
        exact ⟨_, rfl, rfl⟩
    · clear hp
      go_wp2
      all_goals
        go_ret
        exact ⟨_, rfl, rfl⟩

/-! slices.Index, slices.Contains -/
def IdxEnd (w : World) (zs : List Int) (x : Int) (e : Ending) (w' : World) : Prop := ∃ n : Int, e = .returned (.int .i64 n) ∧ w' = w ∧ (decide (0 ≤ n) = zs.contains x)

theorem not_in {zs : List Int} {x : Int} {k : Nat} (hk : zs.length ≤ k) (h : ∀ j, j < k → zs[j]? ≠ some x) : zs.contains x = false := by
  rw [← Bool.not_eq_true]
  intro hc
  have hm := List.contains_iff_mem.1 hc
  obtain ⟨j, hj, he⟩ := List.mem_iff_getElem.1 hm
  exact h j (by omega) (by rw [List.getElem?_eq_getElem hj, he])

set_option maxHeartbeats 1000000 in
theorem index_any (a : Option Addr) (la ca : Nat) (zs : List Int) (x : Int) (w : World) (hz : IntsAt w a zs) (hla : Hid (zs.length = la)) :
    Calls Try.prog 12 #[.slice a la ca, .int .u8 x] w fun e w' => IdxEnd w zs x e w' := by
  have hm := hz.1
  rw [hla.out] at hm
  unfold maxLen at hm
  go_enter Try.func12, Try.ntmps12
  go_wp2
  go_loop [8] (fun i => ∃ (k : Nat), k ≤ la ∧ i = .int .i64 k ∧ Hid (∀ j, j < k → zs[j]? ≠ some x)) (fun i => la - (intOf i).toNat)
  case atStart => exact ⟨0, Nat.zero_le _, rfl, fun j hj => by omega⟩
  case round =>
    obtain ⟨k, hk, rfl, hno⟩ := hrel
    by_cases hlt : k < la
    · obtain ⟨b, off, z, hzk, rfl, hb, g0⟩ := hz.pick (k := k) (by have := hla.out; omega)
      clear hz
      by_cases hx : (x == z) = true
      · go_wp2
        go_ret
        refine ⟨_, rfl, rfl, ?_⟩
        have : x = z := by simpa using hx
        subst this
        rw [List.contains_iff_mem.2 (List.mem_of_getElem? hzk.out)]
        simp
      · have hx' : (x == z) = false := by simpa using hx
        clear hx
        go_wp2
        go_round
        case rel =>
          refine ⟨k+1, by omega, by go_num, fun j hj => ?_⟩
          by_cases e : j = k
          · subst e
            rw [hzk.out]
            simp at hx' ⊢
            omega
          · exact hno.out j (by omega)
        case measure => simp [intOf]; omega
    · clear hz
      go_wp2
      go_ret
      exact ⟨_, rfl, rfl, by rw [not_in (by have := hla.out; omega) hno.out]; rfl⟩

def HasEnd (w : World) (b : Bool) (e : Ending) (w' : World) : Prop := e = .returned (.bool b) ∧ w' = w

set_option maxHeartbeats 1000000 in
theorem contains_any (a : Option Addr) (la ca : Nat) (zs : List Int) (x : Int) (w : World) (hz : IntsAt w a zs) (hla : Hid (zs.length = la)) :
    Calls Try.prog 11 #[.slice a la ca, .int .u8 x] w fun e w' => HasEnd w (zs.contains x) e w' := by
  have HZ : Hid (IntsAt w a zs) := hz
  clear hz
  go_enter Try.func11, Try.ntmps11
  go_wp2_with fail
  refine (index_any a la ca zs x w HZ.out hla).mono ?_
  rintro e w' ⟨n, rfl, rfl, hn⟩
  have HN : Hid (decide (0 ≤ n) = zs.contains x) := hn
  clear hn
  go_wp2
  go_ret
  exact ⟨by rw [← HN.out]; rfl, rfl⟩

/-! zzSameBody of one body with itself -/
set_option maxHeartbeats 1000000 in
theorem sameBody_any (a : Option Addr) (l c : Nat) (w : World) (hb : BodyAt w a l) :
    Calls Try.prog 9 #[.slice a l c, .slice a l c] w fun e w' => e = .returned (.bool true) ∧ ∃ n, w' = w.drewN n := by
  have hm := hb.1
  unfold maxLen at hm
  have hnil := fun (w : World) (a : Option Addr) (l c : Nat) => Lib.run_eql_slice_nil (P := Try.prog) w 23 5 a l c 0 0 Try.underlying23
  go_enter Try.func9, Try.ntmps9
  go_wp2
  go_loopw [5] (fun i wr => ∃ (k : Nat), k ≤ l ∧ i = .int .i64 k ∧ (∃ n, wr = w.drewN n)) (fun i _ => l - (intOf i).toNat)
  case atStart => exact ⟨0, Nat.zero_le _, rfl, ⟨0, rfl⟩⟩
  case round =>
    obtain ⟨k, hk, rfl, ⟨n, rfl⟩⟩ := hrel
    by_cases hlt : k < l
    · obtain ⟨b, off, rfl, hbl, hc⟩ := hb.2 (by omega)
      obtain ⟨z, hz⟩ := hc k hlt
      clear hb hc hnil
      go_wp2
      go_quiet (fail)
      go_wp2
      go_roundw
      case rel => exact ⟨k+1, by omega, by go_num, ⟨n + nq, by simp⟩⟩
      case measure => simp [intOf]; omega
    · clear hnil
      go_wp2
      go_ret
      exact ⟨rfl, n, rfl⟩
end Go.Proofs.Qxb6625999a
