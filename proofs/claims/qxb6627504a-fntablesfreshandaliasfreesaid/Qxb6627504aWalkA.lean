import Derived.Test.Qxb6627504aBase
namespace Go.Proofs.Qxb6627504a
open Go.RowKit

def SomeBool (w : World) (e : Ending) (w' : World) : Prop := ∃ b : Bool, e = .returned (.bool b) ∧ w' = w

set_option maxHeartbeats 2000000 in
theorem zzBytes11_any (p : Option Addr) (l c : Nat) (rs : List Rf) (w : World) (hp : RefsAt w p rs) (hl : Hid (rs.length = l)) :
    Calls Try.prog 11 #[.slice p l c] w fun e w' => SomeBool w e w' := by
  have hm := hp.1
  rw [hl.out] at hm
  unfold maxLen at hm
  by_cases h1 : 1048576 < l
  · clear hp
    go_enter Try.func11, Try.ntmps11
    go_wp2
    go_ret
    exact ⟨_, rfl, rfl⟩
  have h1' : l ≤ 1048576 := by omega
  clear h1
  go_enter Try.func11, Try.ntmps11
  go_wp2
  go_loop [3, 4] (fun s i => ∃ (m : Int) (k : Nat), k ≤ l ∧ i = .int .i64 k ∧ s = .int .i64 m ∧ 0 ≤ m ∧ m ≤ 1048576) (fun _ i => l - (intOf i).toNat)
  case atStart => exact ⟨_, 0, Nat.zero_le _, rfl, rfl, by omega, by omega⟩
  case round =>
    obtain ⟨m, k, hk, rfl, rfl, hm0, hm1⟩ := hrel
    by_cases hlt : k < l
    · obtain ⟨b, off, s, n, a, hrs, rfl, hb, g0, g1, g2⟩ := hp.pick (k := k) (by have := hl.out; omega)
      clear hp
      go_wp2
      case roundEnd =>
        go_round
        case rel => exact ⟨_, k+1, by omega, by go_num, rfl, by omega, by assumption⟩
        case measure => simp [intOf]; omega
      all_goals
        go_ret
        exact ⟨_, rfl, rfl⟩
    · clear hp
      go_wp2
      go_ret
      exact ⟨_, rfl, rfl⟩

set_option maxHeartbeats 2000000 in
theorem zzBytes5_any (p : Option Addr) (l c : Nat) (at' : Int) (xs xn xa : ByteArray) (rs : List Rf) (w : World) (hp : RefsAt w p rs) (hl : Hid (rs.length = l)) :
    Calls Try.prog 5 #[.slice p l c, .int .i64 at', .string xs, .string xn, .string xa] w fun e w' => SomeBool w e w' := by
  have hm := hp.1
  rw [hl.out] at hm
  unfold maxLen at hm
  by_cases h1 : 1048576 < l
  · clear hp
    go_enter Try.func5, Try.ntmps5
    go_wp2
    go_ret
    exact ⟨_, rfl, rfl⟩
  have h1' : l ≤ 1048576 := by omega
  clear h1
  go_enter Try.func5, Try.ntmps5
  go_wp2
  go_loop [11, 12] (fun s i => ∃ (m : Int) (k : Nat), k ≤ l ∧ i = .int .i64 k ∧ s = .int .i64 m ∧ 0 ≤ m ∧ m ≤ 1048576) (fun _ i => l - (intOf i).toNat)
  case atStart => exact ⟨_, 0, Nat.zero_le _, rfl, rfl, by omega, by omega⟩
  case round =>
    obtain ⟨m, k, hk, rfl, rfl, hm0, hm1⟩ := hrel
    by_cases hlt : k < l
    · obtain ⟨b, off, s, n, a, hrs, rfl, hb, g0, g1, g2⟩ := hp.pick (k := k) (by have := hl.out; omega)
      clear hp
      go_wp2
      case roundEnd =>
        go_round
        case rel => exact ⟨_, k+1, by omega, by go_num, rfl, by omega, by assumption⟩
        case measure => simp [intOf]; omega
      all_goals
        go_ret
        exact ⟨_, rfl, rfl⟩
    · clear hp
      go_wp2
      all_goals
        go_ret
        exact ⟨_, rfl, rfl⟩

def BigEnd (w : World) (l : Nat) (rs : List Rf) (e : Ending) (w' : World) : Prop := ∃ b : Bool, e = .returned (.bool b) ∧ Below w.heap.size w w' ∧ (b = false → l ≤ 65536 ∧ Short rs)

set_option maxHeartbeats 2000000 in
theorem tooBig_any (p : Option Addr) (l c : Nat) (x : Int) (rs : List Rf) (w : World) (hp : RefsAt w p rs) (hl : Hid (rs.length = l)) :
    Calls Try.prog 6 #[.slice p l c, .int .i64 x] w fun e w' => BigEnd w l rs e w' := by
  have hm := hp.1
  rw [hl.out] at hm
  unfold maxLen at hm
  by_cases h1 : 65536 < l
  · clear hp
    go_enter Try.func6, Try.ntmps6
    go_wp2
    go_ret
    exact ⟨_, rfl, Below.refl _ _, by simp⟩
  have h1' : l ≤ 65536 := by omega
  clear h1
  go_enter Try.func6, Try.ntmps6
  go_wp2
  go_loopw [5, 6] (fun s i wr => ∃ (m : Int) (k : Nat), k ≤ l ∧ i = .int .i64 k ∧ s = .int .i64 m ∧ Below w.heap.size w wr ∧ Hid (Short (rs.take k))) (fun _ i _ => l - (intOf i).toNat)
  case atStart => exact ⟨_, 0, Nat.zero_le _, rfl, rfl, Below.refl _ _, fun r hr => by simp at hr⟩
  case round =>
    obtain ⟨m, k, hk, rfl, rfl, hbel, hsh⟩ := hrel
    by_cases hlt : k < l
    · obtain ⟨b, off, s, n, a, hrs, rfl, hb, g0, g1, g2⟩ := (hp.below hbel).pick (k := k) (by have := hl.out; omega)
      have HB : Hid (Below w.heap.size w wr) := hbel
      clear hp hbel
      have hkl : (k : Int) < (l : Int) := by omega
      by_cases hs1 : 1048576 < s.size
      · go_wp2
        go_ret
        exact ⟨_, rfl, HB.out, by simp⟩
      by_cases hs2 : 1048576 < n.size
      · go_wp2
        go_ret
        exact ⟨_, rfl, HB.out, by simp⟩
      by_cases hs3 : 1048576 < a.size
      · go_wp2
        go_ret
        exact ⟨_, rfl, HB.out, by simp⟩
      have HS : Hid (Short (rs.take (k + 1))) := short_next hsh.out hrs.out (by show s.size ≤ _; omega) (by show n.size ≤ _; omega) (by show a.size ≤ _; omega)
      go_wp2
      go_quiet (fail)
      go_wp2
      case roundEnd =>
        go_roundw
        case rel => exact ⟨_, k+1, by omega, by go_num, rfl, below_drewN HB.out nq, HS⟩
        case measure => simp [intOf]; omega
      all_goals
        go_ret
        exact ⟨_, rfl, below_drewN HB.out nq, by simp⟩
    · have HS : Hid (Short rs) := short_all hsh.out (by have := hl.out; omega)
      clear hp hsh
      go_wp2
      go_ret
      exact ⟨_, rfl, hbel, fun _ => ⟨h1', HS.out⟩⟩
end Go.Proofs.Qxb6627504a
