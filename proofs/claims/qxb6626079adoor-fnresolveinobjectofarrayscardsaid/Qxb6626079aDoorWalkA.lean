import Derived.Test.Qxb6626079aDoorBase
namespace Go.Proofs.Qxb6626079aDoor
open Go.RowKit

def ZzEnd (w : World) (ps qs : List ByteArray) (e : Ending) (w' : World) : Prop := ∃ b : Bool, e = .returned (.bool b) ∧ w' = w ∧ (b = true → Short ps ∧ Short qs)

set_option maxHeartbeats 1000000 in
theorem zzBytes5_any (a c : Option Addr) (la ca lc cc : Nat) (ps qs : List ByteArray) (w : World) (hp : StrsAt w a ps) (hq : StrsAt w c qs) (hla : Hid (ps.length = la)) (hlc : Hid (qs.length = lc)) :
    Calls Tryd.prog 5 #[.slice a la ca, .slice c lc cc] w fun e w' => ZzEnd w ps qs e w' := by
  have hm := hp.1
  rw [hla.out] at hm
  have hm' := hq.1
  rw [hlc.out] at hm'
  unfold maxLen at hm hm'
  by_cases h1 : 1048576 < la
  · clear hp hq
    go_enter Tryd.func5, Tryd.ntmps5
    go_wp2
    go_ret
    exact ⟨_, rfl, rfl, by simp⟩
  have h1' : la ≤ 1048576 := by omega
  clear h1
  go_enter Tryd.func5, Tryd.ntmps5
  go_wp2
  go_loop [5, 6] (fun s i => ∃ (m : Int) (k : Nat), k ≤ la ∧ i = .int .i64 k ∧ s = .int .i64 m ∧ 0 ≤ m ∧ m ≤ 1048576 ∧ Hid (Short (ps.take k))) (fun _ i => la - (intOf i).toNat)
  case atStart => exact ⟨_, 0, Nat.zero_le _, rfl, rfl, by omega, by omega, fun x hx => by simp at hx⟩
  case round =>
    obtain ⟨m, k, hk, rfl, rfl, hm0, hm1, hsh⟩ := hrel
    by_cases hlt : k < la
    · obtain ⟨b, off, s, hps, rfl, hb, g0⟩ := hp.pick (k := k) (by have := hla.out; omega)
      clear hp hq
      go_wp2
      case roundEnd =>
        go_round
        case rel => exact ⟨_, k+1, by omega, by go_num, rfl, by omega, by assumption, short_next hsh.out hps.out (by omega)⟩
        case measure => simp [intOf]; omega
      all_goals
        go_ret
        exact ⟨_, rfl, rfl, by simp⟩
    · have HS : Hid (Short ps) := short_all hsh.out (by have := hla.out; omega)
      clear hp hsh
      by_cases h2 : 1048576 < lc
      · clear hq
        go_wp2
        go_ret
        exact ⟨_, rfl, rfl, by simp⟩
      have h2' : lc ≤ 1048576 := by omega
      clear h2
      by_cases h3 : 1048576 < m + (lc : Int)
      · clear hq
        go_wp2
        go_ret
        exact ⟨_, rfl, rfl, by simp⟩
      have h3' : m + (lc : Int) ≤ 1048576 := by omega
      clear h3
      go_wp2
      go_loop [5, 7] (fun s i => ∃ (m : Int) (k : Nat), k ≤ lc ∧ i = .int .i64 k ∧ s = .int .i64 m ∧ 0 ≤ m ∧ m ≤ 1048576 ∧ Hid (Short (qs.take k))) (fun _ i => lc - (intOf i).toNat)
      case atStart => exact ⟨_, 0, Nat.zero_le _, rfl, rfl, by omega, by omega, fun x hx => by simp at hx⟩
      case round =>
        obtain ⟨m2, k2, hk2, rfl, rfl, hm20, hm21, hsh⟩ := hrel
        by_cases hlt2 : k2 < lc
        · obtain ⟨b, off, s, hps, rfl, hb, g0⟩ := hq.pick (k := k2) (by have := hlc.out; omega)
          clear hq
          go_wp2
          case roundEnd =>
            go_round
            case rel => exact ⟨_, k2+1, by omega, by go_num, rfl, by omega, by assumption, short_next hsh.out hps.out (by omega)⟩
            case measure => simp [intOf]; omega
          all_goals
            go_ret
            exact ⟨_, rfl, rfl, by simp⟩
        · have HS2 : Hid (Short qs) := short_all hsh.out (by have := hlc.out; omega)
          clear hq hsh
          go_wp2
          go_ret
          exact ⟨_, rfl, rfl, fun _ => ⟨HS.out, HS2.out⟩⟩

def SomeInt (w : World) (e : Ending) (w' : World) : Prop := ∃ m : Int, e = .returned (.int .i64 m) ∧ w' = w

set_option maxHeartbeats 1000000 in
theorem jpBytes_any (n : Int) (a : Option Addr) (la ca : Nat) (ss : List ByteArray) (w : World) (hp : StrsAt w a ss) (hla : Hid (ss.length = la)) :
    Calls Tryd.prog 6 #[.int .i64 n, .slice a la ca] w fun e w' => SomeInt w e w' := by
  have hm := hp.1
  rw [hla.out] at hm
  unfold maxLen at hm
  go_enter Tryd.func6, Tryd.ntmps6
  go_wp2
  go_loop [0, 5] (fun s i => ∃ (m : Int) (k : Nat), k ≤ la ∧ i = .int .i64 k ∧ s = .int .i64 m) (fun _ i => la - (intOf i).toNat)
  case atStart => exact ⟨_, 0, Nat.zero_le _, rfl, rfl⟩
  case round =>
    obtain ⟨m, k, hk, rfl, rfl⟩ := hrel
    by_cases hlt : k < la
    · obtain ⟨b, off, s, hps, rfl, hb, g0⟩ := hp.pick (k := k) (by have := hla.out; omega)
      clear hp
      go_wp2
      case roundEnd =>
        go_round
        case rel => exact ⟨_, k+1, by omega, by go_num, rfl⟩
        case measure => simp [intOf]; omega
      all_goals
        go_ret
        exact ⟨_, rfl, rfl⟩
    · clear hp
      go_wp2
      go_ret
      exact ⟨_, rfl, rfl⟩
end Go.Proofs.Qxb6626079aDoor
