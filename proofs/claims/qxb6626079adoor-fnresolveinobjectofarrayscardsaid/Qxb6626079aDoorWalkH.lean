import Derived.Test.Qxb6626079aDoorWalkG
import Derived.Test.Qxb6626079aDoorWalkF
namespace Go.Proofs.Qxb6626079aDoor
open Go.RowKit

def Zz3End (w : World) (ps : List ByteArray) (e : Ending) (w' : World) : Prop := ∃ b : Bool, e = .returned (.bool b) ∧ w' = w ∧ (b = true → Short ps)

set_option maxHeartbeats 2000000 in
theorem zzBytes9_any (a c d : Option Addr) (la ca lc cc ld cd : Nat) (ps qs rs : List ByteArray) (w : World) (hp : StrsAt w a ps) (hq : StrsAt w c qs) (hr : StrsAt w d rs) (hla : Hid (ps.length = la)) (hlc : Hid (qs.length = lc)) (hld : Hid (rs.length = ld)) :
    Calls Tryd.prog 9 #[.slice a la ca, .slice c lc cc, .slice d ld cd] w fun e w' => Zz3End w ps e w' := by
  have hm := hp.1
  rw [hla.out] at hm
  have hm' := hq.1
  rw [hlc.out] at hm'
  have hm'' := hr.1
  rw [hld.out] at hm''
  unfold maxLen at hm hm' hm''
  by_cases h1 : 1048576 < la
  · clear hp hq hr
    go_enter Tryd.func9, Tryd.ntmps9
    go_wp2
    go_ret
    exact ⟨_, rfl, rfl, by simp⟩
  have h1' : la ≤ 1048576 := by omega
  clear h1
  go_enter Tryd.func9, Tryd.ntmps9
  go_wp2
  go_loop [7, 8] (fun s i => ∃ (m : Int) (k : Nat), k ≤ la ∧ i = .int .i64 k ∧ s = .int .i64 m ∧ 0 ≤ m ∧ m ≤ 1048576 ∧ Hid (Short (ps.take k))) (fun _ i => la - (intOf i).toNat)
  case atStart => exact ⟨_, 0, Nat.zero_le _, rfl, rfl, by omega, by omega, fun x hx => by simp at hx⟩
  case round =>
    obtain ⟨m, k, hk, rfl, rfl, hm0, hm1, hsh⟩ := hrel
    by_cases hlt : k < la
    · obtain ⟨b, off, s, hps, rfl, hb, g0⟩ := hp.pick (k := k) (by have := hla.out; omega)
      clear hp hq hr
      go_wp2
      case roundEnd =>
        go_round
        case rel => exact ⟨_, k+1, by omega, by go_num, rfl, by omega, by assumption, short_next hsh.out hps.out (by omega)⟩
        case measure => simp [intOf]; omega
      all_goals
        go_ret
        exact ⟨_, rfl, rfl, by simp⟩
    · have HS : Hid (Short ps) := short_all hsh.out (by have := hla.out; omega)
      clear hp hsh
      by_cases h2 : 1048576 < lc
      · clear hq hr
        go_wp2
        go_ret
        exact ⟨_, rfl, rfl, by simp⟩
      have h2' : lc ≤ 1048576 := by omega
      clear h2
      by_cases h3 : 1048576 < m + (lc : Int)
      · clear hq hr
        go_wp2
        go_ret
        exact ⟨_, rfl, rfl, by simp⟩
      have h3' : m + (lc : Int) ≤ 1048576 := by omega
      clear h3
      go_wp2
      go_loop [7, 9] (fun s i => ∃ (m : Int) (k : Nat), k ≤ lc ∧ i = .int .i64 k ∧ s = .int .i64 m ∧ 0 ≤ m ∧ m ≤ 1048576) (fun _ i => lc - (intOf i).toNat)
      case atStart => exact ⟨_, 0, Nat.zero_le _, rfl, rfl, by omega, by omega⟩
      case round =>
        obtain ⟨m2, k2, hk2, rfl, rfl, hm20, hm21⟩ := hrel
        by_cases hlt2 : k2 < lc
        · obtain ⟨b, off, s, hps, rfl, hb, g0⟩ := hq.pick (k := k2) (by have := hlc.out; omega)
          clear hq hr
          go_wp2
          case roundEnd =>
            go_round
            case rel => exact ⟨_, k2+1, by omega, by go_num, rfl, by omega, by assumption⟩
            case measure => simp [intOf]; omega
          all_goals
            go_ret
            exact ⟨_, rfl, rfl, by simp⟩
        · clear hq
          by_cases h4 : 1048576 < ld
          · clear hr
            go_wp2
            go_ret
            exact ⟨_, rfl, rfl, by simp⟩
          have h4' : ld ≤ 1048576 := by omega
          clear h4
          by_cases h5 : 1048576 < m2 + (ld : Int)
          · clear hr
            go_wp2
            go_ret
            exact ⟨_, rfl, rfl, by simp⟩
          have h5' : m2 + (ld : Int) ≤ 1048576 := by omega
          clear h5
          go_wp2
          go_loop [7, 10] (fun s i => ∃ (m : Int) (k : Nat), k ≤ ld ∧ i = .int .i64 k ∧ s = .int .i64 m ∧ 0 ≤ m ∧ m ≤ 1048576) (fun _ i => ld - (intOf i).toNat)
          case atStart => exact ⟨_, 0, Nat.zero_le _, rfl, rfl, by omega, by omega⟩
          case round =>
            obtain ⟨m3, k3, hk3, rfl, rfl, hm30, hm31⟩ := hrel
            by_cases hlt3 : k3 < ld
            · obtain ⟨b, off, s, hps, rfl, hb, g0⟩ := hr.pick (k := k3) (by have := hld.out; omega)
              clear hr
              go_wp2
              case roundEnd =>
                go_round
                case rel => exact ⟨_, k3+1, by omega, by go_num, rfl, by omega, by assumption⟩
                case measure => simp [intOf]; omega
              all_goals
                go_ret
                exact ⟨_, rfl, rfl, by simp⟩
            · clear hr
              go_wp2
              go_ret
              exact ⟨_, rfl, rfl, fun _ => HS.out⟩
end Go.Proofs.Qxb6626079aDoor
