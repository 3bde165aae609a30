import Derived.Test.Qxb6625794aBase
namespace Go.Proofs.Qxb6625794a
open Go.RowKit

/-- How the byte count ends: some bool; nothing old is turned; true says that both lengths are small. -/
def ZzEnd (w : World) (la lc : Nat) (e : Ending) (w' : World) : Prop := ∃ b : Bool, e = .returned (.bool b) ∧ Below w.heap.size w w' ∧ (b = true → la ≤ 1048576 ∧ lc ≤ 1048576)

set_option maxRecDepth 100000 in
set_option maxHeartbeats 2000000 in
theorem zzBytes_any (n : Int) (a c : Option Addr) (la ca lc cc : Nat) (os ps : List Ob) (xt xi xk xr : ByteArray) (w : World) (ho : ObsAt w a os) (hp : ObsAt w c ps) (hla : Hid (os.length = la)) (hlc : Hid (ps.length = lc)) :
    Calls Try.prog 5 #[.int .i64 n, .slice a la ca, .slice c lc cc, .agg #[.string xt, .string xi, .string xk, .string xr]] w fun e w' => ZzEnd w la lc e w' := by
  have hm := ho.1
  rw [hla.out] at hm
  have hm' := hp.1
  rw [hlc.out] at hm'
  unfold maxLen at hm hm'
  have hbel : Below w.heap.size w (w.alloc (.cells #[.string xt, .string xi, .string xk, .string xr] 24)) := (Below.refl _ _).alloc (Nat.le_refl _) _
  by_cases h1 : 1048576 < la
  · clear ho hp
    go_enter Try.func5, Try.ntmps5
    go_wp2
    go_ret
    exact ⟨_, rfl, hbel, by simp⟩
  have h1' : la ≤ 1048576 := by omega
  clear h1
  go_enter Try.func5, Try.ntmps5
  go_wp2
  go_loop [9, 10] (fun s i => ∃ (m : Int) (k : Nat), k ≤ la ∧ i = .int .i64 k ∧ s = .int .i64 m ∧ 0 ≤ m ∧ m ≤ 1048576) (fun _ i => la - (intOf i).toNat)
  case atStart => exact ⟨_, 0, Nat.zero_le _, rfl, rfl, by omega, by omega⟩
  case round =>
    obtain ⟨m, k, hk, rfl, rfl, hm0, hm1⟩ := hrel
    by_cases hlt : k < la
    · obtain ⟨b, off, t, i, kk, r, hos, rfl, hb, g0, g1, g2, g3⟩ := ho.pick (k := k) (by have := hla.out; omega)
      clear ho hp
      go_wp2
      case roundEnd =>
        go_round
        case rel => exact ⟨_, k+1, by omega, by go_num, rfl, by omega, by assumption⟩
        case measure => simp [intOf]; omega
      all_goals
        go_ret
        exact ⟨_, rfl, hbel, by simp⟩
    · clear ho
      by_cases h2 : 1048576 < lc
      · clear hp
        go_wp2
        go_ret
        exact ⟨_, rfl, hbel, by simp⟩
      have h2' : lc ≤ 1048576 := by omega
      clear h2
      by_cases h3 : 1048576 < m + (lc : Int)
      · clear hp
        go_wp2
        go_ret
        exact ⟨_, rfl, hbel, by simp⟩
      have h3' : m + (lc : Int) ≤ 1048576 := by omega
      clear h3
      go_wp2
      go_loop [9, 11] (fun s i => ∃ (m : Int) (k : Nat), k ≤ lc ∧ i = .int .i64 k ∧ s = .int .i64 m ∧ 0 ≤ m ∧ m ≤ 1048576) (fun _ i => lc - (intOf i).toNat)
      case atStart => exact ⟨_, 0, Nat.zero_le _, rfl, rfl, by omega, by omega⟩
      case round =>
        obtain ⟨m2, k2, hk2, rfl, rfl, hm20, hm21⟩ := hrel
        by_cases hlt2 : k2 < lc
        · obtain ⟨b, off, t, i, kk, r, hos, rfl, hb, g0, g1, g2, g3⟩ := hp.pick (k := k2) (by have := hlc.out; omega)
          clear hp
          go_wp2
          case roundEnd =>
            go_round
            case rel => exact ⟨_, k2+1, by omega, by go_num, rfl, by omega, by assumption⟩
            case measure => simp [intOf]; omega
          all_goals
            go_ret
            exact ⟨_, rfl, hbel, by simp⟩
        · clear hp
          go_wp2
          all_goals
            go_ret
            exact ⟨_, rfl, hbel, by intro _; exact ⟨h1', h2'⟩⟩
end Go.Proofs.Qxb6625794a
