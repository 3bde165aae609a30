import Derived.Test.Qxb6625794aWalkC
namespace Go.Proofs.Qxb6625794a
open Go.RowKit

set_option maxHeartbeats 1000000 in
theorem sameObjs_any (a c : Option Addr) (len ca cc : Nat) (os : List Ob) (w : World) (ho : ObsAt w a os) (hp : ObsAt w c os) (hlen : Hid (os.length = len)) :
    Calls Try.prog 13 #[.slice a len ca, .slice c len cc] w fun e w' => e = .returned (.bool true) ∧ ∃ n, w' = w.drewN n := by
  have hm := ho.1
  rw [hlen.out] at hm
  unfold maxLen at hm
  go_enter Try.func13, Try.ntmps13
  go_wp2
  go_loopw [5] (fun i wr => ∃ (k : Nat), k ≤ len ∧ i = .int .i64 k ∧ (∃ n, wr = w.drewN n)) (fun i _ => len - (intOf i).toNat)
  case atStart => exact ⟨0, Nat.zero_le _, rfl, ⟨0, rfl⟩⟩
  case round =>
    obtain ⟨k, hk, rfl, ⟨n, rfl⟩⟩ := hrel
    by_cases hlt : k < len
    · obtain ⟨b, off, t, i, kk, r, hos, rfl, hb, g0, g1, g2, g3⟩ := ho.pick (k := k) (by have := hlen.out; omega)
      obtain ⟨b', off', t', i', kk', r', hos', rfl, hb', g0', g1', g2', g3'⟩ := hp.pick (k := k) (by have := hlen.out; omega)
      have e : (⟨t, i, kk, r⟩ : Ob) = ⟨t', i', kk', r'⟩ := Option.some.inj (hos.out.symm.trans hos'.out)
      simp only [Ob.mk.injEq] at e
      obtain ⟨rfl, rfl, rfl, rfl⟩ := e
      clear ho hp
      have heq := neq31
      have hself := obEq_self t i kk r
      go_wp2
      go_quiet (fail)
      clear heq
      go_wp2
      go_roundw
      case rel => exact ⟨k+1, by omega, by go_num, ⟨n + nq, by simp⟩⟩
      case measure => simp [intOf]; omega
    · go_wp2
      go_ret
      exact ⟨rfl, n, rfl⟩
end Go.Proofs.Qxb6625794a
