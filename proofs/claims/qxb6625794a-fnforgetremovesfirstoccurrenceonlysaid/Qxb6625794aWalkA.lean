import Derived.Test.Qxb6625794aBase
namespace Go.Proofs.Qxb6625794a
open Go.RowKit

set_option maxHeartbeats 400000 in
theorem objBytes_any (t i k r : ByteArray) (n : Int) (w : World) :
    Calls Try.prog 6 #[.agg #[.string t, .string i, .string k, .string r], .int .i64 n] w fun e w' => ∃ m : Int, e = .returned (.int .i64 m) ∧ Below w.heap.size w w' := by
  go_enter Try.func6, Try.ntmps6
  go_wp2
  all_goals go_ret
  all_goals exact ⟨_, rfl, (Below.refl _ _).alloc (Nat.le_refl _) _⟩

set_option maxHeartbeats 400000 in
theorem objsBytes_any (a : Option Addr) (len cap : Nat) (os : List Ob) (n : Int) (w : World) (ho : ObsAt w a os) (hlen : Hid (os.length = len)) :
    Calls Try.prog 7 #[.slice a len cap, .int .i64 n] w fun e w' => ∃ m : Int, e = .returned (.int .i64 m) ∧ Below w.heap.size w w' := by
  have hm := ho.1
  rw [hlen.out] at hm
  unfold maxLen at hm
  go_enter Try.func7, Try.ntmps7
  go_wp2
  go_loopw [1, 5] (fun s i wr => ∃ (m : Int) (k : Nat), k ≤ len ∧ i = .int .i64 k ∧ s = .int .i64 m ∧ Below w.heap.size w wr) (fun _ i _ => len - (intOf i).toNat)
  case atStart => exact ⟨_, 0, Nat.zero_le _, rfl, rfl, Below.refl _ _⟩
  case round =>
    obtain ⟨m, k, hk, rfl, rfl, hbel⟩ := hrel
    by_cases hlt : k < len
    · have ho' := ho.below hbel
      obtain ⟨b, off, t, i, kk, r, hos, rfl, hb, g0, g1, g2, g3⟩ := ho'.pick (k := k) (by have := hlen.out; omega)
      clear ho ho'
      go_wp2_with (go_at_call 6; refine (objBytes_any _ _ _ _ _ _).mono ?_; rintro e w' ⟨m', rfl, hb'⟩)
      · go_ret
        exact ⟨_, rfl, hbel.trans (hb'.mono hbel.size)⟩
      · go_roundw
        case rel => exact ⟨m', k+1, by omega, by go_num, rfl, hbel.trans (hb'.mono hbel.size)⟩
        case measure => simp [intOf]; omega
    · go_wp2
      go_ret
      exact ⟨_, rfl, hbel⟩

theorem none_found {os : List Ob} {x : Ob} {k : Nat} (hk : os.length ≤ k) (h : ∀ j, j < k → os[j]? ≠ some x) : ∀ o, o ∈ os → o ≠ x := by
  intro o ho e
  subst e
  obtain ⟨j, hj, hjo⟩ := List.mem_iff_getElem.1 ho
  exact h j (by omega) (by rw [List.getElem?_eq_getElem hj, hjo])

set_option maxHeartbeats 400000 in
theorem containsObj_any (a : Option Addr) (len cap : Nat) (os : List Ob) (xt xi xk xr : ByteArray) (w : World) (ho : ObsAt w a os) (hlen : Hid (os.length = len)) :
    Calls Try.prog 8 #[.slice a len cap, .agg #[.string xt, .string xi, .string xk, .string xr]] w fun e w' => ∃ b : Bool, e = .returned (.bool b) ∧ Below w.heap.size w w' ∧ (b = false → ∀ o, o ∈ os → o ≠ ⟨xt, xi, xk, xr⟩) := by
  have hm := ho.1
  rw [hlen.out] at hm
  unfold maxLen at hm
  go_enter Try.func8, Try.ntmps8
  go_wp2
  go_loopw [5] (fun i wr => ∃ (k : Nat), k ≤ len ∧ i = .int .i64 k ∧ (∃ n, wr = (w.alloc (.cells #[.string xt, .string xi, .string xk, .string xr] 24)).drewN n) ∧ Hid (∀ j, j < k → os[j]? ≠ some ⟨xt, xi, xk, xr⟩)) (fun i _ => len - (intOf i).toNat)
  case atStart => exact ⟨0, Nat.zero_le _, rfl, ⟨0, rfl⟩, fun j hj => by omega⟩
  case round =>
    obtain ⟨k, hk, rfl, ⟨n, rfl⟩, hno⟩ := hrel
    have hbel : Below w.heap.size w ((w.alloc (.cells #[.string xt, .string xi, .string xk, .string xr] 24)).drewN n) := below_drewN ((Below.refl _ _).alloc (Nat.le_refl _) _) n
    by_cases hlt : k < len
    · obtain ⟨b, off, t, i, kk, r, hos, rfl, hb, g0, g1, g2, g3⟩ := ho.pick (k := k) (by have := hlen.out; omega)
      clear ho
      have heq := eql24
      go_wp2
      go_quiet (fail)
      clear heq
      go_wp2
      · go_ret
        exact ⟨_, rfl, below_drewN hbel nq, by simp⟩
      · go_roundw
        case rel =>
          refine ⟨k+1, by omega, by go_num, ⟨n + nq, ?_⟩, ?_⟩
          · simp
          · intro j hj
            by_cases e : j = k
            · subst e
              rw [hos.out]
              simpa using obEq_false (by assumption)
            · exact hno.out j (by omega)
        case measure => simp [intOf]; omega
    · go_wp2
      go_ret
      exact ⟨_, rfl, hbel, fun _ => none_found (by have := hlen.out; omega) hno.out⟩
end Go.Proofs.Qxb6625794a
