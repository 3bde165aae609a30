import Derived.Test.Qxb6627504aWalkB
import Derived.Deep.RegionHeld3
namespace Go.Proofs.Qxb6627504a
open Go.RowKit

def BuildEnd (w : World) (rs : List Rf) (e : Ending) (w' : World) : Prop := e = .returned (.pointer (some ⟨w.heap.size, 0, none⟩)) ∧ JobAt w' w.heap.size rs ∧ Below w.heap.size w w'

theorem hide {p : Prop} (h : p) : Hid p := h

/-- A reference of the argument's, where the walk meets it; it lies below the bound B, so it stays. -/
theorem RefsAt.deep {w wr : World} {p : Option Addr} {rs : List Rf} (h : RefsAt w p rs) (hb : Below w.heap.size w wr) {k : Nat} (hk : k < rs.length) :
    ∃ b off s n a, Hid (rs[k]? = some ⟨s, n, a⟩) ∧ p = some ⟨b, off, none⟩ ∧ b < w.heap.size ∧
      wr.cell? ⟨b, off + k * 3, none⟩ = some (.string s) ∧ wr.cell? ⟨b, off + k * 3+1, none⟩ = some (.string n) ∧ wr.cell? ⟨b, off + k * 3+2, none⟩ = some (.string a) ∧
      Hid (∀ w1, Below w.heap.size wr.drew w1 → w1.cell? ⟨b, off + k * 3, none⟩ = some (.string s) ∧ w1.cell? ⟨b, off + k * 3+1, none⟩ = some (.string n) ∧ w1.cell? ⟨b, off + k * 3+2, none⟩ = some (.string a)) := by
  obtain ⟨b, off, s, n, a, h1, h2, h3, c0, c1, c2⟩ := h.pick hk
  have e0 := (hb.cell (p := ⟨b, off + k * 3, none⟩) h3).trans c0
  have e1 := (hb.cell (p := ⟨b, off + k * 3+1, none⟩) h3).trans c1
  have e2 := (hb.cell (p := ⟨b, off + k * 3+2, none⟩) h3).trans c2
  exact ⟨b, off, s, n, a, h1, h2, h3, e0, e1, e2, fun w1 h1 => ⟨(h1.cell (p := ⟨b, off + k * 3, none⟩) h3).trans e0, (h1.cell (p := ⟨b, off + k * 3+1, none⟩) h3).trans e1, (h1.cell (p := ⟨b, off + k * 3+2, none⟩) h3).trans e2⟩⟩

theorem JobAt.drewN {w : World} {J : Nat} {rs : List Rf} (h : JobAt w J rs) (n : Nat) : JobAt (w.drewN n) J rs := h.below (below_drewN (Below.refl _ _) n)
theorem JobAt.drew {w : World} {J : Nat} {rs : List Rf} (h : JobAt w J rs) : JobAt w.drew J rs := h.below ((Below.refl _ _).drew)

set_option maxHeartbeats 2000000 in
theorem build_any (p : Option Addr) (l c : Nat) (rs : List Rf) (w : World) (hp : RefsAt w p rs) (hl : Hid (rs.length = l)) (hsm : l ≤ 65536) :
    Calls Try.prog 7 #[.slice p l c] w fun e w' => BuildEnd w rs e w' := by
  go_enter Try.func7, Try.ntmps7
  go_wp2
  go_loopw [4] (fun i wr => ∃ (k : Nat), k ≤ l ∧ i = .int .i64 k ∧ JobAt wr w.heap.size (rs.take k) ∧ Below w.heap.size w wr) (fun i _ => l - (intOf i).toNat)
  case atStart => exact ⟨0, Nat.zero_le _, rfl, job_new w _ rfl, (Below.refl _ _).alloc (Nat.le_refl _) _⟩
  case round =>
    obtain ⟨k, hk, rfl, hj, hbel⟩ := hrel
    by_cases hlt : k < l
    · obtain ⟨b, off, s, n, a, hrs, rfl, hb, g0, g1, g2, KEEP⟩ := hp.deep hbel (k := k) (by have := hl.out; omega)
      have HB : Hid (Below w.heap.size w wr) := hbel
      have HC := hide (addRef_any w.heap.size (rs.take k) s n a wr.drew hj.drew (by rw [List.length_take]; omega))
      clear hp hbel hj
      have hkl : (k : Int) < (l : Int) := by omega
      have hk0 : (0 : Int) ≤ (k : Int) := by omega
      go_wp2
      go_region_held3 (fun w' => w'.cell? ⟨b, off + k * 3, none⟩ = some (.string s) ∧ w'.cell? ⟨b, off + k * 3+1, none⟩ = some (.string n) ∧ w'.cell? ⟨b, off + k * 3+2, none⟩ = some (.string a)) (first | go_keep | exact KEEP.out _ hb1)
        ((go_at_call 8; refine HC.out.mono ?_; rintro e w1 ⟨rfl, hj1, hb1⟩))
      all_goals go_wp2
      go_roundw
      case rel => exact ⟨k + 1, by omega, by go_num, by rw [take_next hrs.out]; exact hj1, HB.out.trans ((Below.refl _ _).drew.trans hb1)⟩
      case measure => simp [intOf]; omega
    · have hk' : rs.take k = rs := List.take_of_length_le (by have := hl.out; omega)
      rw [hk'] at hj
      clear hp
      go_wp2
      go_ret
      exact ⟨rfl, hj, hbel⟩
end Go.Proofs.Qxb6627504a
