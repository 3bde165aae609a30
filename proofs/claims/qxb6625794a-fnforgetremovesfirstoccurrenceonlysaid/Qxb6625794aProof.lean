import Derived.Test.Qxb6625794aRows
import Derived.Test.Qxb6625794aMain
import Derived.ProofKit
import Derived.OpenShut
import Derived.ShutString
import Derived.ChangeOld
import Derived.Lib.SmallJoins
import Derived.Deep.Slices
namespace Go.Proofs.Qxb6625794a
open Go.ChangeShapes Go.WideShapes Go.ChangeAt Go.RowKit
open Go.Joins Go.Deep
set_option linter.unusedVariables false

theorem own : ownKnob Try.prog.godebug = none := by kernel_rfl
theorem laidOut : laidOutB Try.prog = true := by kernel_rfl
theorem cells24 : Try.prog.cellsOf 24 = 4 := by kernel_rfl
theorem cells9 : Try.prog.cellsOf 9 = 1 := by kernel_rfl

theorem gather {α : Type} {P : Nat → α → Prop} : ∀ n, (∀ i, i < n → ∃ o, P i o) → ∃ os : List α, os.length = n ∧ ∀ i o, os[i]? = some o → P i o
  | 0, _ => ⟨[], rfl, by simp⟩
  | n + 1, h => by
    obtain ⟨os, hl, ho⟩ := gather n (fun i hi => h i (by omega))
    obtain ⟨o, hn⟩ := h n (by omega)
    refine ⟨os ++ [o], by simp [hl], fun i u hu => ?_⟩
    by_cases hi : i < os.length
    · rw [List.getElem?_append_left hi] at hu
      exact ho i u hu
    · rw [List.getElem?_append_right (by omega)] at hu
      have h0 : i - os.length = 0 := by
        have := (List.getElem?_eq_some_iff.1 hu).1
        simp at this
        omega
      rw [h0] at hu
      simp at hu
      subst hu
      have : i = n := by omega
      subst this
      exact hn

theorem add_eq (b off : Nat) (j : Nat) : (⟨b, off, none⟩ : Addr).add j = ⟨b, off + j, none⟩ := Addr.add_lit _ _ _

theorem open_obs {H : Type} {enc : TypeId × Value → H} {W : World} {spare : Nat → Bool} {held : Bool} {fuel : Nat} {x : DataW H × List MemPlace} {a : Option Addr} {len cap : Nat} (hf : DataW.trod enc Try.prog W 0 spare held fuel 22 [.slice a len cap] = some x) :
    ∃ os : List Ob, ObsAt W a os ∧ Hid (os.length = len) := by
  rcases open_slice Try.underlying22 hf with ⟨hcs, _⟩ | ⟨a', len', cap', m, n, D, Pl, hcs, _, hl, hm, hmm, _, hel⟩
  · simp at hcs
    obtain ⟨rfl, rfl, rfl⟩ := hcs
    exact ⟨[], ⟨by simp [maxLen], fun h => by simp at h⟩, rfl⟩
  · simp at hcs
    obtain ⟨rfl, rfl, rfl⟩ := hcs
    have hlm : len ≤ m := by rw [hmm]; split <;> omega
    by_cases h0 : len = 0
    · subst h0
      exact ⟨[], ⟨by simp [maxLen], fun h => by simp at h⟩, rfl⟩
    have each : ∀ i, i < len → ∃ o : Ob, W.cell? (a'.add (i * 4)) = some (.string o.t) ∧ W.cell? ((a'.add (i * 4)).add 1) = some (.string o.i) ∧ W.cell? ((a'.add (i * 4)).add 2) = some (.string o.k) ∧ W.cell? ((a'.add (i * 4)).add 3) = some (.string o.r) := by
      intro i hi
      obtain ⟨cs', h1, h2⟩ := hel i (by omega)
      rw [cells24] at h1
      obtain ⟨_, hlen, hcell⟩ := World.cells?_some h1
      obtain ⟨y0, y1, y2, y3, n', _, _, g0, g1, g2, g3⟩ := trod_struct4 Try.underlying24 h2
      match cs', hlen with
      | [v0, v1, v2, v3], _ =>
        simp [cells9] at g0 g1 g2 g3
        obtain ⟨s0, e0, _, _⟩ := DataW.trod_string Try.underlying9 g0
        obtain ⟨s1, e1, _, _⟩ := DataW.trod_string Try.underlying9 g1
        obtain ⟨s2, e2, _, _⟩ := DataW.trod_string Try.underlying9 g2
        obtain ⟨s3, e3, _, _⟩ := DataW.trod_string Try.underlying9 g3
        simp at e0 e1 e2 e3
        subst e0 e1 e2 e3
        exact ⟨⟨s0, s1, s2, s3⟩, by simpa [Addr.add] using hcell 0 (by omega), by simpa using hcell 1 (by omega), by simpa using hcell 2 (by omega), by simpa using hcell 3 (by omega)⟩
    obtain ⟨b, off, spot⟩ := a'
    obtain ⟨o0, hz, _⟩ := each 0 (by omega)
    have hspot : spot = none := by simpa [Addr.add] using World.cell?_spot hz
    subst hspot
    obtain ⟨os, hol, hos⟩ := gather len each
    refine ⟨os, ⟨by omega, fun _ => ⟨b, off, rfl, ?_, fun i o hi => ?_⟩⟩, hol⟩
    · have := World.block_lt_of_cell? W _ hz
      simpa [Addr.add] using this
    · obtain ⟨h0, h1, h2, h3⟩ := hos i o hi
      simp only [add_eq] at h0 h1 h2 h3
      exact ⟨h0, h1, h2, h3⟩

set_option maxRecDepth 100000 in
theorem lifted (os : Os) (started : os.Started) (H : Type) (enc : TypeId × Value → H) :
    ReturnsInHanded {} Try.checked os 3 .any (Rows.fnForgetRemovesFirstOccurrenceOnlySpec.pre6 enc Try.prog Try.f3 Rows.fnForgetRemovesFirstOccurrenceOnlyRow.domain false) (Rows.fnForgetRemovesFirstOccurrenceOnlySpec.post enc Try.prog Try.f3 false true false false) := by
  refine returnsInHanded_of_change (C := Try.checked) own started (by kernel_rfl) Try.func3
    (ChangeSpec.witness6 (enc := enc) (C := Try.checked) false ⟨#[], #[.int .i64 0, .slice none 0 0, .slice none 0 0, .agg #[.string ByteArray.empty, .string ByteArray.empty, .string ByteArray.empty, .string ByteArray.empty]], []⟩ 8 (by kernel_rfl) (by kernel_rfl) (by kernel_rfl) (by kernel_rfl)) ?_
  intro W base args ds gs before hval0 hW hcnd _
  have hval : ∀ (j : Nat) t v, Try.f3.params[j]? = some t → args[j]? = some v → Value.okWide Try.prog W .any base t v := hval0
  have hW' := hW
  obtain ⟨p, q, hA0, hV, rfl, hfz, hnd⟩ := hW
  have hA : DataW.TrodAll enc Try.prog W 0 (fun _ => true) true Try.f3.params.toList args.toList ds p := hA0
  rw [Try.params3] at hA hval
  obtain ⟨v0, vs0, d0, ds0, p0, q0, hargs, rfl, rfl, h0, r0⟩ := trodAll_cons hA
  obtain ⟨v1, vs1, d1, ds1, p1, q1, rfl, rfl, rfl, h1, r1⟩ := trodAll_cons r0
  obtain ⟨v2, vs2, d2, ds2, p2, q2, rfl, rfl, rfl, h2, r2⟩ := trodAll_cons r1
  obtain ⟨v3, vs3, d3, ds3, p3, q3, rfl, rfl, rfl, h3, r3⟩ := trodAll_cons r2
  obtain ⟨rfl, rfl, rfl⟩ := trodAll_nil r3
  obtain rfl : args = #[v0, v1, v2, v3] := by cases args; simp_all
  obtain ⟨rfl, rfl⟩ := trodVars_none hV
  obtain ⟨n, rfl, rfl, rfl, wn⟩ := open_int Try.underlying3 (hval 0 3 v0 rfl rfl) h0
  obtain ⟨a1, len1, cap1, rfl⟩ := okWide_slice Try.underlying22 (hval 1 22 v1 rfl rfl)
  obtain ⟨a2, len2, cap2, rfl⟩ := okWide_slice Try.underlying22 (hval 2 22 v2 rfl rfl)
  have k1 := h1
  have k2 := h2
  have k3 := h3
  have lt1 : ∀ x ∈ p1, x.block < W.heap.size := by obtain ⟨m, hm⟩ := k1; exact DataW.trod_lt m _ _ _ hm
  have lt2 : ∀ x ∈ p2, x.block < W.heap.size := by obtain ⟨m, hm⟩ := k2; exact DataW.trod_lt m _ _ _ hm
  have lt3 : ∀ x ∈ p3, x.block < W.heap.size := by obtain ⟨m, hm⟩ := k3; exact DataW.trod_lt m _ _ _ hm
  obtain ⟨o1, ho1, hl1⟩ : ∃ os : List Ob, ObsAt W a1 os ∧ Hid (os.length = len1) := by
    obtain ⟨fuel, hf⟩ := h1
    exact open_obs hf
  obtain ⟨o2, ho2, hl2⟩ : ∃ os : List Ob, ObsAt W a2 os ∧ Hid (os.length = len2) := by
    obtain ⟨fuel, hf⟩ := h2
    exact open_obs hf
  obtain ⟨c0, c1, c2, c3, y0, y1, y2, y3, m, rfl, hd3, hp3, g0, g1, g2, g3⟩ := open_agg4 Try.underlying24 (by kernel_rfl) cells24 (hval 3 24 v3 rfl rfl) h3
  obtain ⟨s0, e0, _, _⟩ := DataW.trod_string Try.underlying9 g0
  obtain ⟨s1, e1, _, _⟩ := DataW.trod_string Try.underlying9 g1
  obtain ⟨s2, e2, _, _⟩ := DataW.trod_string Try.underlying9 g2
  obtain ⟨s3, e3, _, _⟩ := DataW.trod_string Try.underlying9 g3
  simp at e0 e1 e2 e3
  subst e0 e1 e2 e3
  clear hA0 hval0
  refine (law_any n a1 a2 len1 cap1 len2 cap2 o1 o2 s0 s1 s2 s3 W ho1 ho2 hl1 hl2).mono fun e W' ⟨he, bel⟩ => ?_
  subst he
  exact ⟨_, rfl, _, _, _, [], _, [], hW', trodAll_mk1 (shut_bool Try.underlying4 _), (trodAll_cons_mk (shut_int Try.underlying3 wn) (trodAll_cons_mk (Below.trod laidOut (by kernel_rfl) (of_decide_eq_true (by kernel_rfl)) k1 bel lt1) (trodAll_cons_mk (Below.trod laidOut (by kernel_rfl) (of_decide_eq_true (by kernel_rfl)) k2 bel lt2) (trodAll_cons_mk (Below.trod laidOut (by kernel_rfl) (of_decide_eq_true (by kernel_rfl)) k3 bel lt3) trodAll_mk0)))), rfl, bel.frame _, fun h => by cases h⟩

theorem over : Rows.fnForgetRemovesFirstOccurrenceOnlyRow.holds Try.pinned (OpenSpec.ofChange Rows.fnForgetRemovesFirstOccurrenceOnlySpec) :=
  OpenClaim.holds_of_wide 3 Try.f3 rfl rfl rfl rfl rfl rfl rfl ⟨rfl, rfl, rfl, rfl, rfl⟩ rfl rfl rfl rfl rfl (by kernel_rfl) Try.func3 (by kernel_rfl)
    (of_decide_eq_true (by kernel_rfl)) (by unfold Func.isWrapper; first | (rw [if_pos (by decide +kernel)]; kernel_rfl) | (rw [if_neg (by decide +kernel)]; exact ⟨rfl, rfl⟩))
    (fun os started H enc _ => lifted os started H enc)

/-- THE STATEMENT -/
theorem forget_first_proved : Rows.FnForgetRemovesFirstOccurrenceOnlySaid := over
end Go.Proofs.Qxb6625794a
