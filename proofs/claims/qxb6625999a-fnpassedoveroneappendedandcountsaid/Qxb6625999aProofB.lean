import Derived.Test.Qxb6625999aOpen
import Derived.Test.Qxb6625999aMainB
namespace Go.Proofs.Qxb6625999a
open Go.ChangeShapes Go.WideShapes Go.ChangeAt Go.RowKit
open Go.Deep
set_option linter.unusedVariables false

set_option maxRecDepth 100000 in
theorem liftedB (os : Os) (started : os.Started) (H : Type) (enc : TypeId × Value → H) :
    ReturnsInHanded {} Try.checked os 4 .any (Rows.fnPassedOverOneAppendedAndCountSpec.pre6 enc Try.prog Try.f4 Rows.fnPassedOverOneAppendedAndCountRow.domain false) (Rows.fnPassedOverOneAppendedAndCountSpec.post enc Try.prog Try.f4 false true false false) := by
  refine returnsInHanded_of_change (C := Try.checked) own started (by kernel_rfl) Try.func4
    (ChangeSpec.witness6 (enc := enc) (C := Try.checked) false ⟨#[], #[.slice none 0 0, .int .u8 0, .slice none 0 0, .slice none 0 0], []⟩ 8 (by kernel_rfl) (by kernel_rfl) (by kernel_rfl) (by kernel_rfl)) ?_
  intro W base args ds gs before hval0 hW hcnd _
  have hval : ∀ (j : Nat) t v, Try.f4.params[j]? = some t → args[j]? = some v → Value.okWide Try.prog W .any base t v := hval0
  have hW' := hW
  obtain ⟨p, q, hA0, hV, rfl, hfz, hnd⟩ := hW
  have hA : DataW.TrodAll enc Try.prog W 0 (fun _ => true) true Try.f4.params.toList args.toList ds p := hA0
  rw [Try.params4] at hA hval
  obtain ⟨v0, vs0, d0, ds0, p0, q0, hargs, rfl, rfl, h0, r0⟩ := trodAll_cons hA
  obtain ⟨v1, vs1, d1, ds1, p1, q1, rfl, rfl, rfl, h1, r1⟩ := trodAll_cons r0
  obtain ⟨v2, vs2, d2, ds2, p2, q2, rfl, rfl, rfl, h2, r2⟩ := trodAll_cons r1
  obtain ⟨v3, vs3, d3, ds3, p3, q3, rfl, rfl, rfl, h3, r3⟩ := trodAll_cons r2
  obtain ⟨rfl, rfl, rfl⟩ := trodAll_nil r3
  obtain rfl : args = #[v0, v1, v2, v3] := by cases args; simp_all
  obtain ⟨rfl, rfl⟩ := trodVars_none hV
  obtain ⟨a0, len0, cap0, rfl⟩ := okWide_slice Try.underlying22 (hval 0 22 v0 rfl rfl)
  obtain ⟨t0, rfl, rfl, rfl, wt⟩ := open_int Try.underlying5 (hval 1 5 v1 rfl rfl) h1
  obtain ⟨a2, len2, cap2, rfl⟩ := okWide_slice Try.underlying23 (hval 2 23 v2 rfl rfl)
  obtain ⟨a3, len3, cap3, rfl⟩ := okWide_slice Try.underlying23 (hval 3 23 v3 rfl rfl)
  have k0 := h0
  have k2 := h2
  have k3 := h3
  have lt0 : ∀ x ∈ p0, x.block < W.heap.size := by obtain ⟨m, hm⟩ := k0; exact DataW.trod_lt m _ _ _ hm
  have lt2 : ∀ x ∈ p2, x.block < W.heap.size := by obtain ⟨m, hm⟩ := k2; exact DataW.trod_lt m _ _ _ hm
  have lt3 : ∀ x ∈ p3, x.block < W.heap.size := by obtain ⟨m, hm⟩ := k3; exact DataW.trod_lt m _ _ _ hm
  obtain ⟨ps, hp, hg, hl0⟩ : ∃ ps : List Pl, PlsAt W a0 ps ∧ Good W ps ∧ Hid (ps.length = len0) := by
    obtain ⟨fuel, hf⟩ := h0
    exact open_pls hf
  have hbd : BodyAt W a2 len2 := by
    obtain ⟨fuel, hf⟩ := h2
    obtain ⟨a, l, c, zs, he, h2, h3, h4⟩ := open_bytes (v := .slice a2 len2 cap2) hf
    simp only [Value.slice.injEq] at he
    obtain ⟨rfl, rfl, rfl⟩ := he
    rw [← h4.out]
    exact h2.body
  obtain ⟨rd, hr, hb, hl3⟩ : ∃ rd : List Int, IntsAt W a3 rd ∧ Bytes rd ∧ Hid (rd.length = len3) := by
    obtain ⟨fuel, hf⟩ := h3
    obtain ⟨a, l, c, zs, he, h2, h3, h4⟩ := open_bytes (v := .slice a3 len3 cap3) hf
    simp only [Value.slice.injEq] at he
    obtain ⟨rfl, rfl, rfl⟩ := he
    exact ⟨zs, h2, h3, h4⟩
  have hbt := bounds_u8 wt
  clear hA0 hval0
  refine (lawB_any a0 a3 a2 len0 cap0 len3 cap3 len2 cap2 t0 rd ps W hp hr hbd hg hb hbt.1 (by omega) hl0 hl3).mono fun e W' ⟨he, bel⟩ => ?_
  subst he
  exact ⟨_, rfl, _, _, _, [], _, [], hW', trodAll_mk1 (shut_bool Try.underlying4 _), (trodAll_cons_mk (Below.trod laidOut (by kernel_rfl) (of_decide_eq_true (by kernel_rfl)) k0 bel lt0) (trodAll_cons_mk (shut_int Try.underlying5 wt) (trodAll_cons_mk (Below.trod laidOut (by kernel_rfl) (of_decide_eq_true (by kernel_rfl)) k2 bel lt2) (trodAll_cons_mk (Below.trod laidOut (by kernel_rfl) (of_decide_eq_true (by kernel_rfl)) k3 bel lt3) trodAll_mk0)))), rfl, bel.frame _, fun h => by cases h⟩

theorem overB : Rows.fnPassedOverOneAppendedAndCountRow.holds Try.pinned (OpenSpec.ofChange Rows.fnPassedOverOneAppendedAndCountSpec) :=
  OpenClaim.holds_of_wide 4 Try.f4 rfl rfl rfl rfl rfl rfl rfl ⟨rfl, rfl, rfl, rfl, rfl⟩ rfl rfl rfl rfl rfl (by kernel_rfl) Try.func4 (by kernel_rfl)
    (of_decide_eq_true (by kernel_rfl)) (by unfold Func.isWrapper; first | (rw [if_pos (by decide +kernel)]; kernel_rfl) | (rw [if_neg (by decide +kernel)]; exact ⟨rfl, rfl⟩))
    (fun os started H enc _ => liftedB os started H enc)

/-- THE STATEMENT -/
theorem one_appended_proved : Rows.FnPassedOverOneAppendedAndCountSaid := overB
end Go.Proofs.Qxb6625999a
