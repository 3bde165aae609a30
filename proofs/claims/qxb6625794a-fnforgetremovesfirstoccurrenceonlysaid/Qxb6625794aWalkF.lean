import Derived.Test.Qxb6625794aParts
namespace Go.Proofs.Qxb6625794a
open Go.RowKit

/-- Every block but g is as it was, and so are the streams. -/
structure But (w w' : World) (g r : Nat) : Prop where
  os : w'.os = w.os
  tape : w'.tape = w.tape
  output : w'.output = w.output
  size : w.heap.size ≤ w'.heap.size
  block : ∀ j, j < w.heap.size → j ≠ g → j ≠ r → w'.heap[j]? = w.heap[j]?

theorem But.trans {a b c : World} {g r : Nat} (h : But a b g r) (k : But b c g r) : But a c g r :=
  ⟨k.os.trans h.os, k.tape.trans h.tape, k.output.trans h.output, Nat.le_trans h.size k.size, fun j hj h1 h2 => (k.block j (Nat.lt_of_lt_of_le hj h.size) h1 h2).trans (h.block j hj h1 h2)⟩

theorem But.of_below {w w' : World} (h : Below w.heap.size w w') (g r : Nat) : But w w' g r := ⟨h.os, h.tape, h.output, h.size, fun j hj _ _ => h.block j hj⟩

theorem But.setCells (g r : Nat) : ∀ (vs : List Value) (o : Nat) (w : World), But w (w.setCells g o vs) g r
  | [], _, w => ⟨rfl, rfl, rfl, Nat.le_refl _, fun _ _ _ _ => rfl⟩
  | v :: vs, o, w => by
    have h : But w (w.setCell ⟨g, o, none⟩ v) g r := ⟨rfl, rfl, rfl, by simp [World.setCell], fun j _ h1 _ => Below.heap_setCell _ _ _ _ (by simpa using h1)⟩
    exact h.trans (But.setCells g r vs (o + 1) _)

theorem But.putObj (w : World) (g r : Nat) (o : Obj) : But w (putObj w r o) g r :=
  ⟨rfl, rfl, rfl, by simp [Qxb6625794a.putObj], fun j _ _ h2 => by simp only [Qxb6625794a.putObj]; rw [Array.getElem?_setIfInBounds_ne (by omega)]⟩

def ForgetEnd (w : World) (g r T cap : Nat) (n : Int) (os : List Ob) (e : Ending) (w' : World) : Prop :=
  e = .returned (.tuple #[]) ∧ ObsAt w' (some ⟨g, 0, none⟩) os ∧ w'.heap[r]? = some (oneMap n (.slice (some ⟨g, 0, none⟩) os.length cap)) ∧ w'.cell? ⟨T, 1, none⟩ = some (.map (some r)) ∧ But w w' g r

theorem forget_last {w wr : World} {O : Obj} {g R T cap q : Nat} {n : Int} {xs cs : List Ob} {l : Nat} (hb : Below w.heap.size w wr) (hT : w.cell? ⟨T, 1, none⟩ = some (.map (some R))) (hTlt : T < w.heap.size) (hRlt : R < w.heap.size) (hg : g < w.heap.size) (hgT : g ≠ T) (hRT : R ≠ T) (hgR : g ≠ R)
    (hrow : RowAt ((wr.alloc O).drew.setCells g (0 + q * 4) (cellsOf cs)) g (cellsOf (xs ++ cs))) (hm : (xs ++ cs).length ≤ maxLen) (hl : (xs ++ cs).length = l) :
    ForgetEnd w g R T cap n (xs ++ cs) (.returned (.tuple #[])) (putObj ((wr.alloc O).drew.setCells g (q * 4) (cellsOf cs)) R (oneMap n (.slice (some ⟨g, 0, none⟩) l cap))) := by
  rw [Nat.zero_add] at hrow
  subst hl
  have h1 : But w ((wr.alloc O).drew) g R := But.of_below ((hb.alloc hb.size O).drew) g R
  have h2 := h1.trans (But.setCells g R (cellsOf cs) (q * 4) ((wr.alloc O).drew))
  have h3 := h2.trans (But.putObj _ g R (oneMap n (.slice (some ⟨g, 0, none⟩) (xs ++ cs).length cap)))
  have hgX : g < ((wr.alloc O).drew.setCells g (q * 4) (cellsOf cs)).heap.size := Nat.lt_of_lt_of_le hg h2.size
  refine ⟨rfl, ?_, ?_, ?_, h3⟩
  · refine RowAt.obs (fun j u hu => ?_) hm (Nat.lt_of_lt_of_le hg h3.size)
    rw [← hrow j u hu]
    refine World.cell?_of_block ?_
    simp only [putObj]
    rw [Array.getElem?_setIfInBounds_ne (by simp; omega)]
  · simp only [putObj]
    rw [Array.getElem?_setIfInBounds_self]
    have : R < ((wr.alloc O).drew.setCells g (q * 4) (cellsOf cs)).heap.size := Nat.lt_of_lt_of_le hRlt h2.size
    simp [this]
  · rw [← hT]
    exact World.cell?_of_block (h3.block T hTlt (by omega) (by omega))

theorem before_no {xs cs : List Ob} {x o : Ob} {q : Nat} (hq : q < xs.length) (h : (xs ++ x :: cs)[q]? = some o) (hno : ∀ o, o ∈ xs → o ≠ x) : o ≠ x := by
  rw [List.getElem?_append_left hq] at h
  exact hno o (List.mem_of_getElem? h)

theorem at_yes {xs cs : List Ob} {x o : Ob} {q : Nat} (hq : q = xs.length) (h : (xs ++ x :: cs)[q]? = some o) : o = x := by
  subst hq
  simpa using h.symm

theorem ne_obEq {t i k r t' i' k' r' : ByteArray} (h : (⟨t, i, k, r⟩ : Ob) ≠ ⟨t', i', k', r'⟩) : obEq t i k r t' i' k' r' = false := by
  simp only [ne_eq, Ob.mk.injEq] at h
  simp only [obEq, decide_eq_false_iff_not]
  exact h

set_option maxRecDepth 1000000 in
set_option maxHeartbeats 1600000 in
theorem forget_any (B : Nat) (xs cs : List Ob) (t i k r : ByteArray) (n : Int) (g len cap T R : Nat) (w : World) (hT : w.cell? ⟨T, 1, none⟩ = some (.map (some R))) (hR : w.heap[R]? = some (oneMap n (.slice (some ⟨g, 0, none⟩) len cap)))
    (hlen : Hid ((xs ++ ⟨t, i, k, r⟩ :: cs).length = len)) (hown : Own w B g cap (xs ++ ⟨t, i, k, r⟩ :: cs)) (hno : Hid (∀ o, o ∈ xs → o ≠ ⟨t, i, k, r⟩)) (hgT : g ≠ T) (hgR : g ≠ R) (hRT : R ≠ T) (hcap : cap ≤ 4194304) :
    Calls Try.prog 18 #[.pointer (some ⟨T, 0, none⟩), .int .i64 n, .agg #[.string t, .string i, .string k, .string r]] w fun e w' => ForgetEnd w g R T cap n (xs ++ cs) e w' := by
  obtain ⟨i0, hi0, hz0, hz1, hz2⟩ := info_parts info31
  obtain ⟨cur, hcur, hlc0, hcm, hcs, hrow⟩ := hown.block
  have hg : g < w.heap.size := (Array.getElem?_eq_some_iff.1 hcur).1
  have hRlt : R < w.heap.size := (Array.getElem?_eq_some_iff.1 hR).1
  have hlook := run_look n _ (w.alloc (.cells #[.string t, .string i, .string k, .string r] 31)) R ((Below.heap_alloc _ _ _ hRlt).trans hR)
  have hTlt : T < w.heap.size := World.block_lt_of_cell? w _ hT
  have hlenx : Hid (xs.length + 1 + cs.length = len) := by have := hlen.out; simp at this; show xs.length + 1 + cs.length = len; omega
  obtain ⟨lx, hlx⟩ : ∃ lx, Hid (xs.length = lx) := ⟨_, rfl⟩
  have hlt0 : lx < len := by have := hlenx.out; have := hlx.out; omega
  have hlc : len ≤ cap := by have := hlen.out; omega
  have HR := (show Hid (w.cell? ⟨T, 1, none⟩ = some (.map (some R))) from hT)
  have HRW : Hid (RowAt w g (cellsOf (xs ++ ⟨t, i, k, r⟩ :: cs))) := hrow
  have HC : Hid (w.heap[g]? = some (.cells cur 31 (0, 0))) := hcur
  have HCS : Hid (cur.size = cap * 4) := hcs
  have HL0 : Hid ((xs ++ ⟨t, i, k, r⟩ :: cs).length ≤ cap) := hlc0
  clear hrow hcur hcs hlc0 hcm hz0 hz2
  go_enter Try.func18, Try.ntmps18
  go_wp2
  go_loopw [17] (fun i' wr => ∃ (q : Nat), q ≤ lx ∧ i' = .int .i64 q ∧ Below (w.heap.size + 1) (w.alloc (.cells #[.string t, .string i, .string k, .string r] 31)) wr) (fun i' _ => len - (intOf i').toNat)
  case atStart => exact ⟨0, Nat.zero_le _, rfl, Below.refl _ _⟩
  case round =>
    obtain ⟨q, hq, rfl, hbel⟩ := hrel
    have hb2 : Below w.heap.size w wr := ((Below.refl _ _).alloc (Nat.le_refl _) _).trans (hbel.mono (by omega))
    obtain ⟨b, off, t', i', kk', r', hos, hEq, hb, g0, g1, g2, g3⟩ := (hown.at.below hb2).pick (k := q) (by have := hlen.out; omega)
    simp only [Option.some.injEq, Addr.mk.injEq, and_true] at hEq
    obtain ⟨rfl, rfl⟩ := hEq
    simp only [Nat.zero_add] at g0 g1 g2 g3
    have heq := eql31
    have hzs : w.heap.size < wr.heap.size := by have := hbel.size; simp at this; omega
    have b0 : wr.cell? ⟨w.heap.size, 0, none⟩ = some (.string t) := (hbel.cell (p := ⟨w.heap.size, 0, none⟩) (Nat.lt_succ_self _)).trans (by simp)
    have b1 : wr.cell? ⟨w.heap.size, 1, none⟩ = some (.string i) := (hbel.cell (p := ⟨w.heap.size, 1, none⟩) (Nat.lt_succ_self _)).trans (by simp)
    have b2 : wr.cell? ⟨w.heap.size, 2, none⟩ = some (.string k) := (hbel.cell (p := ⟨w.heap.size, 2, none⟩) (Nat.lt_succ_self _)).trans (by simp)
    have b3 : wr.cell? ⟨w.heap.size, 3, none⟩ = some (.string r) := (hbel.cell (p := ⟨w.heap.size, 3, none⟩) (Nat.lt_succ_self _)).trans (by simp)
    have hT' : wr.cell? ⟨T, 1, none⟩ = some (.map (some R)) := (hb2.cell (p := ⟨T, 1, none⟩) hTlt).trans hT
    have hTlt' : T < wr.heap.size := Nat.lt_trans hTlt hzs
    have hR' : wr.heap[R]? = _ := (hb2.block R hRlt).trans hR
    have hqlen : q < len := by omega
    have hqlen' : (q : Int) < (len : Int) := by omega
    clear hlook hR hT hlt0 hown
    by_cases hqx : q < lx
    · have hne : obEq t' i' kk' r' t i k r = false := ne_obEq (before_no (by have := hlx.out; omega) hos.out hno.out)
      clear hR'
      go_wp2
      go_roundw
      case rel => exact ⟨q + 1, by omega, by go_num, hbel.alloc (by omega) _⟩
      case measure => simp [intOf]; omega
    · have hqe : Hid (xs.length = q) := by have := hlx.out; show xs.length = q; omega
      have he : (⟨t', i', kk', r'⟩ : Ob) = ⟨t, i, k, r⟩ := at_yes (by have := hqe.out; omega) hos.out
      simp only [Ob.mk.injEq] at he
      obtain ⟨rfl, rfl, rfl, rfl⟩ := he
      have hself := obEq_self t' i' kk' r'
      have hgw : g < wr.heap.size := Nat.lt_trans hg hzs
      have mv := moved (w := (wr.alloc (.cells #[.string t', .string i', .string kk', .string r'] 31)).drew) (q := q) (((Below.heap_alloc _ _ _ hgw).trans (hb2.block g hg)).trans HC.out) HL0.out HCS.out
        (fun j u hu => ((hb2.alloc hb2.size _).drew.cell (p := ⟨g, j, none⟩) hg).trans (HRW.out j u hu)) hqe.out
      obtain ⟨A, hA, hnews⟩ : ∃ A : Addr, (if cap = q + 1 then some (⟨g, 0, none⟩ : Addr) else some ⟨g, (q + 1) * 4, none⟩) = some A ∧ Hid (∀ j u, (cellsOf cs)[j]? = some u → (wr.alloc (.cells #[.string t', .string i', .string kk', .string r'] 31)).drew.cell? (A.add j) = some u) := by
        by_cases h : cap = q + 1
        · refine ⟨⟨g, 0, none⟩, by simp [h], fun j u hu => ?_⟩
          have h0 : (cellsOf cs).length = 0 := by rw [cellsOf_length]; have := hlenx.out; have := hqe.out; omega
          rw [List.length_eq_zero_iff.1 h0] at hu
          simp at hu
        · exact ⟨⟨g, (q + 1) * 4, none⟩, by simp [h], mv.1⟩
      have s1 : Hid ((cellsOf cs).length = (len - (q + 1)) * 4) := by
        show (cellsOf cs).length = (len - (q + 1)) * 4
        rw [cellsOf_length]
        have := hlenx.out
        have := hqe.out
        omega
      have s2 : Hid (∀ u ∈ cellsOf cs, u.oneCell' = true) := cellsOf_one cs
      have s3 : Hid (∀ j, j < (cellsOf cs).length → ((wr.alloc (.cells #[.string t', .string i', .string kk', .string r'] 31)).drew.cell? ⟨g, 0 + q * 4 + j, none⟩).isSome = true ∧ (wr.alloc (.cells #[.string t', .string i', .string kk', .string r'] 31)).drew.frozen? ⟨g, 0 + q * 4 + j, none⟩ = false) := mv.2.1
      have HM : Hid (RowAt ((wr.alloc (.cells #[.string t', .string i', .string kk', .string r'] 31)).drew.setCells g (0 + q * 4) (cellsOf cs)) g (cellsOf (xs ++ cs))) := mv.2.2
      clear mv
      have k0 : ((wr.alloc (.cells #[.string t', .string i', .string kk', .string r'] 31)).drew.setCells g (q * 4) (cellsOf cs)).cell? ⟨T, 1, none⟩ = some (.map (some R)) := by
        rw [World.cell?_setCells_out g _ _ _ _ (fun h _ => absurd h (by simp; omega))]
        exact ((hb2.alloc hb2.size _).drew.cell (p := ⟨T, 1, none⟩) hTlt).trans HR.out
      have hup := run_again n _ (.slice (some ⟨g, 0, none⟩) (q + (len - (q + 1))) cap) ((wr.alloc (.cells #[.string t', .string i', .string kk', .string r'] 31)).drew.setCells g (q * 4) (cellsOf cs)) R
        (((But.setCells g T (cellsOf cs) (q * 4) _).block R (by simp; omega) (by omega) hRT).trans ((Below.heap_alloc _ _ _ (Nat.lt_trans hRlt hzs)).trans hR'))
      have hic : q ≤ cap := by omega
      have hwr : IntKind.i64.wrap ((q : Int) + 1) = (q : Int) + 1 := by rw [IntKind.wrap_i64]; omega
      have hp0 : (0 : Int) ≤ (q : Int) + 1 := by omega
      have hp1 : (q : Int) + 1 ≤ (len : Int) := by omega
      have hp2 : ((q : Int) + 1).toNat = q + 1 := by omega
      clear hR'
      go_wp2_with fail
      go_region_law (refine step_append_room rfl (.tmp 32) (.tmp 36) 29 rfl 31 i0 4 Try.underlying29 hi0 hz1 g 0 q cap (by simp [Act.eval, Act.put]) A (len - (q + 1)) (cap - (q + 1)) (cellsOf cs) (by simp [Act.eval, Act.put]) s1.out hnews.out s2.out (by omega) s3.out ?_)
      all_goals go_wp2
      all_goals go_end0
      all_goals
        have h1 := hlenx.out
        have h2 := hqe.out
        exact forget_last hb2 HR.out hTlt hRlt hg hgT hRT hgR HM.out (by simp only [List.length_append, maxLen]; omega) (by simp only [List.length_append]; omega)

set_option maxHeartbeats 400000 in
theorem zzForget_any (B : Nat) (xs cs : List Ob) (t i k r : ByteArray) (n : Int) (g len cap T R : Nat) (w : World) (hT : w.cell? ⟨T, 1, none⟩ = some (.map (some R))) (hR : w.heap[R]? = some (oneMap n (.slice (some ⟨g, 0, none⟩) len cap)))
    (hlen : Hid ((xs ++ ⟨t, i, k, r⟩ :: cs).length = len)) (hown : Own w B g cap (xs ++ ⟨t, i, k, r⟩ :: cs)) (hno : Hid (∀ o, o ∈ xs → o ≠ ⟨t, i, k, r⟩)) (hgT : g ≠ T) (hgR : g ≠ R) (hRT : R ≠ T) (hcap : cap ≤ 4194304) :
    Calls Try.prog 11 #[.pointer (some ⟨T, 0, none⟩), .int .i64 n, .agg #[.string t, .string i, .string k, .string r]] w fun e w' => ForgetEnd w g R T cap n (xs ++ cs) e w' := by
  have hRlt : R < w.heap.size := (Array.getElem?_eq_some_iff.1 hR).1
  have hTlt : T < w.heap.size := World.block_lt_of_cell? w _ hT
  have hb : Below w.heap.size w (w.alloc (.cells #[.string t, .string i, .string k, .string r] 31)) := (Below.refl _ _).alloc (Nat.le_refl _) _
  have hc := forget_any B xs cs t i k r n g len cap T R (w.alloc (.cells #[.string t, .string i, .string k, .string r] 31)) ((hb.cell (p := ⟨T, 1, none⟩) hTlt).trans hT) ((hb.block R hRlt).trans hR) hlen (World.ownsRow.alloc hown _) hno hgT hgR hRT hcap
  clear hT hR hown
  have HC : Hid (Calls Try.prog 18 #[.pointer (some ⟨T, 0, none⟩), .int .i64 n, .agg #[.string t, .string i, .string k, .string r]] (w.alloc (.cells #[.string t, .string i, .string k, .string r] 31)) fun e w' => ForgetEnd (w.alloc (.cells #[.string t, .string i, .string k, .string r] 31)) g R T cap n (xs ++ cs) e w') := hc
  clear hc
  go_enter Try.func11, Try.ntmps11
  go_wp2_with fail
  refine HC.out.mono ?_
  rintro e w' ⟨rfl, h1, h2, h3, h4⟩
  go_wp2
  go_end0
  exact ⟨rfl, h1, h2, h3, (But.of_below hb g R).trans h4⟩

end Go.Proofs.Qxb6625794a
