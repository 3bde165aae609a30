import Derived.Test.Qxb6627504aBase
import Derived.Deep.AppendLies
namespace Go.Proofs.Qxb6627504a
open Go.RowKit

theorem info52 : (Try.prog.info? 52).map (fun i => (i.zero, i.size, i.bytes)) = some (some (.agg #[.string ByteArray.empty, .string ByteArray.empty, .string ByteArray.empty]), 3, 48) := by kernel_rfl

/-- The cells of a row of references. -/
def flat (rs : List Rf) : List Value := rs.flatMap fun r => [.string r.s, .string r.n, .string r.a]

theorem flat_append (xs ys : List Rf) : flat (xs ++ ys) = flat xs ++ flat ys := by simp [flat]
theorem flat_length : ∀ rs : List Rf, (flat rs).length = rs.length * 3
  | [] => rfl
  | r :: rs => by
    have := flat_length rs
    simp only [flat, List.flatMap_cons, List.length_append, List.length_cons, List.length_nil] at this ⊢
    omega
theorem flat_at : ∀ (rs : List Rf) (k : Nat) (r : Rf), rs[k]? = some r → (flat rs)[k * 3]? = some (.string r.s) ∧ (flat rs)[k * 3 + 1]? = some (.string r.n) ∧ (flat rs)[k * 3 + 2]? = some (.string r.a)
  | x :: rs, 0, r, h => by
    simp at h
    subst h
    exact ⟨rfl, rfl, rfl⟩
  | x :: rs, k + 1, r, h => by
    have := flat_at rs k r (by simpa using h)
    have e : flat (x :: rs) = [.string x.s, .string x.n, .string x.a] ++ flat rs := rfl
    rw [e]
    refine ⟨?_, ?_, ?_⟩
    · rw [List.getElem?_append_right (by simp; omega), show (k + 1) * 3 - [Value.string x.s, .string x.n, .string x.a].length = k * 3 by simp; omega]; exact this.1
    · rw [List.getElem?_append_right (by simp; omega), show (k + 1) * 3 + 1 - [Value.string x.s, .string x.n, .string x.a].length = k * 3 + 1 by simp; omega]; exact this.2.1
    · rw [List.getElem?_append_right (by simp; omega), show (k + 1) * 3 + 2 - [Value.string x.s, .string x.n, .string x.a].length = k * 3 + 2 by simp; omega]; exact this.2.2

/-- Block J is a job whose own references are rs; their row lies in a block of its own, younger than J. -/
def JobAt (w : World) (J : Nat) (rs : List Rf) : Prop :=
  ∃ v, w.cell? ⟨J, 8, none⟩ = some v ∧ w.frozen? ⟨J, 8, none⟩ = false ∧ w.ownsRow (J + 1) 52 3 v rs.length (flat rs)

theorem JobAt.lt {w : World} {J : Nat} {rs : List Rf} (h : JobAt w J rs) : J < w.heap.size := by
  obtain ⟨v, h1, _⟩ := h
  exact World.block_lt_of_cell? w _ h1

theorem ownsRow_kept {B : Nat} {e : TypeId} {k : Nat} {v : Value} {n : Nat} {xs : List Value} {w w' : World} (h : w.ownsRow B e k v n xs) (hb : Below w.heap.size w w') : w'.ownsRow B e k v n xs := by
  refine ⟨h.1, ?_⟩
  rcases h.2 with h' | ⟨g, cap, cur, e, hB, hblk, rest⟩
  · exact Or.inl h'
  · exact Or.inr ⟨g, cap, cur, e, hB, (hb.block g (Array.getElem?_eq_some_iff.1 hblk).1).trans hblk, rest⟩

theorem JobAt.below {w w' : World} {J : Nat} {rs : List Rf} (h : JobAt w J rs) (hb : Below w.heap.size w w') : JobAt w' J rs := by
  have hlt := h.lt
  obtain ⟨v, h1, h2, h3⟩ := h
  exact ⟨v, (hb.cell (p := ⟨J, 8, none⟩) hlt).trans h1, (hb.frozen (p := ⟨J, 8, none⟩) hlt).trans h2, ownsRow_kept h3 hb⟩

theorem job_new (w : World) (cs : Array Value) (h : cs[8]? = some (.slice none 0 0)) : JobAt (w.alloc (.cells cs 44)) w.heap.size [] := by
  refine ⟨.slice none 0 0, ?_, ?_, rfl, Or.inl ⟨rfl, rfl⟩⟩
  · rw [cell_of_row _ _ _ cs 44 (0, 0) (heap_alloc_new w _)]
    exact h
  · unfold World.frozen?
    rw [heap_alloc_new w]
    rfl

theorem cells_three {w : World} {n : Nat} (hn : w.heap.size = n) (x y z : Value) (e : TypeId) : ∀ j v, [x, y, z][j]? = some v → (w.alloc (.cells #[x, y, z] e)).cell? ((⟨n, 0, none⟩ : Addr).add j) = some v := by
  intro j v hj
  subst hn
  rw [Addr.add_lit, cell_of_row _ _ _ #[x, y, z] e (0, 0) (heap_alloc_new w _)]
  simpa using hj
theorem three_one (s n a : ByteArray) : ∀ u ∈ [Value.string s, .string n, .string a], u.oneCell' = true := by
  intro u hu
  simp at hu
  rcases hu with rfl | rfl | rfl <;> rfl

def AddEnd (w : World) (J : Nat) (rs : List Rf) (e : Ending) (w' : World) : Prop := e = .returned (.tuple #[]) ∧ JobAt w' J rs ∧ Below J w w'

set_option maxHeartbeats 2000000 in
theorem addRef_any (J : Nat) (rs : List Rf) (s n a : ByteArray) (w : World) (hj : JobAt w J rs) (hsm : rs.length ≤ 65536) :
    Calls Try.prog 8 #[.pointer (some ⟨J, 0, none⟩), .string s, .string n, .string a] w fun e w' => AddEnd w J (rs ++ [⟨s, n, a⟩]) e w' := by
  have hJ := hj.lt
  obtain ⟨v, hc, hf, hown⟩ := hj
  obtain ⟨i0, hi, hz0, hz1, hz2⟩ := info_parts info52
  have hb0 : Below (J + 1) w (w.alloc (.cells #[.string s, .string n, .string a] 52)) := (Below.refl _ _).alloc (by omega) _
  have hof := hown.lt
  have q1 : Hid (∀ j u, [Value.string s, .string n, .string a][j]? = some u → (w.alloc (.cells #[.string s, .string n, .string a] 52)).cell? ((⟨w.heap.size, 0, none⟩ : Addr).add j) = some u) := cells_three rfl _ _ _ _
  have q2 : Hid (∀ u ∈ [Value.string s, .string n, .string a], u.oneCell' = true) := three_one _ _ _
  have q3 : Hid (rs.length + 1 ≤ maxLen) := by show _ ≤ _; unfold maxLen; omega
  have q4 : Hid ((rs.length + 1) * 48 ≤ 140737488355328) := by show _ ≤ _; omega
  have q5 : Hid (J + 1 ≤ (w.alloc (.cells #[.string s, .string n, .string a] 52)).heap.size) := by show _ ≤ _; simp; omega
  have ST : Hid (∀ (g cap : Nat) (w1 : World), w1.ownsRow (J + 1) 52 3 (.slice (some ⟨g, 0, none⟩) (rs.length + 1) cap) (rs.length + 1) (flat rs ++ [.string s, .string n, .string a]) → World.grownBy (w.alloc (.cells #[.string s, .string n, .string a] 52)) w1 v.ownBlock →
      (w1.cell? ⟨J, 8, none⟩ = some v ∧ w1.frozen? ⟨J, 8, none⟩ = false) ∧ Hid (JobAt (w1.setCell ⟨J, 8, none⟩ (.slice (some ⟨g, 0, none⟩) (rs.length + 1) cap)) J (rs ++ [⟨s, n, a⟩]) ∧ Below J w (w1.setCell ⟨J, 8, none⟩ (.slice (some ⟨g, 0, none⟩) (rs.length + 1) cap)))) := by
    intro g cap w1 hown1 hg1
    have hb1 : Below (J + 1) w w1 := hb0.grown hg1 (by simp; omega) (fun k hk => (hof k hk).1)
    have c1 : w1.cell? ⟨J, 8, none⟩ = some v := (hb1.cell (p := ⟨J, 8, none⟩) (Nat.lt_succ_self _)).trans hc
    have f1 : w1.frozen? ⟨J, 8, none⟩ = false := (hb1.frozen (p := ⟨J, 8, none⟩) (Nat.lt_succ_self _)).trans hf
    refine ⟨⟨c1, f1⟩, ⟨_, World.cell?_setCell_same _ _ _ c1, ?_, ?_⟩, (hb1.mono (Nat.le_succ _)).setCell (p := ⟨J, 8, none⟩) (Nat.le_refl _) _⟩
    · rw [World.frozen?_setCell]
      exact f1
    · rw [flat_append, List.length_append]
      exact ownsRow_setCell_below hown1 (a := ⟨J, 8, none⟩) (Nat.lt_succ_self _) _
  have HOWN : Hid ((w.alloc (.cells #[.string s, .string n, .string a] 52)).ownsRow (J + 1) 52 3 v rs.length (flat rs)) := hown.alloc _
  clear hown hb0 hof hf
  go_enter Try.func8, Try.ntmps8
  go_wp2_with (at_builtin; refine wpList_append_lies _ rfl _ _ 33 rfl (J + 1) 52 i0 _ 3 48 Try.underlying33 hi hz0 hz1 hz2 rfl (by decide) _ _ _ rfl HOWN.out ⟨w.heap.size, 0, none⟩ 1 1 [.string s, .string n, .string a] rfl rfl q1.out q2.out (by decide) q3.out q4.out q5.out (w.heap.size + 1) (by simp) ?_; intro g cap w1 hown1 hg1 _ _; obtain ⟨⟨c1, f1⟩, HE⟩ := ST.out g cap w1 hown1 hg1; clear hown1 hg1)
  go_end0
  exact ⟨rfl, HE.out.1, HE.out.2⟩
end Go.Proofs.Qxb6627504a
