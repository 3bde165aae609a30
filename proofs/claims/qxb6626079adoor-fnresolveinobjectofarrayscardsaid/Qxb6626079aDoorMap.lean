import Derived.Test.Qxb6626079aDoorWalkE
import Derived.MapKept
namespace Go.Proofs.Qxb6626079aDoor
open Go.RowKit

/-- The keys, each once, in the order in which they first stand. -/
def addKey (acc : List ByteArray) (k : ByteArray) : List ByteArray := if hasKey acc k then acc else acc ++ [k]
def distinct (ks : List ByteArray) : List ByteArray := ks.foldl addKey []

theorem hasKey_append (xs ys : List ByteArray) (t : ByteArray) : hasKey (xs ++ ys) t = (hasKey xs t || hasKey ys t) := by simp [hasKey]
theorem hasKey_iff (xs : List ByteArray) (t : ByteArray) : hasKey xs t = true ↔ t ∈ xs := by
  simp [hasKey]
theorem hasKey_addKey (acc : List ByteArray) (k t : ByteArray) : hasKey (addKey acc k) t = (hasKey acc t || hasKey [k] t) := by
  unfold addKey
  cases h : hasKey acc k
  · simp [hasKey_append]
  · simp only [if_true]
    by_cases e : k = t
    · subst e
      simp [h]
    · simp [hasKey, e]
theorem distinct_next {ks : List ByteArray} {i : Nat} {k : ByteArray} (h : ks[i]? = some k) : distinct (ks.take (i + 1)) = addKey (distinct (ks.take i)) k := by
  unfold distinct
  rw [take_next h, List.foldl_append]
  rfl
theorem hasKey_fold (t : ByteArray) : ∀ (ks acc : List ByteArray), hasKey (ks.foldl addKey acc) t = (hasKey acc t || hasKey ks t)
  | [], acc => by simp [hasKey]
  | k :: ks, acc => by
    rw [List.foldl_cons, hasKey_fold t ks, hasKey_addKey, Bool.or_assoc, ← hasKey_append]
    rfl
theorem hasKey_distinct (ks : List ByteArray) (t : ByteArray) : hasKey (distinct ks) t = hasKey ks t := by
  unfold distinct
  rw [hasKey_fold]
  simp [hasKey]

/-- Block r is a map with these keys, each leading to v. -/
def MapAt (w : World) (r : Nat) (ds : List ByteArray) (v : Value) : Prop :=
  ∃ es clock, w.heap[r]? = some (.map es clock) ∧ es.toList.map (·.key) = ds.map Value.string ∧ ∀ e ∈ es.toList, e.val = v

theorem MapAt.lt {w : World} {r : Nat} {ds : List ByteArray} {v : Value} (h : MapAt w r ds v) : r < w.heap.size := by
  obtain ⟨es, clock, hb, _⟩ := h
  exact (Array.getElem?_eq_some_iff.1 hb).1

theorem MapAt.below {w w' : World} {r : Nat} {ds : List ByteArray} {v : Value} (h : MapAt w r ds v) (hb : Below w.heap.size w w') : MapAt w' r ds v := by
  have hlt := h.lt
  obtain ⟨es, clock, he, h1⟩ := h
  exact ⟨es, clock, (hb.block r hlt).trans he, h1⟩

theorem isKeys {es : Array MapEntry} {ds : List ByteArray} (h : es.toList.map (·.key) = ds.map Value.string) : ∀ x ∈ es.toList, MapKept.IsKey .string x.key := by
  intro x hx
  have : x.key ∈ ds.map Value.string := by rw [← h]; exact List.mem_map.2 ⟨x, hx, rfl⟩
  obtain ⟨s, _, e⟩ := List.mem_map.1 this
  rw [← e]
  trivial

theorem key_mem {es : Array MapEntry} {ds : List ByteArray} (h : es.toList.map (·.key) = ds.map Value.string) (k : ByteArray) : (∃ x ∈ es.toList, x.key = .string k) ↔ k ∈ ds := by
  have : (∃ x ∈ es.toList, x.key = .string k) ↔ Value.string k ∈ es.toList.map (·.key) := by simp [List.mem_map]
  rw [this, h]
  simp [List.mem_map]

theorem MapAt.look {w : World} {r : Nat} {ds : List ByteArray} {v : Value} (h : MapAt w r ds v) (t : ByteArray) :
    (Instr.lookup 39 (.map (some r)) (.string t) true).run Tryd.prog w = .ok (.tuple #[if hasKey ds t then v else .nilIface, .bool (hasKey ds t)]) w := by
  obtain ⟨es, clock, hb, hk, hv⟩ := h
  have hz : (zeroValue 20).run Tryd.prog w = .ok .nilIface w := by kernel_rfl
  have hck := MapKept.run_checkKey (P := Tryd.prog) (w := w) (kt := 9) (d := .string) (k := .string t) Tryd.underlying9 trivial es.isEmpty 9999
  rcases MapKept.findNow_spec (d := .string) (k := .string t) trivial es.toList 0 (isKeys hk) with ⟨h1, h2⟩ | ⟨j, e, h1, h2, h3⟩
  · have hno : hasKey ds t = false := by
      cases hc : hasKey ds t with
      | false => rfl
      | true =>
        obtain ⟨x, hx, hxe⟩ := (key_mem hk t).2 ((hasKey_iff ds t).1 hc)
        exact absurd hxe (h2 x hx)
    have hf := MapKept.run_findKey (P := Tryd.prog) (w := w) (kt := 9) Tryd.underlying9 h1
    simp at hck
    simp [Instr.lookup, run_underlying Tryd.underlying39, MapKept.run_getObj_map hb, hck, hf, hz, hno, Result.andThen]
  · have hyes : hasKey ds t = true := by
      rw [hasKey_iff]
      exact (key_mem hk t).1 ⟨e, List.mem_of_getElem? h2, h3⟩
    have hf := MapKept.run_findKey (P := Tryd.prog) (w := w) (kt := 9) Tryd.underlying9 h1
    simp at hf
    simp at hck
    have hev := hv e (List.mem_of_getElem? h2)
    simp [Instr.lookup, run_underlying Tryd.underlying39, MapKept.run_getObj_map hb, hck, hf, hyes, hev, Result.andThen]

theorem below_put {B : Nat} {w W : World} {r : Nat} {o : Obj} (h : Below B W w) (hB : B ≤ r) : Below B W { w with heap := w.heap.setIfInBounds r o } :=
  ⟨h.os, h.tape, h.output, by simpa using h.size, fun k hk => by
    have : r ≠ k := by omega
    simp [this]
    exact h.block k hk⟩

theorem MapAt.update {w W : World} {r B : Nat} {ds : List ByteArray} {v : Value} (h : MapAt w r ds v) (k : ByteArray) (hB : B ≤ r) (hbel : Below B W w) :
    ∃ w', (Instr.mapUpdate 39 (.map (some r)) (.string k) v).run Tryd.prog w = .ok () w' ∧ MapAt w' r (addKey ds k) v ∧ Below B W w' := by
  obtain ⟨es, clock, hb, hk, hv⟩ := h
  have hck := MapKept.run_checkKey (P := Tryd.prog) (w := w) (kt := 9) (d := .string) (k := .string k) Tryd.underlying9 trivial false 9999
  simp at hck
  rcases MapKept.findNow_spec (d := .string) (k := .string k) trivial es.toList 0 (isKeys hk) with ⟨h1, h2⟩ | ⟨j, e, h1, h2, h3⟩
  · have hno : hasKey ds k = false := by
      cases hc : hasKey ds k with
      | false => rfl
      | true =>
        obtain ⟨x, hx, hxe⟩ := (key_mem hk k).2 ((hasKey_iff ds k).1 hc)
        exact absurd hxe (h2 x hx)
    have hf := MapKept.run_findKey (P := Tryd.prog) (w := w) (kt := 9) Tryd.underlying9 h1
    refine ⟨_, by simp [Instr.mapUpdate, run_underlying Tryd.underlying39, MapKept.run_getObj_map hb, hck, hf, MapKept.run_setObj_map _ hb, Result.andThen]; rfl, ⟨_, _, (MapKept.heap_set hb).1, ?_, ?_⟩, below_put hbel hB⟩
    · simp [addKey, hno, ← hk]
    · intro x hx
      simp only [Array.toList_push, List.mem_append, List.mem_singleton] at hx
      rcases hx with hx | rfl
      · exact hv x hx
      · rfl
  · have hyes : hasKey ds k = true := by
      rw [hasKey_iff]
      exact (key_mem hk k).1 ⟨e, List.mem_of_getElem? h2, h3⟩
    have hf := MapKept.run_findKey (P := Tryd.prog) (w := w) (kt := 9) Tryd.underlying9 h1
    simp at hf
    have hj : es[j]? = some e := by simpa using h2
    have hst := MapKept.run_keyThatStays (P := Tryd.prog) (w := w) (d := .string) (k := .string k) trivial
    refine ⟨_, by simp [Instr.mapUpdate, run_underlying Tryd.underlying39, MapKept.run_getObj_map hb, hck, hf, hj, h3, hst, MapKept.run_setObj_map _ hb, Result.andThen]; rfl, ⟨_, _, (MapKept.heap_set hb).1, ?_, ?_⟩, below_put hbel hB⟩
    · rw [MapKept.modify_keys j _ (fun e' he' => by rw [hj] at he'; cases he'; exact h3.symm)]
      simp [addKey, hyes, hk]
    · intro x hx
      obtain ⟨i, hi⟩ := List.mem_iff_getElem?.1 hx
      simp at hi
      by_cases hij : j = i
      · simp [hij] at hi
        obtain ⟨y, _, rfl⟩ := hi
        rfl
      · simp [hij] at hi
        exact hv x (List.mem_of_getElem? (i := i) (by simpa using hi))

theorem MapAt.size {w : World} {r : Nat} {ds : List ByteArray} {v : Value} (h : MapAt w r ds v) : ∃ es clock, w.heap[r]? = some (.map es clock) ∧ es.size = ds.length := by
  obtain ⟨es, clock, hb, hk, hv⟩ := h
  refine ⟨es, clock, hb, ?_⟩
  have := congrArg List.length hk
  simpa using this

theorem run_make39 (n : Int) (w : World) : (Instr.makeMap 39 (some (.int .i64 n))).run Tryd.prog w = .ok (.map (some w.heap.size)) (w.alloc (.map #[] 0)) := by
  simp [Instr.makeMap, run_underlying Tryd.underlying39, asInt, asIntOf, Result.andThen]

theorem MapAt.new (w : World) (v : Value) : MapAt (w.alloc (.map #[] 0)) w.heap.size [] v :=
  ⟨#[], 0, (MapKept.heap_alloc w _).1, rfl, fun e he => by simp at he⟩
end Go.Proofs.Qxb6626079aDoor
