import Derived.Test.Qxb6625794aWalkC
import Derived.Deep.RegionLaw
namespace Go.Proofs.Qxb6625794a
open Go.RowKit

/-- Block r of the world becomes o. -/
def putObj (w : World) (r : Nat) (o : Obj) : World := { w with heap := w.heap.setIfInBounds r o }

/-- The table's map, its one owner n with the slice v. -/
def oneMap (n : Int) (v : Value) : Obj := .map #[⟨.int .i64 n, v, 0⟩] 1

theorem run_check (e : Bool) (n : Int) (w : World) : (Instr.checkKey e 10000 3 (.int .i64 n)).run Try.prog w = .ok () w :=
  MapKept.run_checkKey (k := .int .i64 n) Try.underlying3 (by simp [MapKept.IsKey]) e 9999

theorem run_keep (n : Int) (w : World) : (Instr.keyThatStays (.int .i64 n) (.int .i64 n)).run Try.prog w = .ok (.int .i64 n) w := by
  have h : Instr.sameBits 10000 (.int .i64 n) (.int .i64 n) = true := by
    show Instr.sameBits (9999 + 1) (.int .i64 n) (.int .i64 n) = true
    unfold Instr.sameBits
    simp
  simp [Instr.keyThatStays, h]

theorem set_last (h : Array Obj) (x y : Obj) : (h.push x).setIfInBounds h.size y = h.push y := by
  apply Array.ext'
  simp

theorem run_first (n : Int) (v : Value) (w : World) :
    (Instr.mapUpdate 40 (.map (some w.heap.size)) (.int .i64 n) v).run Try.prog (w.alloc (.map #[] 0)) = .ok () (w.alloc (oneMap n v)) := by
  have hb : (w.alloc (.map #[] 0)).heap[w.heap.size]? = some (.map #[] 0) := heap_alloc_new w _
  have hf : Instr.findNow (.int .i64) (.int .i64 n) ([] : List MapEntry) 0 = some none := rfl
  simp [Instr.mapUpdate, run_underlying Try.underlying40, MapKept.run_getObj_map hb, run_check, MapKept.run_findKey Try.underlying3 hf, MapKept.run_setObj_map _ hb, Result.andThen]
  show World.mk ((w.heap.push (.map #[] 0)).setIfInBounds w.heap.size (oneMap n v)) _ _ _ _ = World.mk (w.heap.push (oneMap n v)) _ _ _ _
  congr 1
  exact set_last _ _ _

theorem find_one (n : Int) (v : Value) : Instr.findNow (.int .i64) (.int .i64 n) (#[⟨.int .i64 n, v, 0⟩] : Array MapEntry).toList 0 = some (some (0, v)) := by
  simp [Instr.findNow, Instr.sameNow]

theorem run_again (n : Int) (u v : Value) (w : World) (r : Nat) (h : w.heap[r]? = some (oneMap n u)) :
    (Instr.mapUpdate 40 (.map (some r)) (.int .i64 n) v).run Try.prog w = .ok () (putObj w r (oneMap n v)) := by
  unfold oneMap at h
  have hf := MapKept.run_findKey (P := Try.prog) (w := w) Try.underlying3 (find_one n u)
  simp at hf
  simp [Instr.mapUpdate, run_underlying Try.underlying40, MapKept.run_getObj_map h, run_check, hf, MapKept.run_setObj_map _ h, run_keep, Result.andThen, putObj, oneMap]

theorem run_look (n : Int) (v : Value) (w : World) (r : Nat) (h : w.heap[r]? = some (oneMap n v)) :
    (Instr.lookup 40 (.map (some r)) (.int .i64 n) false).run Try.prog w = .ok v w := by
  unfold oneMap at h
  have hf := MapKept.run_findKey (P := Try.prog) (w := w) Try.underlying3 (find_one n v)
  simp at hf
  simp [Instr.lookup, run_underlying Try.underlying40, MapKept.run_getObj_map h, run_check, hf, Result.andThen]

theorem run_look_ok (n : Int) (v : Value) (w : World) (r : Nat) (h : w.heap[r]? = some (oneMap n v)) :
    (Instr.lookup 40 (.map (some r)) (.int .i64 n) true).run Try.prog w = .ok (.tuple #[v, .bool true]) w := by
  unfold oneMap at h
  have hf := MapKept.run_findKey (P := Try.prog) (w := w) Try.underlying3 (find_one n v)
  simp at hf
  simp [Instr.lookup, run_underlying Try.underlying40, MapKept.run_getObj_map h, run_check, hf, Result.andThen]


def theTable (r : Nat) : Obj := .cells #[.map none, .map (some r), .map none, .int .u64 0] 45

set_option maxHeartbeats 400000 in
theorem newTable_any (n : Int) (g l c : Nat) (w : World) :
    Calls Try.prog 10 #[.int .i64 n, .slice (some ⟨g, 0, none⟩) l c] w fun e w' => e = .returned (.pointer (some ⟨w.heap.size + 1, 0, none⟩)) ∧ w' = (w.alloc (oneMap n (.slice (some ⟨g, 0, none⟩) l c))).alloc (theTable w.heap.size) := by
  have hmm := @run_makeMap Try.prog
  have hup := run_first
  go_enter Try.func10, Try.ntmps10
  go_wp2
  go_ret
  exact ⟨rfl, rfl⟩

set_option maxHeartbeats 400000 in
theorem hasOwner_any (n : Int) (g l c : Nat) (T r : Nat) (w : World) (ht : w.cell? ⟨T, 1, none⟩ = some (.map (some r))) (hr : w.heap[r]? = some (oneMap n (.slice (some ⟨g, 0, none⟩) l c))) :
    Calls Try.prog 12 #[.pointer (some ⟨T, 0, none⟩), .int .i64 n] w fun e w' => e = .returned (.bool true) ∧ w' = w := by
  have hl := run_look_ok n _ w r hr
  clear hr
  go_enter Try.func12, Try.ntmps12
  go_wp2
  go_ret
  exact ⟨rfl, rfl⟩

set_option maxHeartbeats 400000 in
theorem objects_any (n : Int) (g l c : Nat) (T r : Nat) (w : World) (ht : w.cell? ⟨T, 1, none⟩ = some (.map (some r))) (hr : w.heap[r]? = some (oneMap n (.slice (some ⟨g, 0, none⟩) l c))) :
    Calls Try.prog 14 #[.pointer (some ⟨T, 0, none⟩), .int .i64 n] w fun e w' => e = .returned (.slice (some ⟨g, 0, none⟩) l c) ∧ w' = w := by
  have hl := run_look n _ w r hr
  clear hr
  go_enter Try.func14, Try.ntmps14
  go_wp2
  go_ret
  exact ⟨rfl, rfl⟩

end Go.Proofs.Qxb6625794a
