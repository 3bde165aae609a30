import Derived.Test.Qxb6626079aDoorBase
import Derived.Laws.IdiomStrings
namespace Go.Proofs.Qxb6626079aDoor
open Go.RowKit

def zeros42 : Array Value := Array.replicate 24 (.int .u8 0)
theorem zero42 (w : World) : (zeroValue 42).run Tryd.prog w = .ok (.agg zeros42) w := by kernel_rfl

/-- zzJpB1Itoa's array, when the digits 'acc' stand at its end. -/
def Digs (wr : World) (B : Nat) (acc : List UInt8) : Prop :=
  ∃ cur : Array Value, wr.heap[B]? = some (.cells cur 42 (0, 0)) ∧ cur.size = 24 ∧ acc.length ≤ 24 ∧ ∀ j c, acc[j]? = some c → cur[24 - acc.length + j]? = some (.int .u8 (c.toNat : Int))

theorem Digs.cell {wr : World} {B : Nat} {acc : List UInt8} (h : Digs wr B acc) {j : Nat} (hj : j < 24) : ∃ v, wr.cell? ⟨B, j, none⟩ = some v := by
  obtain ⟨cur, hh, hs, _, _⟩ := h
  exact ⟨cur[j], by rw [cell_of_row wr B j cur 42 (0, 0) hh]; exact Array.getElem?_eq_getElem (by omega)⟩
theorem Digs.frozen {wr : World} {B : Nat} {acc : List UInt8} (h : Digs wr B acc) (j : Nat) : wr.frozen? ⟨B, j, none⟩ = false := by
  obtain ⟨cur, hh, _⟩ := h
  exact frozen_of_row wr B j cur 42 hh
theorem Digs.next {wr : World} {B : Nat} {acc : List UInt8} (h : Digs wr B acc) (hl : acc.length < 24) {c : UInt8} {k : Nat} {v : Int} (hk : k + 1 + acc.length = 24) (hv : v = (c.toNat : Int)) : Digs (wr.setCell ⟨B, k, none⟩ (.int .u8 v)) B (c :: acc) := by
  subst hv
  obtain ⟨cur, hh, hs, _, hc⟩ := h
  refine ⟨cur.setIfInBounds k (.int .u8 (c.toNat : Int)), heap_setCell_same wr B k cur 42 _ hh, by simpa using hs, by simp; omega, fun j d hd => ?_⟩
  cases j with
  | zero =>
    simp at hd
    subst hd
    rw [List.length_cons, show 24 - (acc.length + 1) + 0 = k by omega, Array.getElem?_setIfInBounds_self]
    have : k < cur.size := by omega
    simp [this]
  | succ j =>
    rw [List.length_cons, show 24 - (acc.length + 1) + (j + 1) = 24 - acc.length + j by omega, Array.getElem?_setIfInBounds_ne (by omega)]
    exact hc j d (by simpa using hd)
theorem Digs.read {wr : World} {B : Nat} {acc : List UInt8} (h : Digs wr B acc) {k : Nat} (hk : k + acc.length = 24) : ∀ j (hj : j < acc.length), wr.cell? ((⟨B, k, none⟩ : Addr).add j) = some (.int .u8 (acc[j].toNat : Int)) := by
  obtain ⟨cur, hh, hs, _, hc⟩ := h
  intro j hj
  rw [Addr.add_lit, cell_of_row wr B _ cur 42 (0, 0) hh]
  have := hc j acc[j] (List.getElem?_eq_getElem hj)
  rwa [show 24 - acc.length + j = k + j by omega] at this

def StrEnd (w : World) (l : List UInt8) (e : Ending) (w' : World) : Prop := e = .returned (.string ⟨l.toArray⟩) ∧ Below w.heap.size w w'

set_option maxHeartbeats 1000000 in
theorem itoa_any (n : Nat) (hn : n ≤ 65536) (w : World) :
    Calls Tryd.prog 16 #[.int .i64 n] w fun e w' => StrEnd w (decOf n) e w' := by
  by_cases h0 : n = 0
  · subst h0
    go_enter Tryd.func16, Tryd.ntmps16
    go_wp2
    go_ret
    exact ⟨rfl, Below.refl _ _⟩
  have hne : ((n : Int) == 0) = false := by simpa using h0
  have hz := zero42
  go_enter Tryd.func16, Tryd.ntmps16
  go_wp2
  clear hz
  have R0 : Digs (w.alloc (.cells zeros42 42)) w.heap.size [] := ⟨zeros42, heap_alloc_new w _, by simp [zeros42], by simp, fun j c hc => by simp at hc⟩
  go_loopw [0, 4] (fun i k wr => ∃ (m q : Nat) (acc : List UInt8), i = .int .i64 m ∧ k = .int .i64 q ∧ m ≤ 65536 ∧ q ≤ 24 ∧ Digs wr w.heap.size acc ∧ Hid (q + acc.length = 24) ∧ Hid (m < 10 ^ q ∧ decGo q m acc = decOf n) ∧ Below w.heap.size w wr) (fun i _ _ => (intOf i).toNat)
  case atStart => exact ⟨n, 24, [], rfl, rfl, hn, by omega, R0, rfl, ⟨by omega, by simp [decOf, h0]⟩, (Below.refl _ _).alloc (Nat.le_refl _) _⟩
  case round =>
    obtain ⟨m, q, acc, rfl, rfl, hm, hq, hd, hql, hgo, hbel⟩ := hrel
    clear R0
    by_cases hm0 : 0 < m
    · have hq0 : 1 ≤ q := by
        apply Nat.pos_of_ne_zero
        intro e
        have := hgo.out.1
        rw [e] at this
        simp at this
        omega
      obtain ⟨v0, o0⟩ := hd.cell (j := q - 1) (by omega)
      have f0 := hd.frozen (q - 1)
      have HD : Hid (Digs wr w.heap.size acc) := hd
      have hm0' : (0 : Int) < (m : Int) := by omega
      clear hd
      obtain ⟨q', rfl⟩ : ∃ q', q = q' + 1 := ⟨q - 1, by omega⟩
      simp only [Nat.add_sub_cancel] at o0 f0
      go_wp2
      go_roundw
      case rel =>
        refine ⟨m / 10, q', UInt8.ofNat (48 + m % 10) :: acc, by go_num, rfl, by omega, by omega, HD.out.next (by have := hql.out; omega) (by have := hql.out; omega) (by rw [dig_toNat]; omega), ?_, ⟨?_, ?_⟩, hbel.setCell (p := ⟨w.heap.size, q', none⟩) (Nat.le_refl _) _⟩
        · have := hql.out
          show q' + (acc.length + 1) = 24
          omega
        · have := hgo.out.1
          rw [Nat.pow_succ] at this
          omega
        · have := hgo.out.2
          unfold decGo at this
          rwa [if_neg (by omega)] at this
      case measure => simp [intOf]; omega
    · have hm00 : m = 0 := by omega
      subst hm00
      have hacc : acc = decOf n := by
        have := hgo.out.2
        cases q with
        | zero => exact this
        | succ q => simpa [decGo] using this
      have hpos : 0 < acc.length := by
        rw [hacc]
        have hc := decOf_canon n (by omega)
        cases hdd : decOf n with
        | nil => rw [hdd] at hc; cases hc
        | cons x y => simp
      have hq23 : q < 24 := by have := hql.out; omega
      have hl : acc.length = 24 - q := by have := hql.out; omega
      have hconv := run_convert_bytes_back (P := Tryd.prog) wr 43 9 5 ⟨w.heap.size, q, none⟩ (24 - q) acc Tryd.underlying43 Tryd.underlying5 Tryd.underlying9 (hd.read hql.out)
      rw [hl] at hconv
      have HACC : Hid (acc = decOf n) := hacc
      have hsl : ∀ w0 : World, (Instr.sliceAt 42 (.pointer (some ⟨w.heap.size, 0, none⟩)) (some (.int .i64 (q : Int))) none none).run Tryd.prog w0 = .ok (.slice (some ⟨w.heap.size, q, none⟩) (24 - q) (24 - q)) w0 := by
        intro w0
        have h24 : Tryd.prog.arrayLen 42 = 24 := by kernel_rfl
        rw [run_sliceAt_array_l (P := Tryd.prog) w0 42 ⟨w.heap.size, 0, none⟩ (by kernel_rfl) .i64 (q : Int) (by omega) (by rw [h24]; omega), h24]
        have hs : (sizeOf (Tryd.prog.elem 42)).run Tryd.prog w0 = .ok 1 w0 := by kernel_rfl
        rw [hs]
        simp only [Result.andThen, slicedAt, Int.toNat_natCast, Nat.mul_one]
        rw [if_neg (by omega), Addr.add_lit, Nat.zero_add]
      clear hacc hl hd
      go_wp2
      go_ret
      refine ⟨?_, hbel⟩
      rw [← HACC.out]
      rfl

/-! zzJpB1IndexOf -/
def IdxEnd (w : World) (tok : ByteArray) (n : Nat) (e : Ending) (w' : World) : Prop :=
  ∃ r : Int, e = .returned (.int .i64 r) ∧ Below w.heap.size w w' ∧ ((r = -1 ∧ ∀ i, i < n → decOf i ≠ tok.data.toList) ∨ ∃ i : Nat, i < n ∧ r = (i : Int) ∧ decOf i = tok.data.toList)

theorem eq_list (l : List UInt8) (t : ByteArray) : (l == t.toList) = decide (l = t.data.toList) := by
  rw [ByteArray.toList_eq]
  by_cases h : l = t.data.toList <;> simp [h]

set_option maxHeartbeats 1000000 in
theorem indexOf_any (tok : ByteArray) (n : Nat) (hn : n ≤ 65536) (w : World) :
    Calls Tryd.prog 8 #[.string tok, .int .i64 n] w fun e w' => IdxEnd w tok n e w' := by
  go_enter Tryd.func8, Tryd.ntmps8
  go_wp2
  go_loopw [5] (fun i wr => ∃ (k : Nat), k ≤ n ∧ i = .int .i64 k ∧ Below w.heap.size w wr ∧ Hid (∀ i, i < k → decOf i ≠ tok.data.toList)) (fun i _ => n - (intOf i).toNat)
  case atStart => exact ⟨0, Nat.zero_le _, rfl, Below.refl _ _, fun i hi => by omega⟩
  case round =>
    obtain ⟨k, hk, rfl, hbel, hno⟩ := hrel
    by_cases hlt : k < n
    · go_wp2_with fail
      refine (itoa_any k (by omega) wr).mono ?_
      rintro e w1 ⟨rfl, hb1⟩
      have hb : Below w.heap.size w w1 := hbel.trans (hb1.mono hbel.size)
      clear hb1 hbel
      by_cases hd : decOf k = tok.data.toList
      · have heq : (decOf k == tok.toList) = true := by rw [eq_list]; simp [hd]
        have HD : Hid (decOf k = tok.data.toList) := hd
        clear hd
        go_wp2
        go_ret
        exact ⟨_, rfl, hb, Or.inr ⟨k, hlt, rfl, HD.out⟩⟩
      · have heq : (decOf k == tok.toList) = false := by rw [eq_list]; simp [hd]
        have HD : Hid (¬ decOf k = tok.data.toList) := hd
        clear hd
        go_wp2
        go_roundw
        case rel =>
          refine ⟨k + 1, by omega, by go_num, hb, fun i hi => ?_⟩
          by_cases e : i = k
          · subst e
            exact HD.out
          · exact hno.out i (by omega)
        case measure => simp [intOf]; omega
    · go_wp2
      go_ret
      exact ⟨_, rfl, hbel, Or.inl ⟨rfl, fun i hi => hno.out i (by omega)⟩⟩
end Go.Proofs.Qxb6626079aDoor
