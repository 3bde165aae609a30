import Derived.Test.Qxb6626079aDoorBase
namespace Go.Proofs.Qxb6626079aDoor
open Go.RowKit

theorem info20 : (Tryd.prog.info? 20).map (fun i => (i.zero, i.size, i.bytes)) = some (some .nilIface, 1, 16) := by kernel_rfl
theorem info9 : (Tryd.prog.info? 9).map (fun i => (i.zero, i.size, i.bytes)) = some (some (.string ByteArray.empty), 1, 16) := by kernel_rfl

def anyOf (s : ByteArray) : Value := .iface 9 (.string s)

/-- The JSON array of the strings es lies at block g. -/
def ArrAt (w : World) (g : Nat) (es : List ByteArray) : Prop := g < w.heap.size ∧ ∀ i s, es[i]? = some s → w.cell? ⟨g, i, none⟩ = some (anyOf s)

theorem ArrAt.below {w w' : World} {g : Nat} {es : List ByteArray} (h : ArrAt w g es) (hb : Below w.heap.size w w') : ArrAt w' g es :=
  ⟨Nat.lt_of_lt_of_le h.1 hb.size, fun i s hi => (hb.cell (p := ⟨g, i, none⟩) h.1).trans (h.2 i s hi)⟩

def ArrEnd (w : World) (n : Nat) (es : List ByteArray) (e : Ending) (w' : World) : Prop :=
  e = .returned (.slice (some ⟨w.heap.size, 0, none⟩) n n) ∧ ArrAt w' w.heap.size es ∧ Below w.heap.size w w'

theorem stored_any {w : World} {B g n k : Nat} {xs : List Value} {es : List ByteArray} {s : ByteArray} (h : w.ownsRow B 20 1 (.slice (some ⟨g, 0, none⟩) n n) n xs) (hk : k < n) (hz : es[k]? = some s) (hx : xs.take k = (es.take k).map anyOf) (hB : B ≤ g) (W : World) (hb : Below B W w) :
    ∃ xs', (w.setCell ⟨g, k, none⟩ (anyOf s)).ownsRow B 20 1 (.slice (some ⟨g, 0, none⟩) n n) n xs' ∧ xs'.take (k + 1) = (es.take (k + 1)).map anyOf ∧ Below B W (w.setCell ⟨g, k, none⟩ (anyOf s)) := by
  obtain ⟨h1, g1⟩ := h.stored k (anyOf s)
  refine ⟨_, h1, ?_, hb.setCell (p := ⟨g, k, none⟩) hB _⟩
  have hl := h.1
  rw [take_next hz, List.map_append, ← hx]
  apply List.ext_getElem?
  intro j
  have hlen : (xs.take k).length = k := by rw [List.length_take]; omega
  by_cases hj : j < k
  · rw [List.getElem?_append_left (by omega), List.getElem?_take_of_lt (by omega), List.getElem?_take_of_lt hj, List.getElem?_set_ne (by omega)]
  · rw [List.getElem?_append_right (by omega), hlen]
    by_cases h0 : j = k
    · subst h0
      rw [List.getElem?_take_of_lt (by omega), List.getElem?_set_self (by omega)]
      simp
    · rw [List.getElem?_eq_none (by rw [List.length_take]; omega), List.getElem?_eq_none (by simp; omega)]

set_option maxHeartbeats 1000000 in
theorem array_any (a : Option Addr) (la ca : Nat) (es : List ByteArray) (w : World) (hp : StrsAt w a es) (hla : Hid (es.length = la)) (hsm : la ≤ 65536) :
    Calls Tryd.prog 15 #[.slice a la ca] w fun e w' => ArrEnd w la es e w' := by
  obtain ⟨i0, hi, hz0, hz1, hz2⟩ := info_parts info20
  go_enter Tryd.func15, Tryd.ntmps15
  go_wp2_with (at_make; refine wpList_make_full _ rfl _ _ 36 rfl w.heap.size 20 i0 _ 1 Tryd.underlying36 hi hz0 hz1 _ _ _ _ la rfl rfl (by omega) (by omega) (by rw [hz2]; omega) (by unfold maxLen; omega) (by omega) ?_; intro w1 hown1 hg1)
  have hb1 : Below w.heap.size w w1 := (Below.refl _ _).grown hg1 (Nat.le_refl _) (fun j hj => by cases hj)
  clear hg1
  go_loopw [10] (fun i wr => ∃ (k : Nat) (xs : List Value), k ≤ la ∧ i = .int .i64 k ∧ wr.ownsRow w.heap.size 20 1 (.slice (some ⟨w.heap.size, 0, none⟩) la la) la xs ∧ Hid (xs.take k = (es.take k).map anyOf) ∧ Below w.heap.size w wr) (fun i _ => la - (intOf i).toNat)
  case atStart => exact ⟨0, _, Nat.zero_le _, rfl, hown1, by show List.take _ _ = _; simp, hb1⟩
  case round =>
    obtain ⟨k, xs, hk, rfl, howr, hxs, hbr⟩ := hrel
    clear hown1
    by_cases hlt : k < la
    · obtain ⟨b, off, z, hzk, rfl, hb, g0⟩ := (hp.below hbr).pick (k := k) (by have := hla.out; omega)
      have hbw : b < w.heap.size := by
        obtain ⟨b', off', he, hlt', _⟩ := hp.2 (by have := hla.out; omega)
        simp at he
        omega
      obtain ⟨v0, o0⟩ : ∃ v, wr.cell? ⟨w.heap.size, k, none⟩ = some v := ⟨_, (howr.cellAt k (by omega)).trans (List.getElem?_eq_getElem (by have := howr.1; omega))⟩
      have f0 := howr.frozenAt k
      have st := stored_any (W := w) howr hlt hzk.out hxs.out (Nat.le_refl _) hbr
      have ST := (show Hid _ from st)
      clear st hp howr hxs hbr
      go_wp2
      go_roundw
      case rel =>
        obtain ⟨xs', h1, h2, h3⟩ := ST.out
        exact ⟨k + 1, xs', by omega, by go_num, h1, h2, h3⟩
      case measure => simp [intOf]; omega
    · clear hp
      go_wp2
      go_ret
      have hk' : k = la := by omega
      subst hk'
      have hx : xs = es.map anyOf := by
        have h1 := hxs.out
        rwa [List.take_of_length_le (by have := howr.1; omega), List.take_of_length_le (by have := hla.out; omega)] at h1
      rw [hx] at howr
      refine ⟨rfl, ⟨(howr.lt _ rfl).2, fun i s hi => ?_⟩, hbr⟩
      have := howr.cells (g := w.heap.size) rfl i (anyOf s) (by simp [hi])
      rwa [Addr.add_lit, Nat.zero_add] at this

/-! the type switches -/
theorem ta_nil9 (w : World) : (Instr.typeAssert .nilIface 20 9 true).run Tryd.prog w = .ok (.tuple #[.string ByteArray.empty, .bool false]) w := by kernel_rfl
theorem ta_nil36 (w : World) : (Instr.typeAssert .nilIface 20 36 true).run Tryd.prog w = .ok (.tuple #[.slice none 0 0, .bool false]) w := by kernel_rfl
theorem ta_nil39 (w : World) : (Instr.typeAssert .nilIface 20 39 true).run Tryd.prog w = .ok (.tuple #[.map none, .bool false]) w := by kernel_rfl
theorem ta_str9 (s : ByteArray) (w : World) : (Instr.typeAssert (.iface 9 (.string s)) 20 9 true).run Tryd.prog w = .ok (.tuple #[.string s, .bool true]) w := by kernel_rfl
theorem ta_str36 (s : ByteArray) (w : World) : (Instr.typeAssert (.iface 9 (.string s)) 20 36 true).run Tryd.prog w = .ok (.tuple #[.slice none 0 0, .bool false]) w := by kernel_rfl
theorem ta_str39 (s : ByteArray) (w : World) : (Instr.typeAssert (.iface 9 (.string s)) 20 39 true).run Tryd.prog w = .ok (.tuple #[.map none, .bool false]) w := by kernel_rfl
theorem ta_arr9 (a : Option Addr) (n c : Nat) (w : World) : (Instr.typeAssert (.iface 36 (.slice a n c)) 20 9 true).run Tryd.prog w = .ok (.tuple #[.string ByteArray.empty, .bool false]) w := by kernel_rfl
theorem ta_arr36 (a : Option Addr) (n c : Nat) (w : World) : (Instr.typeAssert (.iface 36 (.slice a n c)) 20 36 true).run Tryd.prog w = .ok (.tuple #[.slice a n c, .bool true]) w := by kernel_rfl
theorem ta_arr39 (a : Option Addr) (n c : Nat) (w : World) : (Instr.typeAssert (.iface 36 (.slice a n c)) 20 39 true).run Tryd.prog w = .ok (.tuple #[.map none, .bool false]) w := by kernel_rfl
theorem ta_map9 (r : Option Nat) (w : World) : (Instr.typeAssert (.iface 39 (.map r)) 20 9 true).run Tryd.prog w = .ok (.tuple #[.string ByteArray.empty, .bool false]) w := by kernel_rfl
theorem ta_map36 (r : Option Nat) (w : World) : (Instr.typeAssert (.iface 39 (.map r)) 20 36 true).run Tryd.prog w = .ok (.tuple #[.slice none 0 0, .bool false]) w := by kernel_rfl
theorem ta_map39 (r : Option Nat) (w : World) : (Instr.typeAssert (.iface 39 (.map r)) 20 39 true).run Tryd.prog w = .ok (.tuple #[.map r, .bool true]) w := by kernel_rfl

/-! zzJpB1Out -/
def OutEnd (w : World) (k : Int) (s : ByteArray) (n : Int) (ok : Bool) (e : Ending) (w' : World) : Prop := e = .returned (.tuple #[.int .i64 k, .string s, .int .i64 n, .bool ok]) ∧ w' = w

set_option maxHeartbeats 1000000 in
theorem out_nil (ok : Bool) (w : World) : Calls Tryd.prog 13 #[.nilIface, .bool ok] w fun e w' => OutEnd w 0 ⟨#[]⟩ 0 ok e w' := by
  have t1 := ta_nil9
  have t2 := ta_nil36
  have t3 := ta_nil39
  go_enter Tryd.func13, Tryd.ntmps13
  go_wp2
  exact bodyPost_ret (v := .tuple #[.int .i64 0, .string ⟨#[]⟩, .int .i64 0, .bool ok]) (by simp [results, Tryd.results13, go_sem]) rfl ⟨rfl, rfl⟩

set_option maxHeartbeats 1000000 in
theorem out_str (s : ByteArray) (ok : Bool) (w : World) : Calls Tryd.prog 13 #[.iface 9 (.string s), .bool ok] w fun e w' => OutEnd w 1 s 0 ok e w' := by
  have t1 := ta_str9
  go_enter Tryd.func13, Tryd.ntmps13
  go_wp2
  exact bodyPost_ret (v := .tuple #[.int .i64 1, .string s, .int .i64 0, .bool ok]) (by simp [results, Tryd.results13, go_sem]) rfl ⟨rfl, rfl⟩

set_option maxHeartbeats 1000000 in
theorem out_arr (a : Option Addr) (n c : Nat) (ok : Bool) (w : World) : Calls Tryd.prog 13 #[.iface 36 (.slice a n c), .bool ok] w fun e w' => OutEnd w 2 ⟨#[]⟩ n ok e w' := by
  have t1 := ta_arr9
  have t2 := ta_arr36
  go_enter Tryd.func13, Tryd.ntmps13
  go_wp2
  exact bodyPost_ret (v := .tuple #[.int .i64 2, .string ⟨#[]⟩, .int .i64 n, .bool ok]) (by simp [results, Tryd.results13, go_sem]) rfl ⟨rfl, rfl⟩
end Go.Proofs.Qxb6626079aDoor
