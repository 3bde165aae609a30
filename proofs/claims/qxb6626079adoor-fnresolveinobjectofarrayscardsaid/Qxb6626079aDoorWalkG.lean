import Derived.Test.Qxb6626079aDoorMap
namespace Go.Proofs.Qxb6626079aDoor
open Go.RowKit

/-! zzJpB1Has -/
def HasEnd (w : World) (ks : List ByteArray) (t : ByteArray) (e : Ending) (w' : World) : Prop := e = .returned (.bool (hasKey ks t)) ∧ w' = w

theorem hasKey_take {ks : List ByteArray} {i : Nat} {k t : ByteArray} (h : ks[i]? = some k) : hasKey (ks.take (i + 1)) t = (hasKey (ks.take i) t || decide (k = t)) := by
  rw [take_next h, hasKey_append]
  simp [hasKey]

theorem eq_strs (x y : ByteArray) : (x.toList == y.toList) = decide (x = y) := by
  by_cases h : x = y
  · simp [h]
  · have : ¬ x.toList = y.toList := fun e => h ((bytes_eq x y).1 e)
    simp [h, this]

set_option maxHeartbeats 1000000 in
theorem has_any (a : Option Addr) (la ca : Nat) (ks : List ByteArray) (t : ByteArray) (w : World) (hp : StrsAt w a ks) (hla : Hid (ks.length = la)) :
    Calls Tryd.prog 12 #[.slice a la ca, .string t] w fun e w' => HasEnd w ks t e w' := by
  have hm := hp.1
  rw [hla.out] at hm
  unfold maxLen at hm
  go_enter Tryd.func12, Tryd.ntmps12
  go_wp2
  go_loop [5] (fun i => ∃ (k : Nat), k ≤ la ∧ i = .int .i64 k ∧ Hid (hasKey (ks.take k) t = false)) (fun i => la - (intOf i).toNat)
  case atStart => exact ⟨0, Nat.zero_le _, rfl, rfl⟩
  case round =>
    obtain ⟨k, hk, rfl, hno⟩ := hrel
    by_cases hlt : k < la
    · obtain ⟨b, off, s, hps, rfl, hb, g0⟩ := hp.pick (k := k) (by have := hla.out; omega)
      clear hp
      by_cases he : s = t
      · have HY : Hid (hasKey ks t = true) := by
          subst he
          exact (hasKey_iff ks s).2 (List.mem_of_getElem? hps.out)
        have heq : (s.toList == t.toList) = true := by rw [eq_strs]; simp [he]
        clear he
        go_wp2
        go_ret
        exact ⟨by rw [HY.out]; rfl, rfl⟩
      · have heq : (s.toList == t.toList) = false := by rw [eq_strs]; simp [he]
        have HE : Hid (¬ s = t) := he
        clear he
        go_wp2
        go_round
        case rel => exact ⟨k+1, by omega, by go_num, by show _ = _; rw [hasKey_take hps.out, hno.out]; simp [HE.out]⟩
        case measure => simp [intOf]; omega
    · have HN : Hid (hasKey ks t = false) := by
        have := hno.out
        rwa [List.take_of_length_le (by have := hla.out; omega)] at this
      clear hp hno
      go_wp2
      go_ret
      exact ⟨by rw [HN.out]; rfl, rfl⟩

/-! zzJpB1Out at the object -/
theorem run_len39 (ty : TypeId) {w : World} {r : Nat} {es : Array MapEntry} {clock : Nat} (hb : w.heap[r]? = some (.map es clock)) :
    (Builtin.len_ #[39] ty #[.map (some r)]).run Tryd.prog w = .ok (.int .i64 es.size) w := by
  simp [Builtin.len_, run_underlying Tryd.underlying39, MapKept.run_getObj_map hb, Result.andThen, goInt]
set_option maxHeartbeats 1000000 in
theorem out_map (r n : Nat) (ok : Bool) (w : World) (es : Array MapEntry) (clock : Nat) (hb : w.heap[r]? = some (.map es clock)) (hn : Hid (es.size = n)) : Calls Tryd.prog 13 #[.iface 39 (.map (some r)), .bool ok] w fun e w' => OutEnd w 3 ⟨#[]⟩ n ok e w' := by
  have hl := run_len39 3 hb
  rw [hn.out] at hl
  have t1 := ta_map9
  have t2 := ta_map36
  have t3 := ta_map39
  go_enter Tryd.func13, Tryd.ntmps13
  go_wp2
  exact bodyPost_ret (v := .tuple #[.int .i64 3, .string ⟨#[]⟩, .int .i64 n, .bool ok]) (by simp [results, Tryd.results13, go_sem]) rfl ⟨rfl, rfl⟩

/-! zzJpB1Distinct -/
def DisEnd (w : World) (ks : List ByteArray) (e : Ending) (w' : World) : Prop := e = .returned (.int .i64 (distinct ks).length) ∧ Below w.heap.size w w'

theorem distinct_len (ks : List ByteArray) : (distinct ks).length ≤ ks.length := by
  have : ∀ (ks acc : List ByteArray), (ks.foldl addKey acc).length ≤ acc.length + ks.length := by
    intro ks
    induction ks with
    | nil => intro acc; simp
    | cons k ks ih =>
      intro acc
      have h1 := ih (addKey acc k)
      have h2 : (addKey acc k).length ≤ acc.length + 1 := by
        unfold addKey
        split <;> simp
      simp only [List.foldl_cons, List.length_cons]
      omega
  simpa [distinct] using this ks []

theorem distinct_seen {ks : List ByteArray} {i : Nat} {k : ByteArray} (h : ks[i]? = some k) (hs : hasKey (ks.take i) k = true) : distinct (ks.take (i + 1)) = distinct (ks.take i) := by
  rw [distinct_next h, addKey, hasKey_distinct, hs]
  rfl
theorem distinct_new {ks : List ByteArray} {i : Nat} {k : ByteArray} (h : ks[i]? = some k) (hs : hasKey (ks.take i) k = false) : (distinct (ks.take (i + 1))).length = (distinct (ks.take i)).length + 1 := by
  rw [distinct_next h, addKey, hasKey_distinct, hs]
  simp

set_option maxHeartbeats 2000000 in
theorem distinct_any (a : Option Addr) (la ca : Nat) (ks : List ByteArray) (w : World) (hp : StrsAt w a ks) (hla : Hid (ks.length = la)) :
    Calls Tryd.prog 11 #[.slice a la ca] w fun e w' => DisEnd w ks e w' := by
  have hm := hp.1
  rw [hla.out] at hm
  unfold maxLen at hm
  go_enter Tryd.func11, Tryd.ntmps11
  go_wp2
  go_loopw [3, 4] (fun c i wr => ∃ (k : Nat), k ≤ la ∧ i = .int .i64 k ∧ c = .int .i64 (distinct (ks.take k)).length ∧ Below w.heap.size w wr) (fun _ i _ => la - (intOf i).toNat)
  case atStart => exact ⟨0, Nat.zero_le _, rfl, rfl, Below.refl _ _⟩
  case round =>
    obtain ⟨k, hk, rfl, rfl, hbel⟩ := hrel
    by_cases hlt : k < la
    · obtain ⟨b, off, s, hps, rfl, hb, g0⟩ := (hp.below hbel).pick (k := k) (by have := hla.out; omega)
      have HP : Hid (StrsAt w (some ⟨b, off, none⟩) ks) := hp
      have HB : Hid (Below w.heap.size w wr) := hbel
      clear hp hbel
      have hdl : (distinct (ks.take k)).length ≤ k := by
        have := distinct_len (ks.take k)
        rw [List.length_take] at this
        omega
      have hd1 := @distinct_seen ks k s hps.out
      have hd2 := @distinct_new ks k s hps.out
      generalize hD : distinct (ks.take k) = D at *
      go_wp2
      have HD1 : Hid (hasKey (ks.take k) s = true → distinct (ks.take (k + 1)) = D) := hd1
      have HD2 : Hid (hasKey (ks.take k) s = false → (distinct (ks.take (k + 1))).length = D.length + 1) := hd2
      clear hd1 hd2 hD g0 hb
      go_loopw [5, 6] (fun z j wq => ∃ (m : Nat), m ≤ k ∧ j = .int .i64 m ∧ z = .bool false ∧ Hid (hasKey (ks.take m) s = false) ∧ Below w.heap.size w wq) (fun _ j _ => k - (intOf j).toNat)
      case atStart => exact ⟨0, Nat.zero_le _, rfl, rfl, rfl, HB.out⟩
      case round =>
        obtain ⟨m, hmk, rfl, rfl, hno, hbq⟩ := hrel
        have HQ : Hid (Below w.heap.size w wr) := hbq
        clear hbq
        have hst := HP.out.below HQ.out
        by_cases hlt2 : m < k
        · obtain ⟨b1, off1, s1, hps1, e1, hb1, g1⟩ := hst.pick (k := m) (by have := hla.out; omega)
          obtain ⟨b2, off2, s2, hps2, e2, hb2, g2⟩ := hst.pick (k := k) (by have := hla.out; omega)
          simp only [Option.some.injEq, Addr.mk.injEq, and_true] at e1 e2
          obtain ⟨rfl, rfl⟩ := e1
          obtain ⟨rfl, rfl⟩ := e2
          obtain rfl : s = s2 := by
            have h1 := hps.out
            rw [hps2.out] at h1
            exact (Option.some.inj h1).symm
          have hml : (m : Int) < (la : Int) := by omega
          have hkl : (k : Int) < (la : Int) := by omega
          clear hst
          by_cases he : s1 = s
          · have heq : (s1.toList == s.toList) = true := by rw [eq_strs]; simp [he]
            have HY : Hid (hasKey (ks.take k) s = true) := by
              refine (hasKey_iff _ s).2 ?_
              rw [← he]
              refine List.mem_of_getElem? (i := m) ?_
              rw [List.getElem?_take_of_lt hlt2]
              exact hps1.out
            clear he
            go_wp2
            go_quiet (fail)
            go_wp2
            go_roundw
            case rel => exact ⟨k + 1, by omega, by go_num, by rw [HD1.out HY.out], below_drewN HQ.out nq⟩
            case measure => simp [intOf]; omega
          · have heq : (s1.toList == s.toList) = false := by rw [eq_strs]; simp [he]
            have HE : Hid (¬ s1 = s) := he
            clear he
            go_wp2
            go_quiet (fail)
            go_wp2
            go_roundw
            case rel => exact ⟨m + 1, by omega, by go_num, rfl, by show _ = _; rw [hasKey_take hps1.out, hno.out]; simp [HE.out], below_drewN HQ.out nq⟩
            case measure => simp [intOf]; omega
        · have hmk' : m = k := by omega
          subst hmk'
          have HLEN := HD2.out hno.out
          clear hst
          go_wp2
          go_roundw
          case rel => exact ⟨m + 1, by omega, by go_num, by rw [HLEN]; go_num, HQ.out⟩
          case measure => simp [intOf]; omega
    · clear hp
      go_wp2
      go_ret
      have hk' : ks.take k = ks := List.take_of_length_le (by have := hla.out; omega)
      exact ⟨by rw [hk']; rfl, hbel⟩
end Go.Proofs.Qxb6626079aDoor
