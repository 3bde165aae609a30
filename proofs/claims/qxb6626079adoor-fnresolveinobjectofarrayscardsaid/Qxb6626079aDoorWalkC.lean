import Derived.Test.Qxb6626079aDoorBase
import Derived.Test.Qxb6626079aDoorShelf
namespace Go.Proofs.Qxb6626079aDoor
open Go.RowKit

theorem hide {p : Prop} (h : p) : Hid p := h

def AiEnd (w : World) (l : List UInt8) (e : Ending) (w' : World) : Prop :=
  ∃ (v : Int) (ok : Bool), e = .returned (.tuple #[.int .i64 v, .bool ok]) ∧ Below w.heap.size w w' ∧ (match aIdx l with | some i => ok = true ∧ v = (i : Int) | none => ok = false)

theorem list_at {s : ByteArray} {k : Nat} (h : k < s.size) : s.data.toList[k]? = some s[k] := by
  rw [List.getElem?_eq_getElem (by simpa using h)]
  rfl

theorem digs_next {s : ByteArray} {k : Nat} (h : k < s.size) (hd : (s.data.toList.take k).all isDig = true) (h1 : 48 ≤ (s[k].toNat : Int)) (h2 : (s[k].toNat : Int) ≤ 57) : (s.data.toList.take (k + 1)).all isDig = true := by
  rw [take_next (list_at h), List.all_append, hd]
  simp only [List.all_cons, List.all_nil, Bool.and_true, Bool.true_and, isDig, decide_eq_true_eq]
  omega

theorem not_dig {s : ByteArray} {k : Nat} (h : k < s.size) (hn : (s[k].toNat : Int) < 48 ∨ 57 < (s[k].toNat : Int)) : aIdx s.data.toList = none := by
  have hc : canon s.data.toList = false := by
    unfold canon
    have : s.data.toList.all isDig = false := by
      rw [List.all_eq_false]
      exact ⟨s[k], List.mem_of_getElem? (list_at h), by simp only [isDig, decide_eq_true_eq]; omega⟩
    rw [this]
    rfl
  unfold aIdx
  rw [hc]
  simp

theorem head_zero {s : ByteArray} (h : 0 < s.size) (h1 : (s[0].toNat : Int) = 48) (h2 : 1 < s.size) : aIdx s.data.toList = none := by
  have hc : canon s.data.toList = false := by
    unfold canon
    have e := list_at h
    cases hl : s.data.toList with
    | nil => rw [hl] at e; cases e
    | cons a r =>
      rw [hl] at e
      simp at e
      have hlen : (a :: r).length = s.size := by rw [← hl]; simp
      have hr : r.isEmpty = false := by
        cases r with
        | nil => simp at hlen; omega
        | cons x y => rfl
      rw [Bool.and_eq_false_iff]
      right
      show (decide (a.toNat ≠ 48) || r.isEmpty) = false
      rw [hr, e]
      simp
      omega
  unfold aIdx
  rw [hc]
  simp

theorem all_canon {s : ByteArray} (h : 0 < s.size) (hd : s.data.toList.all isDig = true) (hh : ¬ ((s[0].toNat : Int) = 48 ∧ 1 < s.size)) : canon s.data.toList = true := by
  unfold canon
  rw [hd]
  have e := list_at h
  cases hl : s.data.toList with
  | nil => rw [hl] at e; cases e
  | cons a r =>
    rw [hl] at e
    simp at e
    have hlen : (a :: r).length = s.size := by rw [← hl]; simp
    simp only [Bool.true_and, Bool.or_eq_true, decide_eq_true_eq]
    by_cases h48 : a.toNat = 48
    · right
      cases r with
      | nil => rfl
      | cons x y =>
        exfalso
        apply hh
        rw [← e]
        simp at hlen
        exact ⟨by omega, by omega⟩
    · left
      exact h48

theorem ai_ok {l : List UInt8} (hc : canon l = true) (hv : valFrom 0 l < 9223372036854775808) : aIdx l = some (valFrom 0 l) := by
  unfold aIdx
  rw [if_pos ⟨hc, hv⟩]
theorem ai_range {l : List UInt8} (hv : ¬ valFrom 0 l < 9223372036854775808) : aIdx l = none := by
  unfold aIdx
  rw [if_neg (fun h => hv h.2)]

set_option maxHeartbeats 1000000 in
theorem arrayIndex_any (s : ByteArray) (hs : s.size ≤ 1048576) (te : TypeId) (pe : Value) (w : World) (hv : w.cell? ⟨1, 0, none⟩ = some (.iface te pe)) :
    Calls Tryd.prog 17 #[.string s] w fun e w' => AiEnd w s.data.toList e w' := by
  have HV : Hid (w.cell? ⟨1, 0, none⟩ = some (.iface te pe)) := hv
  clear hv
  have hsz : Hid (s.data.toList.length = s.size) := by show s.data.toList.length = s.size; rw [Array.length_toList]; rfl
  by_cases h0 : s.size = 0
  · have hnil : s.data.toList = [] := List.eq_nil_of_length_eq_zero (by have := hsz.out; omega)
    have hes : s.toList.isEmpty = true := by rw [ByteArray.toList_eq, hnil]; rfl
    have HN : Hid (s.data.toList = []) := hnil
    clear hnil
    go_enter Tryd.func17, Tryd.ntmps17
    go_wp2
    go_ret2
    exact ⟨0, false, rfl, Below.refl _ _, by rw [HN.out]; rfl⟩
  · have hp : 0 < s.size := by omega
    have hes : s.toList.isEmpty = false := by
      rw [ByteArray.toList_eq]
      have := hsz.out
      cases hl : s.data.toList with
      | nil => rw [hl] at this; simp at this; omega
      | cons a b => rfl
    by_cases hA : (s[0].toNat : Int) = 48 ∧ 1 < s.size
    · obtain ⟨hA1, hA2⟩ := hA
      have HA : Hid (aIdx s.data.toList = none) := head_zero hp hA1 hA2
      have hA2' : (1 : Int) < (s.size : Int) := by omega
      go_enter Tryd.func17, Tryd.ntmps17
      go_wp2
      go_ret2
      exact ⟨0, false, rfl, Below.refl _ _, by rw [HA.out]⟩
    have HA : Hid (¬ ((s[0].toNat : Int) = 48 ∧ 1 < s.size)) := hA
    clear hA
    by_cases h48 : (s[0].toNat : Int) = 48
    · have hs1 : (s.size : Int) ≤ 1 := by have := HA.out; omega
      go_enter Tryd.func17, Tryd.ntmps17
      go_wp2
      clear h48
      go_loop [4] (fun i => ∃ (k : Nat), k ≤ s.size ∧ i = .int .i64 k ∧ Hid ((s.data.toList.take k).all isDig = true)) (fun i => s.size - (intOf i).toNat)
      case atStart => exact ⟨0, Nat.zero_le _, rfl, rfl⟩
      case round =>
        obtain ⟨k, hk, rfl, hdk⟩ := hrel
        by_cases hlt : k < s.size
        · by_cases hlo : (s[k].toNat : Int) < 48
          · go_wp2
            go_ret2
            exact ⟨0, false, rfl, Below.refl _ _, by rw [not_dig hlt (Or.inl hlo)]⟩
          by_cases hhi : 57 < (s[k].toNat : Int)
          · go_wp2
            go_ret2
            exact ⟨0, false, rfl, Below.refl _ _, by rw [not_dig hlt (Or.inr hhi)]⟩
          go_wp2
          go_round
          case rel => exact ⟨k + 1, by omega, by go_num, digs_next hlt hdk.out (by omega) (by omega)⟩
          case measure => simp [intOf]; omega
        · have hall : s.data.toList.all isDig = true := by
            have := hdk.out
            rwa [List.take_of_length_le (by have := hsz.out; omega)] at this
          have HCN : Hid (canon s.data.toList = true) := all_canon hp hall HA.out
          have HALL : Hid (s.data.toList.all isDig = true) := hall
          have HNE : Hid (s.data.toList ≠ []) := by intro e; have := hsz.out; rw [e] at this; simp at this; omega
          clear hall hdk
          by_cases hval : valFrom 0 s.data.toList < 9223372036854775808
          · have hat : Lib.atoiAll s.data.toList = .ok ((valFrom 0 s.data.toList : Nat) : Int) := by rw [atoi_digs HALL.out HNE.out, if_pos hval]
            have HAI : Hid (aIdx s.data.toList = some (valFrom 0 s.data.toList)) := ai_ok HCN.out hval
            have HCALL := strconv_Atoi_ok s (by omega) _ hat w
            obtain ⟨vv, hvv⟩ : ∃ vv : Int, Hid (((valFrom 0 s.data.toList : Nat) : Int) = vv) := ⟨_, rfl⟩
            rw [hvv.out] at HCALL
            have HC : Hid (Calls Tryd.prog 18 #[.string s] w fun e w' => e = .returned (.tuple #[.int .i64 vv, .nilIface]) ∧ (w' = w ∨ ∃ t, w' = Lib.bytesWorld w 5 t)) := HCALL
            clear HCALL hat hval
            go_wp2_with fail
            refine HC.out.mono ?_
            rintro e w1 ⟨rfl, hw1⟩
            have hb1 : Below w.heap.size w w1 := by
              rcases hw1 with rfl | ⟨t, rfl⟩
              · exact Below.refl _ _
              · exact Lib.bytesWorld_below w 5 t
            clear hw1
            go_wp2
            go_ret2
            exact ⟨vv, true, rfl, hb1, by rw [HAI.out]; exact ⟨rfl, hvv.out.symm⟩⟩
          · have hat : Lib.atoiAll s.data.toList = .range := by rw [atoi_digs HALL.out HNE.out, if_neg hval]
            have HAI : Hid (aIdx s.data.toList = none) := ai_range hval
            have HCALL := strconv_Atoi_range s (by omega) hat (.iface te pe) w HV.out (Or.inr ⟨_, _, rfl⟩)
            obtain ⟨vv, hvv⟩ : ∃ vv : Int, Hid (Lib.atoiSat s.data.toList = vv) := ⟨_, rfl⟩
            rw [hvv.out] at HCALL
            have HC := hide HCALL
            clear HCALL hat hval
            go_wp2_with fail
            refine HC.out.mono ?_
            rintro e w1 ⟨N, rfl, _, _, hb1⟩
            go_wp2
            go_ret2
            exact ⟨_, false, rfl, hb1, by rw [HAI.out]⟩
    · go_enter Tryd.func17, Tryd.ntmps17
      go_wp2
      clear h48
      go_loop [4] (fun i => ∃ (k : Nat), k ≤ s.size ∧ i = .int .i64 k ∧ Hid ((s.data.toList.take k).all isDig = true)) (fun i => s.size - (intOf i).toNat)
      case atStart => exact ⟨0, Nat.zero_le _, rfl, rfl⟩
      case round =>
        obtain ⟨k, hk, rfl, hdk⟩ := hrel
        by_cases hlt : k < s.size
        · by_cases hlo : (s[k].toNat : Int) < 48
          · go_wp2
            go_ret2
            exact ⟨0, false, rfl, Below.refl _ _, by rw [not_dig hlt (Or.inl hlo)]⟩
          by_cases hhi : 57 < (s[k].toNat : Int)
          · go_wp2
            go_ret2
            exact ⟨0, false, rfl, Below.refl _ _, by rw [not_dig hlt (Or.inr hhi)]⟩
          go_wp2
          go_round
          case rel => exact ⟨k + 1, by omega, by go_num, digs_next hlt hdk.out (by omega) (by omega)⟩
          case measure => simp [intOf]; omega
        · have hall : s.data.toList.all isDig = true := by
            have := hdk.out
            rwa [List.take_of_length_le (by have := hsz.out; omega)] at this
          have HCN : Hid (canon s.data.toList = true) := all_canon hp hall HA.out
          have HALL : Hid (s.data.toList.all isDig = true) := hall
          have HNE : Hid (s.data.toList ≠ []) := by intro e; have := hsz.out; rw [e] at this; simp at this; omega
          clear hall hdk
          by_cases hval : valFrom 0 s.data.toList < 9223372036854775808
          · have hat : Lib.atoiAll s.data.toList = .ok ((valFrom 0 s.data.toList : Nat) : Int) := by rw [atoi_digs HALL.out HNE.out, if_pos hval]
            have HAI : Hid (aIdx s.data.toList = some (valFrom 0 s.data.toList)) := ai_ok HCN.out hval
            have HCALL := strconv_Atoi_ok s (by omega) _ hat w
            obtain ⟨vv, hvv⟩ : ∃ vv : Int, Hid (((valFrom 0 s.data.toList : Nat) : Int) = vv) := ⟨_, rfl⟩
            rw [hvv.out] at HCALL
            have HC : Hid (Calls Tryd.prog 18 #[.string s] w fun e w' => e = .returned (.tuple #[.int .i64 vv, .nilIface]) ∧ (w' = w ∨ ∃ t, w' = Lib.bytesWorld w 5 t)) := HCALL
            clear HCALL hat hval
            go_wp2_with fail
            refine HC.out.mono ?_
            rintro e w1 ⟨rfl, hw1⟩
            have hb1 : Below w.heap.size w w1 := by
              rcases hw1 with rfl | ⟨t, rfl⟩
              · exact Below.refl _ _
              · exact Lib.bytesWorld_below w 5 t
            clear hw1
            go_wp2
            go_ret2
            exact ⟨vv, true, rfl, hb1, by rw [HAI.out]; exact ⟨rfl, hvv.out.symm⟩⟩
          · have hat : Lib.atoiAll s.data.toList = .range := by rw [atoi_digs HALL.out HNE.out, if_neg hval]
            have HAI : Hid (aIdx s.data.toList = none) := ai_range hval
            have HCALL := strconv_Atoi_range s (by omega) hat (.iface te pe) w HV.out (Or.inr ⟨_, _, rfl⟩)
            obtain ⟨vv, hvv⟩ : ∃ vv : Int, Hid (Lib.atoiSat s.data.toList = vv) := ⟨_, rfl⟩
            rw [hvv.out] at HCALL
            have HC := hide HCALL
            clear HCALL hat hval
            go_wp2_with fail
            refine HC.out.mono ?_
            rintro e w1 ⟨N, rfl, _, _, hb1⟩
            go_wp2
            go_ret2
            exact ⟨_, false, rfl, hb1, by rw [HAI.out]⟩
end Go.Proofs.Qxb6626079aDoor
