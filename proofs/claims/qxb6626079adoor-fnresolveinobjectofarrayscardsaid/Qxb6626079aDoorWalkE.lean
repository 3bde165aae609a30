import Derived.Test.Qxb6626079aDoorWalkC
import Derived.Test.Qxb6626079aDoorWalkD
namespace Go.Proofs.Qxb6626079aDoor
open Go.RowKit

/-- A node of the document, as Resolve meets it: 'none': the object; 'some none': the array; 'some (some s)': a string. -/
def ndVal (r g n : Nat) : Option (Option ByteArray) → Value
  | none => .iface 39 (.map (some r))
  | some none => .iface 36 (.slice (some ⟨g, 0, none⟩) n n)
  | some (some s) => .iface 9 (.string s)

/-- Is t one of the keys? -/
def hasKey (ks : List ByteArray) (t : ByteArray) : Bool := ks.any fun k => decide (k = t)

def ndStep (ks es : List ByteArray) : Option (Option ByteArray) → ByteArray → Option (Option (Option ByteArray))
  | none, t => if hasKey ks t then some (some none) else none
  | some none, t => (aIdx t.data.toList).bind fun i => (es[i]?).map fun s => some (some s)
  | some (some _), _ => none

def ndRun (ks es : List ByteArray) : Option (Option ByteArray) → List ByteArray → Option (Option (Option ByteArray))
  | nd, [] => some nd
  | nd, t :: ts => (ndStep ks es nd t).bind fun nd' => ndRun ks es nd' ts

def ResEnd (w : World) (r g n : Nat) (o : Option (Option (Option ByteArray))) (e : Ending) (w' : World) : Prop :=
  ∃ (v : Value) (ok : Bool), e = .returned (.tuple #[v, .bool ok]) ∧ Below w.heap.size w w' ∧ (match o with | some nd => v = ndVal r g n nd ∧ ok = true | none => v = .nilIface ∧ ok = false)

theorem drop_at {ps : List ByteArray} {k : Nat} {t : ByteArray} (h : ps[k]? = some t) : ps.drop k = t :: ps.drop (k + 1) := by
  obtain ⟨hk, he⟩ := List.getElem?_eq_some_iff.1 h
  rw [List.drop_eq_getElem_cons hk, he]

/-- What a look-up in the object answers. -/
def Looks (w : World) (r g n : Nat) (ks : List ByteArray) : Prop :=
  ∀ (W : World), Below w.heap.size w W → ∀ t : ByteArray, (Instr.lookup 39 (.map (some r)) (.string t) true).run Tryd.prog W = .ok (.tuple #[if hasKey ks t then .iface 36 (.slice (some ⟨g, 0, none⟩) n n) else .nilIface, .bool (hasKey ks t)]) W

set_option maxHeartbeats 2000000 in
theorem resolve_any (a : Option Addr) (lp cp r g n : Nat) (ps ks es : List ByteArray) (nd0 : Option (Option ByteArray)) (te : TypeId) (pe : Value) (w : World) (hp : StrsAt w a ps) (hlp : Hid (ps.length = lp)) (hsh : Hid (Short ps))
    (harr : ArrAt w g es) (hn : Hid (es.length = n)) (hlook : Hid (nd0 = none → Looks w r g n ks)) (hv : w.cell? ⟨1, 0, none⟩ = some (.iface te pe)) :
    Calls Tryd.prog 14 #[.slice a lp cp, ndVal r g n nd0] w fun e w' => ResEnd w r g n (ndRun ks es nd0 ps) e w' := by
  have hm := hp.1
  rw [hlp.out] at hm
  unfold maxLen at hm
  have HV : Hid (w.cell? ⟨1, 0, none⟩ = some (.iface te pe)) := hv
  have h1 : 1 < w.heap.size := World.block_lt_of_cell? w _ hv
  have HARR : Hid (ArrAt w g es) := harr
  clear hv harr
  obtain ⟨v0, hv0⟩ : ∃ v, Hid (v = ndVal r g n nd0) := ⟨_, rfl⟩
  rw [← hv0.out]
  go_enter Tryd.func14, Tryd.ntmps14
  go_wp2
  go_loopw [6, 19] (fun v i wr => ∃ (k : Nat) (nd : Option (Option ByteArray)), k ≤ lp ∧ i = .int .i64 k ∧ v = ndVal r g n nd ∧ Below w.heap.size w wr ∧ Hid (ndRun ks es nd0 ps = ndRun ks es nd (ps.drop k)) ∧ Hid (nd = none → nd0 = none)) (fun _ i _ => lp - (intOf i).toNat)
  case atStart => exact ⟨0, nd0, Nat.zero_le _, rfl, hv0.out, Below.refl _ _, rfl, fun h => h⟩
  case round =>
    obtain ⟨k, nd, hk, rfl, rfl, hbel, hrun, hnn⟩ := hrel
    by_cases hlt : k < lp
    · obtain ⟨b, off, t, htk, rfl, hb, g0⟩ := (hp.below hbel).pick (k := k) (by have := hlp.out; omega)
      have hdk := drop_at htk.out
      have HRUN : Hid (ndRun ks es nd0 ps = (ndStep ks es nd t).bind fun nd' => ndRun ks es nd' (ps.drop (k + 1))) := by
        have := hrun.out
        rw [hdk] at this
        exact this
      have hts : t.size ≤ 1048576 := hsh.out t (List.mem_of_getElem? htk.out)
      clear hp hdk hrun
      have hklp : (k : Int) < (lp : Int) := by omega
      match nd, HRUN, hnn with
      | some (some s), HRUN, hnn =>
        have t1 := ta_str39
        have t2 := ta_str36
        rw [show ndVal r g n (some (some s)) = .iface 9 (.string s) from rfl]
        go_wp2
        go_ret2
        exact ⟨_, false, rfl, hbel, by rw [HRUN.out]; exact ⟨rfl, rfl⟩⟩
      | some none, HRUN, hnn =>
        have t1 := ta_arr39
        have t2 := ta_arr36
        rw [show ndVal r g n (some none) = .iface 36 (.slice (some ⟨g, 0, none⟩) n n) from rfl]
        go_wp2_with fail
        refine (arrayIndex_any t hts te pe wr ((hbel.cell (p := ⟨1, 0, none⟩) h1).trans HV.out)).mono ?_
        rintro e w1 ⟨v, ok, rfl, hb1, hai⟩
        have hb2 : Below w.heap.size w w1 := hbel.trans (hb1.mono hbel.size)
        have HARR1 : Hid (ArrAt w1 g es) := HARR.out.below hb2
        clear hbel hb1 t1 t2
        match hix : aIdx t.data.toList, hai with
        | none, hai =>
          obtain rfl := hai
          have HIX : Hid (aIdx t.data.toList = none) := hix
          clear hix
          go_wp2
          go_ret2
          have hres : ndRun ks es nd0 ps = none := by rw [HRUN.out]; simp only [ndStep]; rw [HIX.out]; rfl
          exact ⟨_, false, rfl, hb2, by rw [hres]; exact ⟨rfl, rfl⟩⟩
        | some i, hai =>
          obtain ⟨rfl, rfl⟩ := hai
          have HIX : Hid (aIdx t.data.toList = some i) := hix
          clear hix
          by_cases hin : i < n
          · have hei : es[i]? = some (es[i]'(by have := hn.out; omega)) := List.getElem?_eq_getElem (by have := hn.out; omega)
            obtain ⟨se, hse⟩ : ∃ se, Hid (es[i]? = some se) := ⟨_, hei⟩
            clear hei
            have c0 : w1.cell? ⟨g, i, none⟩ = some (.iface 9 (.string se)) := HARR1.out.2 i se hse.out
            have hin' : (i : Int) < (n : Int) := by omega
            go_wp2
            go_roundw
            case rel =>
              refine ⟨k + 1, some (some se), by omega, by go_num, rfl, hb2, ?_, fun h => by cases h⟩
              show ndRun ks es nd0 ps = _
              rw [HRUN.out]
              simp only [ndStep]
              rw [HIX.out]
              simp only [Option.bind_some]
              rw [hse.out]
              rfl
            case measure => simp [intOf]; omega
          · have hin' : (n : Int) ≤ (i : Int) := by omega
            have hei : Hid (es[i]? = none) := List.getElem?_eq_none (by have := hn.out; omega)
            go_wp2
            go_ret2
            have hres : ndRun ks es nd0 ps = none := by
              rw [HRUN.out]
              simp only [ndStep]
              rw [HIX.out]
              simp only [Option.bind_some]
              rw [hei.out]
              rfl
            exact ⟨_, false, rfl, hb2, by rw [hres]; exact ⟨rfl, rfl⟩⟩
      | none, HRUN, hnn =>
        have t1 := ta_map39
        have hlk := hlook.out (hnn.out rfl) wr hbel t
        rw [show ndVal r g n none = .iface 39 (.map (some r)) from rfl]
        cases hc : hasKey ks t
        · rw [hc] at hlk
          simp only [Bool.false_eq_true, if_false] at hlk
          have HC : Hid (hasKey ks t = false) := hc
          clear hc
          go_wp2
          go_ret2
          have hres : ndRun ks es nd0 ps = none := by
            rw [HRUN.out]
            simp only [ndStep]
            rw [HC.out]
            rfl
          exact ⟨_, false, rfl, hbel, by rw [hres]; exact ⟨rfl, rfl⟩⟩
        · rw [hc] at hlk
          simp only [if_true] at hlk
          have HC : Hid (hasKey ks t = true) := hc
          clear hc
          go_wp2
          go_roundw
          case rel =>
            refine ⟨k + 1, some none, by omega, by go_num, rfl, hbel, ?_, fun h => by cases h⟩
            show ndRun ks es nd0 ps = _
            rw [HRUN.out]
            simp only [ndStep]
            rw [HC.out]
            rfl
          case measure => simp [intOf]; omega
    · clear hp
      go_wp2
      go_ret2
      refine ⟨_, true, rfl, hbel, ?_⟩
      have := hrun.out
      rw [List.drop_of_length_le (by have := hlp.out; omega)] at this
      rw [this]
      exact ⟨rfl, rfl⟩
end Go.Proofs.Qxb6626079aDoor
