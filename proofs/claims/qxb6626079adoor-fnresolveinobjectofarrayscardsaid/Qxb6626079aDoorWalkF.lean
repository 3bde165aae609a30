import Derived.Test.Qxb6626079aDoorWalkE
namespace Go.Proofs.Qxb6626079aDoor
open Go.RowKit

/-- What zzJpB1Out hands out of an answer of Resolve; 'sz': how many members the object has. -/
def outOf (n sz : Nat) : Option (Option (Option ByteArray)) → Int × ByteArray × Int × Bool
  | none => (0, ⟨#[]⟩, 0, false)
  | some none => (3, ⟨#[]⟩, sz, true)
  | some (some none) => (2, ⟨#[]⟩, n, true)
  | some (some (some s)) => (1, s, 0, true)

def RaEnd (w : World) (x : Int × ByteArray × Int × Bool) (e : Ending) (w' : World) : Prop :=
  ∃ (k : Int) (s : ByteArray) (m : Int) (ok : Bool), e = .returned (.tuple #[.int .i64 k, .string s, .int .i64 m, .bool ok]) ∧ Below w.heap.size w w' ∧ x = (k, s, m, ok)

/-- The array never leads back to the object. -/
theorem run_arr (ks es : List ByteArray) : ∀ (ps : List ByteArray) (o : Option ByteArray), ndRun ks es (some o) ps ≠ some none
  | [], o => by simp [ndRun]
  | t :: ts, none => by
    simp only [ndRun, ndStep]
    cases aIdx t.data.toList with
    | none => simp
    | some i =>
      simp only [Option.bind_some]
      cases es[i]? with
      | none => simp
      | some s => simpa using run_arr ks es ts (some s)
  | t :: ts, some s => by simp [ndRun, ndStep]

set_option maxHeartbeats 2000000 in
theorem resInArray_any (a c : Option Addr) (lp cp le ce : Nat) (ps es : List ByteArray) (te : TypeId) (pe : Value) (w : World) (hp : StrsAt w a ps) (hlp : Hid (ps.length = lp)) (hsh : Hid (Short ps))
    (he : StrsAt w c es) (hle : Hid (es.length = le)) (hnb : le ≤ 65536) (hv : w.cell? ⟨1, 0, none⟩ = some (.iface te pe)) :
    Calls Tryd.prog 7 #[.slice a lp cp, .slice c le ce] w fun e w' => RaEnd w (outOf le 0 (ndRun [] es (some none) ps)) e w' := by
  have HV : Hid (w.cell? ⟨1, 0, none⟩ = some (.iface te pe)) := hv
  have h1 : 1 < w.heap.size := World.block_lt_of_cell? w _ hv
  have HP : Hid (StrsAt w a ps) := hp
  have HE : Hid (StrsAt w c es) := he
  clear hv hp he
  go_enter Tryd.func7, Tryd.ntmps7
  go_wp2_with fail
  refine (array_any c le ce es w HE.out hle hnb).mono ?_
  rintro e w1 ⟨rfl, harr, hb1⟩
  have HARR : Hid (ArrAt w1 w.heap.size es) := harr
  have HB1 : Hid (Below w.heap.size w w1) := hb1
  clear harr hb1
  go_wp2_with fail
  refine (resolve_any a lp cp 0 w.heap.size le ps [] es (some none) te pe w1 (HP.out.below HB1.out) hlp hsh HARR.out hle (fun h => by cases h) ((HB1.out.cell (p := ⟨1, 0, none⟩) h1).trans HV.out)).mono ?_
  rintro e w2 ⟨v, ok, rfl, hb2, hres⟩
  have HB2 : Hid (Below w.heap.size w w2) := HB1.out.trans (hb2.mono HB1.out.size)
  clear hb2
  match hrun : ndRun [] es (some none) ps, hres with
  | none, hres =>
    obtain ⟨rfl, rfl⟩ := hres
    go_wp2_with fail
    refine (out_nil false w2).mono ?_
    rintro e w3 ⟨rfl, hw3⟩
    subst hw3
    go_wp2
    exact bodyPost_ret (v := .tuple #[.int .i64 0, .string ⟨#[]⟩, .int .i64 0, .bool false]) (by simp [results, Tryd.results7, go_sem]) rfl ⟨_, _, _, _, rfl, HB2.out, by rw [hrun]; rfl⟩
  | some none, hres => exact absurd hrun (run_arr [] es ps none)
  | some (some none), hres =>
    obtain ⟨rfl, rfl⟩ := hres
    rw [show ndVal 0 w.heap.size le (some none) = .iface 36 (.slice (some ⟨w.heap.size, 0, none⟩) le le) from rfl]
    go_wp2_with fail
    refine (out_arr _ le le true w2).mono ?_
    rintro e w3 ⟨rfl, hw3⟩
    subst hw3
    go_wp2
    exact bodyPost_ret (v := .tuple #[.int .i64 2, .string ⟨#[]⟩, .int .i64 le, .bool true]) (by simp [results, Tryd.results7, go_sem]) rfl ⟨_, _, _, _, rfl, HB2.out, by rw [hrun]; rfl⟩
  | some (some (some s)), hres =>
    obtain ⟨rfl, rfl⟩ := hres
    rw [show ndVal 0 w.heap.size le (some (some s)) = .iface 9 (.string s) from rfl]
    go_wp2_with fail
    refine (out_str s true w2).mono ?_
    rintro e w3 ⟨rfl, hw3⟩
    subst hw3
    go_wp2
    exact bodyPost_ret (v := .tuple #[.int .i64 1, .string s, .int .i64 0, .bool true]) (by simp [results, Tryd.results7, go_sem]) rfl ⟨_, _, _, _, rfl, HB2.out, by rw [hrun]; rfl⟩
end Go.Proofs.Qxb6626079aDoor
