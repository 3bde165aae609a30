import Derived.Lib.AtoiAll
namespace Go.Proofs.Qxb6626079aDoor
open Go

/-- What the digits of l spell, behind what stands before them. -/
def valFrom (a : Nat) (l : List UInt8) : Nat := l.foldl (fun a c => a * 10 + (c.toNat - 48)) a
theorem valFrom_cons (a : Nat) (c : UInt8) (l : List UInt8) : valFrom a (c :: l) = valFrom (a * 10 + (c.toNat - 48)) l := by simp only [valFrom, List.foldl_cons]
theorem valFrom_snoc (a : Nat) (c : UInt8) (l : List UInt8) : valFrom a (l ++ [c]) = valFrom a l * 10 + (c.toNat - 48) := by simp [valFrom]
theorem valFrom_le : ∀ (l : List UInt8) (a : Nat), a ≤ valFrom a l
  | [], a => Nat.le_refl _
  | c :: l, a => by
    rw [valFrom_cons]
    have := valFrom_le l (a * 10 + (c.toNat - 48))
    omega

def isDig (c : UInt8) : Bool := decide (48 ≤ c.toNat ∧ c.toNat ≤ 57)
/-- Digits alone, at least one, and no zero ahead of another. -/
def canon (l : List UInt8) : Bool := l.all isDig && (match l with | [] => false | c :: r => decide (c.toNat ≠ 48) || r.isEmpty)

/-- The decimal digits of n in front of 'acc', as zzJpB1Itoa's loop lays them. -/
def decGo : Nat → Nat → List UInt8 → List UInt8
  | 0, _, acc => acc
  | f + 1, n, acc => if n = 0 then acc else decGo f (n / 10) (UInt8.ofNat (48 + n % 10) :: acc)

/-- The canonical decimal of n. -/
def decOf (n : Nat) : List UInt8 := if n = 0 then [48] else decGo 24 n []

theorem dig_toNat (n : Nat) : (UInt8.ofNat (48 + n % 10)).toNat = 48 + n % 10 := by
  have : 48 + n % 10 < 256 := by omega
  simp [UInt8.toNat_ofNat', Nat.mod_eq_of_lt this]

theorem decGo_val : ∀ (f n : Nat) (acc : List UInt8), n < 10 ^ f → valFrom 0 (decGo f n acc) = valFrom n acc
  | 0, n, acc, h => by
    have : n = 0 := by simpa using h
    subst this
    rfl
  | f + 1, n, acc, h => by
    unfold decGo
    split
    · rename_i h0
      subst h0
      rfl
    · rw [decGo_val f (n / 10) _ (by rw [Nat.pow_succ] at h; omega), valFrom_cons, dig_toNat]
      congr 1
      omega

theorem decGo_dig : ∀ (f n : Nat) (acc : List UInt8), acc.all isDig = true → (decGo f n acc).all isDig = true
  | 0, n, acc, h => h
  | f + 1, n, acc, h => by
    unfold decGo
    split
    · exact h
    · refine decGo_dig f _ _ ?_
      simp only [List.all_cons, h, Bool.and_true, isDig, dig_toNat]
      simp
      omega

theorem decGo_head : ∀ (f n : Nat) (acc : List UInt8), 0 < n → n < 10 ^ f → ∃ c r, decGo f n acc = c :: r ∧ c.toNat ≠ 48
  | 0, n, acc, h0, h => by simp at h; omega
  | f + 1, n, acc, h0, h => by
    unfold decGo
    rw [if_neg (by omega)]
    by_cases h1 : n / 10 = 0
    · rw [h1]
      have hz : decGo f 0 (UInt8.ofNat (48 + n % 10) :: acc) = UInt8.ofNat (48 + n % 10) :: acc := by
        cases f with
        | zero => rfl
        | succ f => simp [decGo]
      rw [hz]
      exact ⟨_, _, rfl, by rw [dig_toNat]; omega⟩
    · exact decGo_head f (n / 10) _ (by omega) (by rw [Nat.pow_succ] at h; omega)

theorem decOf_val (n : Nat) (h : n < 10 ^ 24) : valFrom 0 (decOf n) = n := by
  unfold decOf
  split
  · rename_i h0
    subst h0
    rfl
  · rw [decGo_val 24 n [] h]
    rfl

theorem decOf_canon (n : Nat) (h : n < 10 ^ 24) : canon (decOf n) = true := by
  unfold decOf
  split
  · decide
  · rename_i h0
    obtain ⟨c, r, he, hc⟩ := decGo_head 24 n [] (by omega) h
    have hd := decGo_dig 24 n [] rfl
    unfold canon
    rw [hd, he]
    simp [hc]

/-- Digits without a leading zero are the decimal of what they spell. -/
theorem decGo_of : ∀ (k : Nat) (l : List UInt8) (f : Nat) (acc : List UInt8), l.length = k → k ≤ f → l.all isDig = true → (∀ c r, l = c :: r → c.toNat ≠ 48) → decGo f (valFrom 0 l) acc = l ++ acc
  | 0, l, f, acc, hl, hf, _, _ => by
    have : l = [] := List.eq_nil_of_length_eq_zero hl
    subst this
    cases f with
    | zero => rfl
    | succ f => simp [decGo, valFrom]
  | k + 1, l, f, acc, hl, hf, hd, hz => by
    obtain ⟨l', c, rfl⟩ : ∃ l' c, l = l' ++ [c] := ⟨l.dropLast, l.getLast (by intro e; rw [e] at hl; simp at hl), (List.dropLast_concat_getLast _).symm⟩
    simp only [List.length_append, List.length_cons, List.length_nil] at hl
    simp only [List.all_append, List.all_cons, List.all_nil, Bool.and_true, Bool.and_eq_true] at hd
    have hcd : 48 ≤ c.toNat ∧ c.toNat ≤ 57 := by simpa [isDig] using hd.2
    cases f with
    | zero => omega
    | succ f =>
      rw [valFrom_snoc]
      have hpos : valFrom 0 l' * 10 + (c.toNat - 48) ≠ 0 := by
        cases l' with
        | nil =>
          have := hz c [] rfl
          simp [valFrom]
          omega
        | cons d r =>
          have h1 := hz d (r ++ [c]) rfl
          have h2 : d.toNat - 48 ≤ valFrom 0 (d :: r) := by
            rw [valFrom_cons]
            have := valFrom_le r (0 * 10 + (d.toNat - 48))
            omega
          have h3 : 48 ≤ d.toNat := by
            have := hd.1
            simp only [List.all_cons, Bool.and_eq_true] at this
            have h4 : 48 ≤ d.toNat ∧ d.toNat ≤ 57 := by simpa [isDig] using this.1
            omega
          omega
      unfold decGo
      rw [if_neg hpos]
      have hq : (valFrom 0 l' * 10 + (c.toNat - 48)) / 10 = valFrom 0 l' := by omega
      have hr : 48 + (valFrom 0 l' * 10 + (c.toNat - 48)) % 10 = c.toNat := by omega
      rw [hq, hr, UInt8.ofNat_toNat, decGo_of k l' f (c :: acc) (by omega) (by omega) hd.1 (fun d r he => hz d (r ++ [c]) (by rw [he]; rfl))]
      simp

theorem val_small : ∀ (l : List UInt8) (a : Nat), l.all isDig = true → valFrom a l < (a + 1) * 10 ^ l.length
  | [], a, _ => by simp [valFrom]
  | c :: l, a, h => by
    simp only [List.all_cons, Bool.and_eq_true] at h
    have hc : 48 ≤ c.toNat ∧ c.toNat ≤ 57 := by simpa [isDig] using h.1
    rw [valFrom_cons, List.length_cons, Nat.pow_succ]
    have ih := val_small l (a * 10 + (c.toNat - 48)) h.2
    have h2 : (a * 10 + (c.toNat - 48) + 1) * 10 ^ l.length ≤ ((a + 1) * 10) * 10 ^ l.length := Nat.mul_le_mul_right _ (by omega)
    have h3 : (a + 1) * 10 * 10 ^ l.length = (a + 1) * (10 ^ l.length * 10) := by
      rw [Nat.mul_assoc, Nat.mul_comm 10]
    omega

theorem val_big : ∀ (l : List UInt8) (a : Nat), a * 10 ^ l.length ≤ valFrom a l
  | [], a => by simp [valFrom]
  | c :: l, a => by
    rw [valFrom_cons, List.length_cons, Nat.pow_succ]
    have ih := val_big l (a * 10 + (c.toNat - 48))
    have h2 : (a * 10) * 10 ^ l.length ≤ (a * 10 + (c.toNat - 48)) * 10 ^ l.length := Nat.mul_le_mul_right _ (by omega)
    have h3 : a * 10 * 10 ^ l.length = a * (10 ^ l.length * 10) := by
      rw [Nat.mul_assoc, Nat.mul_comm 10]
    omega

/-- A canonical numeral below 2^63 is the decimal of its value. -/
theorem canon_decOf {l : List UInt8} (hc : canon l = true) (hv : valFrom 0 l < 9223372036854775808) : decOf (valFrom 0 l) = l := by
  unfold canon at hc
  rw [Bool.and_eq_true] at hc
  obtain ⟨hd, hh⟩ := hc
  match l, hd, hh, hv with
  | [], _, hh, _ => cases hh
  | c :: r, hd, hh, hv =>
    simp only [Bool.or_eq_true, decide_eq_true_eq] at hh
    have hcd : 48 ≤ c.toNat ∧ c.toNat ≤ 57 := by
      simp only [List.all_cons, Bool.and_eq_true] at hd
      simpa [isDig] using hd.1
    by_cases h48 : c.toNat = 48
    · have hr : r = [] := by
        rcases hh with h | h
        · omega
        · simpa using h
      subst hr
      have hc48 : c = 48 := UInt8.toNat_inj.1 (by simpa using h48)
      subst hc48
      rfl
    · have hlen : (c :: r).length ≤ 24 := by
        have h1 : 1 ≤ c.toNat - 48 := by omega
        have h2 := val_big r (c.toNat - 48)
        have h3 : valFrom 0 (c :: r) = valFrom (c.toNat - 48) r := by rw [valFrom_cons]; congr 1; omega
        rw [h3] at hv
        apply Nat.le_of_not_lt
        intro h4
        have h5 : 10 ^ 24 ≤ 10 ^ r.length := Nat.pow_le_pow_right (by omega) (by simp at h4; omega)
        have h6 : 1 * 10 ^ r.length ≤ (c.toNat - 48) * 10 ^ r.length := Nat.mul_le_mul_right _ h1
        omega
      have hgo := decGo_of (c :: r).length (c :: r) 24 [] rfl hlen hd (fun d s he => by cases he; exact h48)
      rw [List.append_nil] at hgo
      unfold decOf
      have hpos : valFrom 0 (c :: r) ≠ 0 := by
        rw [valFrom_cons]
        have := valFrom_le r (0 * 10 + (c.toNat - 48))
        omega
      rw [if_neg hpos]
      exact hgo

/-! ### strconv.Atoi at digits alone -/
theorem parse_digs : ∀ (l : List UInt8) (a : Nat), l.all isDig = true → a < 18446744073709551616 →
    Lib.parseUint10 a l = if valFrom a l < 18446744073709551616 then .ok (valFrom a l) else .range
  | [], a, _, ha => by simp [Lib.parseUint10, valFrom, ha]
  | c :: l, a, h, ha => by
    simp only [List.all_cons, Bool.and_eq_true] at h
    have hc : 48 ≤ c.toNat ∧ c.toNat ≤ 57 := by simpa [isDig] using h.1
    rw [Lib.parseUint10, if_pos hc, valFrom_cons]
    have hle := valFrom_le l (a * 10 + (c.toNat - 48))
    by_cases h1 : 1844674407370955162 ≤ a
    · rw [if_pos h1, if_neg (by omega)]
    · rw [if_neg h1]
      by_cases h2 : 18446744073709551616 ≤ a * 10 + (c.toNat - 48)
      · rw [if_pos h2, if_neg (by omega)]
      · rw [if_neg h2]
        exact parse_digs l _ h.2 (by omega)

theorem atoi_digs {l : List UInt8} (hd : l.all isDig = true) (hne : l ≠ []) : Lib.atoiAll l = if valFrom 0 l < 9223372036854775808 then .ok ((valFrom 0 l : Nat) : Int) else .range := by
  match l, hne, hd with
  | [], hne, _ => exact absurd rfl hne
  | c :: r, _, hd =>
    have hc : 48 ≤ c.toNat ∧ c.toNat ≤ 57 := by
      simp only [List.all_cons, Bool.and_eq_true] at hd
      simpa [isDig] using hd.1
    have h43 : ¬ (c.toNat = 43 ∨ c.toNat = 45) := by omega
    have h45 : ¬ c.toNat = 45 := by omega
    simp only [Lib.atoiAll]
    rw [if_neg h43]
    simp only [Lib.parseMag]
    rw [if_neg (by simp), parse_digs (c :: r) 0 hd (by omega)]
    by_cases h64 : valFrom 0 (c :: r) < 18446744073709551616
    · rw [if_pos h64]
      by_cases h63 : valFrom 0 (c :: r) < 9223372036854775808
      · rw [if_pos h63]
        simp only [h45, not_false_eq_true, true_and, false_and, if_false]
        rw [if_neg (by omega)]
      · rw [if_neg h63]
        simp only [h45, not_false_eq_true, true_and]
        rw [if_pos (by omega)]
    · rw [if_neg h64, if_neg (by omega)]

/-- WHAT arrayIndex ANSWERS. -/
def aIdx (l : List UInt8) : Option Nat := if canon l = true ∧ valFrom 0 l < 9223372036854775808 then some (valFrom 0 l) else none

theorem aIdx_decOf {i : Nat} (h : i < 9223372036854775808) : aIdx (decOf i) = some i := by
  unfold aIdx
  have h1 : i < 10 ^ 24 := by omega
  rw [decOf_val i h1, if_pos ⟨decOf_canon i h1, h⟩]
theorem decOf_aIdx {l : List UInt8} {i : Nat} (h : aIdx l = some i) : decOf i = l ∧ i < 9223372036854775808 := by
  unfold aIdx at h
  split at h
  · rename_i hc
    simp only [Option.some.injEq] at h
    subst h
    exact ⟨canon_decOf hc.1 hc.2, hc.2⟩
  · cases h

end Go.Proofs.Qxb6626079aDoor
