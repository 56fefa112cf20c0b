/-
  Plain facts on doubles: a finite one is a whole number of units (2 to the power of -1074); how they are ordered, made of integers, made whole. No program in sight. Conditions: none.
-/
import Derived.Laws.FloatArith
import Derived.Laws.Cover2
namespace Go.Proofs.Ytppmdncmjcknkaa
open Go Ieee

/-- 2 to the power of 1074: units in 1. Kept closed. -/
def kx : Nat := 1074
def K : Nat := 2 ^ kx
theorem K_pos : 0 < K := Nat.two_pow_pos kx
/-- The units of a number whose place is -1074 or more. -/
def sc (s : Bool) (m : Nat) (i : Int) : Int := signed s m (i + 1074).toNat
theorem signed_mul (s : Bool) (m a b : Nat) : signed s m (a + b) = signed s m a * ((2 ^ b : Nat) : Int) := by
  unfold signed
  simp only [Nat.shiftLeft_eq, Nat.pow_add]
  cases s
  · simp only [Bool.false_eq_true, if_false, ← Int.natCast_mul, Nat.mul_assoc]
  · simp only [if_true, Int.neg_mul, ← Int.natCast_mul, Nat.mul_assoc]

theorem compare_scale (x y : Int) (c : Nat) (hc : 0 < c) : compare (x * (c : Int)) (y * (c : Int)) = compare x y := by
  have hc' : (0 : Int) < c := by omega
  rcases Int.lt_trichotomy x y with h | h | h
  · have h2 := Int.mul_lt_mul_of_pos_right h hc'
    simp [compare, compareOfLessAndEq, h, h2]
  · subst h; simp [compare, compareOfLessAndEq]
  · have h2 := Int.mul_lt_mul_of_pos_right h hc'
    have a1 : ¬ x < y := by omega
    have a2 : ¬ x * (c : Int) < y * (c : Int) := by omega
    have a3 : ¬ x = y := by omega
    have a4 : ¬ x * (c : Int) = y * (c : Int) := by omega
    simp [compare, compareOfLessAndEq, a1, a2, a3, a4]

theorem order_sc (s t : Bool) (m n : Nat) (i j : Int) (hi : -1074 ≤ i) (hj : -1074 ≤ j) : Datum.order (.number s m i) (.number t n j) = some (compare (sc s m i) (sc t n j)) := by
  have e1 : (i + 1074).toNat = (i - min i j).toNat + (min i j + 1074).toNat := by omega
  have e2 : (j + 1074).toNat = (j - min i j).toNat + (min i j + 1074).toNat := by omega
  unfold sc
  rw [e1, e2, signed_mul, signed_mul, compare_scale _ _ _ (Nat.two_pow_pos _)]
  rfl

theorem decode_eq (x : Nat) : FloatKind.f64.decode x =
    if x % 9223372036854775808 < 4503599627370496 then .number (x / 9223372036854775808 % 2 == 1) (x % 9223372036854775808) (-1074)
    else if x % 9223372036854775808 < 9218868437227405312 then .number (x / 9223372036854775808 % 2 == 1) (4503599627370496 + x % 9223372036854775808 % 4503599627370496) (-1074 + ((x % 9223372036854775808 / 4503599627370496 - 1 : Nat) : Int))
    else if x % 9223372036854775808 = 9218868437227405312 then .infinity (x / 9223372036854775808 % 2 == 1)
    else .nan (x / 9223372036854775808 % 2 == 1) (x % 9223372036854775808 - 9218868437227405312) := rfl

/-- What a word stands for: its place is never below. -/
theorem read_place {x : Nat} {s : Bool} {m : Nat} {i : Int} (h : FloatKind.f64.decode x = .number s m i) : -1074 ≤ i ∧ m < 9007199254740992 ∧ i ≤ 971 := by
  rw [decode_eq] at h
  generalize (x / 9223372036854775808 % 2 == 1) = neg at h
  generalize hr : x % 9223372036854775808 = r at h
  clear hr
  by_cases a : r < 4503599627370496
  · rw [if_pos a] at h
    simp only [Datum.number.injEq] at h
    omega
  · rw [if_neg a] at h
    by_cases b : r < 9218868437227405312
    · rw [if_pos b] at h
      simp only [Datum.number.injEq] at h
      omega
    · rw [if_neg b] at h
      by_cases c : r = 9218868437227405312
      · rw [if_pos c] at h; cases h
      · rw [if_neg c] at h; cases h

theorem cut_zero (way : Toward) (neg : Bool) (n : Nat) : way.cut neg n 0 = n := by
  have : 1 <<< min 0 (n.log2 + 2) = 1 := by simp
  unfold Toward.cut
  simp only [this, Nat.div_one, Nat.mod_one]
  cases way <;> simp

/-- The word of a number that the format has: read back it is the same number of units. -/
theorem write_eq (neg : Bool) (mag : Nat) (place : Int) : FloatKind.f64.encode (.number neg mag place) =
    if mag = 0 then (if neg then 9223372036854775808 + 0 else 0) else
    let last := max (place + mag.log2 - 52) (-1074)
    let kept := Toward.even.cut neg (mag <<< (place - last).toNat) (last - place).toNat
    (if neg then 9223372036854775808 + min ((last + 1074).toNat * 4503599627370496 + kept) 9218868437227405312 else min ((last + 1074).toNat * 4503599627370496 + kept) 9218868437227405312) := by
  rfl

theorem word_read (neg : Bool) (r : Nat) (h : r < 9218868437227405312) : FloatKind.f64.decode (if neg then 9223372036854775808 + r else r) =
    if r < 4503599627370496 then .number neg r (-1074) else .number neg (4503599627370496 + r % 4503599627370496) (-1074 + ((r / 4503599627370496 - 1 : Nat) : Int)) := by
  rw [decode_eq]
  have e1 : (if neg then 9223372036854775808 + r else r) % 9223372036854775808 = r := by cases neg <;> simp <;> omega
  have e2 : ((if neg then 9223372036854775808 + r else r) / 9223372036854775808 % 2 == 1) = neg := by
    cases neg
    · have : r / 9223372036854775808 = 0 := by omega
      simp [this]
    · have : (9223372036854775808 + r) / 9223372036854775808 = 1 := by omega
      simp [this]
  rw [e1, e2, if_pos (c := r < 9218868437227405312) h]

/-- A word whose last digit stands at a place, and whose digits are known. -/
theorem rung_read (neg : Bool) (last : Int) (kept : Nat) (h1 : -1074 ≤ last) (h2 : last ≤ 971) (h3 : kept < 9007199254740992) (h4 : last = -1074 ∨ 4503599627370496 ≤ kept) :
    FloatKind.f64.decode (if neg then 9223372036854775808 + min ((last + 1074).toNat * 4503599627370496 + kept) 9218868437227405312 else min ((last + 1074).toNat * 4503599627370496 + kept) 9218868437227405312) = .number neg kept last := by
  have hm : (last + 1074).toNat * 4503599627370496 + kept < 9218868437227405312 := by omega
  rw [Nat.min_eq_left (Nat.le_of_lt hm), word_read neg _ hm]
  by_cases a : kept < 4503599627370496
  · have hl : last = -1074 := by omega
    subst hl
    rw [if_pos (by omega)]
    simp
  · rw [if_neg (by omega)]
    simp only [Datum.number.injEq, true_and]
    omega

/-! ### integers -/
theorem log_facts {n : Nat} (h : n ≠ 0) : 2 ^ n.log2 ≤ n ∧ n < 2 ^ n.log2 * 2 := ⟨Nat.log2_self_le h, by have := Nat.lt_log2_self (n := n); rwa [Nat.pow_succ] at this⟩
theorem pow_lt_of {a b : Nat} (h : 2 ^ a < 2 ^ b) : a < b := (Nat.pow_lt_pow_iff_right (by omega)).1 h
/-- The word of a whole number below 2 to the power of 53, with a sign, read back: it is that number. -/
theorem mag_read (neg : Bool) (mag : Nat) (h : mag < 9007199254740992) : ∃ m i, FloatKind.f64.decode (FloatKind.f64.encode (.number neg mag 0)) = .number neg m i ∧ -1074 ≤ i ∧ sc neg m i = signed neg mag 0 * (K : Int) := by
  rw [write_eq]
  by_cases h0 : mag = 0
  · subst h0
    refine ⟨0, -1074, ?_, by omega, ?_⟩
    · rw [if_pos rfl]
      exact (word_read neg 0 (by omega)).trans (if_pos (by omega))
    · simp [sc, signed]
  · rw [if_neg h0]
    obtain ⟨hl1, hl2⟩ := log_facts h0
    generalize hL : mag.log2 = L at hl1 hl2
    have hL52 : L < 53 := pow_lt_of (Nat.lt_of_le_of_lt hl1 (by simpa using h))
    have hlast : max ((0 : Int) + (L : Nat) - 52) (-1074) = (L : Int) - 52 := by omega
    have hd1 : ((0 : Int) - ((L : Int) - 52)).toNat = 52 - L := by omega
    have hd2 : ((L : Int) - 52 - 0).toNat = 0 := by omega
    simp only [hlast, hd1, hd2, cut_zero, Nat.shiftLeft_eq]
    have hp : 2 ^ L * 2 ^ (52 - L) = 4503599627370496 := by rw [← Nat.pow_add, show L + (52 - L) = 52 by omega]
    have hk1 : 4503599627370496 ≤ mag * 2 ^ (52 - L) := by rw [← hp]; exact Nat.mul_le_mul_right _ hl1
    have hk2 : mag * 2 ^ (52 - L) < 9007199254740992 := by
      have : mag * 2 ^ (52 - L) < 2 ^ L * 2 * 2 ^ (52 - L) := Nat.mul_lt_mul_of_pos_right hl2 (Nat.two_pow_pos _)
      have e : 2 ^ L * 2 * 2 ^ (52 - L) = 2 * (2 ^ L * 2 ^ (52 - L)) := by rw [Nat.mul_comm (2 ^ L) 2, Nat.mul_assoc]
      rw [e, hp] at this
      omega
    refine ⟨_, _, rung_read neg ((L : Int) - 52) _ (by omega) (by omega) hk2 (.inr hk1), by omega, ?_⟩
    have e1 : ((L : Int) - 52 + 1074).toNat = L + 1022 := by omega
    have e2 : mag * 2 ^ (52 - L) * 2 ^ (L + 1022) = mag * K := by
      rw [Nat.mul_assoc, ← Nat.pow_add]
      rw [show 52 - L + (L + 1022) = kx by unfold kx; omega]
      rfl
    unfold sc signed
    rw [e1, Nat.shiftLeft_eq, e2, Nat.shiftLeft_zero]
    cases neg
    · simp
    · simp [Int.neg_mul]
theorem signed_int (n : Int) : signed (decide (n < 0)) n.natAbs 0 = n := by
  unfold signed
  by_cases hn : n < 0
  · rw [decide_eq_true hn, if_pos rfl, Nat.shiftLeft_zero]; omega
  · rw [decide_eq_false hn, if_neg (by simp), Nat.shiftLeft_zero]; omega
/-- The word of an integer below 2 to the power of 53, read back: it is that integer. -/
theorem int_read (n : Int) (h : n.natAbs < 9007199254740992) : ∃ m i, FloatKind.f64.decode (FloatKind.f64.nearest n) = .number (decide (n < 0)) m i ∧ -1074 ≤ i ∧ sc (decide (n < 0)) m i = n * (K : Int) := by
  obtain ⟨m, i, a, b, c⟩ := mag_read (decide (n < 0)) n.natAbs h
  rw [signed_int] at c
  exact ⟨m, i, a, b, c⟩

/-! ### the units of a number, cut to an integer -/
theorem toInt_sc (s : Bool) (m : Nat) (i : Int) (hi : -1074 ≤ i) : Datum.toInt .zero (.number s m i) = some ((sc s m i).tdiv K) := by
  unfold Datum.toInt Datum.integral
  simp only
  have key : Toward.zero.cut s (m <<< i.toNat) (-i).toNat = m <<< (i + 1074).toNat / K := by
    simp only [Nat.shiftLeft_eq]
    by_cases h : 0 ≤ i
    · have e1 : (-i).toNat = 0 := by omega
      have e2 : (i + 1074).toNat = i.toNat + kx := by unfold kx; omega
      rw [e1, cut_zero, e2, Nat.pow_add, ← Nat.mul_assoc]
      exact (Nat.mul_div_cancel _ K_pos).symm
    · obtain ⟨d, hd⟩ : ∃ d : Nat, d = (-i).toNat := ⟨_, rfl⟩
      have e1 : i.toNat = 0 := by omega
      have e2 : kx = (i + 1074).toNat + d := by unfold kx; omega
      rw [← hd, e1, Nat.pow_zero, Nat.mul_one]
      have e3 : m * 2 ^ (i + 1074).toNat / K = m / 2 ^ d := by
        unfold K
        rw [e2, Nat.pow_add, Nat.mul_comm (2 ^ (i + 1074).toNat) (2 ^ d)]
        exact Nat.mul_div_mul_right _ _ (Nat.two_pow_pos _)
      rw [e3]
      unfold Toward.cut
      simp only [Nat.shiftLeft_eq, Nat.one_mul, Bool.toNat_false, Nat.add_zero]
      by_cases hc : d ≤ m.log2 + 2
      · rw [Nat.min_eq_left hc]
      · rw [Nat.min_eq_right (by omega)]
        have hm : m < 2 ^ (m.log2 + 2) := by
          by_cases h0 : m = 0
          · subst h0; exact Nat.two_pow_pos _
          · have := (log_facts h0).2
            rw [Nat.pow_add]
            omega
        rw [Nat.div_eq_of_lt hm, Nat.div_eq_of_lt (Nat.lt_of_lt_of_le hm (Nat.pow_le_pow_right (by omega) (by omega)))]
  rw [key]
  unfold sc signed
  simp only [Nat.shiftLeft_zero]
  cases s
  · simp only [Bool.false_eq_true, if_false, Option.some.injEq]
    rw [Int.natCast_ediv, Int.tdiv_eq_ediv_of_nonneg (Int.natCast_nonneg _)]
  · simp only [if_true, Option.some.injEq]
    rw [Int.natCast_ediv, Int.neg_tdiv, Int.tdiv_eq_ediv_of_nonneg (Int.natCast_nonneg _)]

/-! ### whatever is no NaN and no infinity is between the bounds -/
theorem int_finite (n : Int) (h1 : -9223372036854775808 ≤ n) (h2 : n ≤ 9223372036854775808) : ∃ s m i, FloatKind.f64.decode (FloatKind.f64.nearest n) = .number s m i := by
  unfold FloatKind.nearest
  rw [write_eq]
  by_cases h0 : n.natAbs = 0
  · rw [if_pos h0]
    exact ⟨_, _, _, (word_read (decide (n < 0)) 0 (by omega)).trans (if_pos (by omega))⟩
  · rw [if_neg h0]
    obtain ⟨hl1, hl2⟩ := log_facts h0
    have hL : n.natAbs.log2 < 64 := pow_lt_of (Nat.lt_of_le_of_lt hl1 (by omega))
    generalize n.natAbs.log2 = L at hl1 hl2 hL
    have hlast : max ((0 : Int) + (L : Nat) - 52) (-1074) = (L : Int) - 52 := by omega
    simp only [hlast]
    have hk : Toward.even.cut (decide (n < 0)) (n.natAbs <<< ((0 : Int) - ((L : Int) - 52)).toNat) ((L : Int) - 52 - 0).toNat ≤ 9007199254740992 := by
      by_cases hc : L ≤ 52
      · have hd1 : ((0 : Int) - ((L : Int) - 52)).toNat = 52 - L := by omega
        have hd2 : ((L : Int) - 52 - 0).toNat = 0 := by omega
        rw [hd1, hd2, cut_zero, Nat.shiftLeft_eq]
        have hp : 2 ^ L * 2 ^ (52 - L) = 4503599627370496 := by rw [← Nat.pow_add, show L + (52 - L) = 52 by omega]
        have : n.natAbs * 2 ^ (52 - L) ≤ 2 ^ L * 2 * 2 ^ (52 - L) := Nat.mul_le_mul_right _ (Nat.le_of_lt hl2)
        have e : 2 ^ L * 2 * 2 ^ (52 - L) = 2 * (2 ^ L * 2 ^ (52 - L)) := by rw [Nat.mul_comm (2 ^ L) 2, Nat.mul_assoc]
        rw [e, hp] at this
        omega
      · have hd1 : ((0 : Int) - ((L : Int) - 52)).toNat = 0 := by omega
        have hd2 : ((L : Int) - 52 - 0).toNat = L - 52 := by omega
        rw [hd1, hd2, Nat.shiftLeft_zero]
        unfold Toward.cut
        simp only [Nat.shiftLeft_eq, Nat.one_mul]
        have hp : 2 ^ L = 4503599627370496 * 2 ^ (L - 52) := by
          rw [show (4503599627370496 : Nat) = 2 ^ 52 by rfl, ← Nat.pow_add, show 52 + (L - 52) = L by omega]
        have hle : L - 52 ≤ n.natAbs.log2 + 2 := by
          have : L ≤ n.natAbs.log2 := (Nat.le_log2 h0).2 hl1
          omega
        rw [Nat.min_eq_left hle]
        have : n.natAbs / 2 ^ (L - 52) < 9007199254740992 := by
          rw [Nat.div_lt_iff_lt_mul (Nat.two_pow_pos _)]
          rw [hp] at hl2
          omega
        have hb : ∀ b : Bool, b.toNat ≤ 1 := fun b => by cases b <;> simp
        have := hb (decide (2 ^ (L - 52) < 2 * (n.natAbs % 2 ^ (L - 52))) || 2 ^ (L - 52) == 2 * (n.natAbs % 2 ^ (L - 52)) && n.natAbs / 2 ^ (L - 52) % 2 == 1)
        omega
    generalize Toward.even.cut (decide (n < 0)) (n.natAbs <<< ((0 : Int) - ((L : Int) - 52)).toNat) ((L : Int) - 52 - 0).toNat = kept at hk
    have hm : ((L : Int) - 52 + 1074).toNat * 4503599627370496 + kept < 9218868437227405312 := by omega
    rw [Nat.min_eq_left (Nat.le_of_lt hm)]
    have := word_read (decide (n < 0)) _ hm
    by_cases hr : ((L : Int) - 52 + 1074).toNat * 4503599627370496 + kept < 4503599627370496
    · exact ⟨_, _, _, this.trans (if_pos hr)⟩
    · exact ⟨_, _, _, this.trans (if_neg hr)⟩

/-! ### tests -/
/-- A word of a number: no NaN, no infinity. -/
def Fin (x : Nat) : Prop := ∃ s m i, FloatKind.f64.decode x = .number s m i
theorem order_eq (x y : Nat) : FloatKind.f64.format.order x y = (FloatKind.f64.decode x).order (FloatKind.f64.decode y) := rfl
theorem compare_self (x : Int) : compare x x = .eq := by simp [compare, compareOfLessAndEq]
theorem compare_lt {x y : Int} (h : x < y) : compare x y = .lt := by simp [compare, compareOfLessAndEq, h]
theorem compare_gt {x y : Int} (h : y < x) : compare x y = .gt := by
  have a1 : ¬ x < y := by omega
  have a2 : ¬ x = y := by omega
  simp [compare, compareOfLessAndEq, a1, a2]
theorem fin_self {x : Nat} (h : Fin x) : FloatKind.f64.format.order x x = some .eq := by
  obtain ⟨s, m, i, e⟩ := h
  have hp := read_place e
  rw [order_eq, e, order_sc _ _ _ _ _ _ hp.1 hp.1, compare_self]
theorem decode_abs {x : Nat} {s : Bool} {m : Nat} {i : Int} (h : FloatKind.f64.decode x = .number s m i) : FloatKind.f64.decode (x % 9223372036854775808) = .number false m i := by
  rw [decode_eq] at h ⊢
  have e1 : x % 9223372036854775808 % 9223372036854775808 = x % 9223372036854775808 := by omega
  have e2 : (x % 9223372036854775808 / 9223372036854775808 % 2 == 1) = false := by
    have : x % 9223372036854775808 / 9223372036854775808 = 0 := by omega
    rw [this]; rfl
  rw [e1, e2]
  by_cases a : x % 9223372036854775808 < 4503599627370496
  · rw [if_pos a] at h ⊢
    simp only [Datum.number.injEq] at h ⊢
    exact ⟨trivial, h.2.1, h.2.2⟩
  · rw [if_neg a] at h ⊢
    by_cases b : x % 9223372036854775808 < 9218868437227405312
    · rw [if_pos b] at h ⊢
      simp only [Datum.number.injEq] at h ⊢
      exact ⟨trivial, h.2.1, h.2.2⟩
    · rw [if_neg b] at h
      by_cases c : x % 9223372036854775808 = 9218868437227405312
      · rw [if_pos c] at h; cases h
      · rw [if_neg c] at h; cases h
theorem decode_max : FloatKind.f64.decode 9218868437227405311 = .number false 9007199254740991 971 := by
  rw [decode_eq, if_neg (by omega), if_pos (by omega)]
  rfl
theorem fin_not_inf {x : Nat} (h : Fin x) : (FloatKind.f64.format.order (x % 9223372036854775808) 9218868437227405311 == some .gt) = false := by
  obtain ⟨s, m, i, e⟩ := h
  have hp := read_place e
  rw [order_eq, decode_abs e, decode_max, order_sc _ _ _ _ _ _ hp.1 (by omega)]
  have hle : sc false m i ≤ sc false 9007199254740991 971 := by
    unfold sc signed
    simp only [Bool.false_eq_true, if_false, Nat.shiftLeft_eq]
    obtain ⟨E, e2, hE⟩ : ∃ E, ((971 : Int) + 1074).toNat = E ∧ (i + 1074).toNat ≤ E := ⟨_, rfl, by omega⟩
    rw [e2]
    exact Int.ofNat_le.2 (Nat.mul_le_mul (by omega) (Nat.pow_le_pow_right (by omega) hE))
  by_cases hlt : sc false m i < sc false 9007199254740991 971
  · rw [compare_lt hlt]; rfl
  · have : sc false m i = sc false 9007199254740991 971 := by omega
    rw [this, compare_self]; rfl

/-- A word against an integer's: by units. -/
theorem order_int {x : Nat} {s : Bool} {m : Nat} {i : Int} (h : FloatKind.f64.decode x = .number s m i) (n : Int) (hn : n.natAbs < 9007199254740992) :
    FloatKind.f64.format.order x (FloatKind.f64.nearest n) = some (compare (sc s m i) (n * (K : Int))) := by
  obtain ⟨m', i', e, hi', hs⟩ := int_read n hn
  rw [order_eq, h, e, order_sc _ _ _ _ _ _ (read_place h).1 hi', hs]

/-- A word that is cut to an integer. -/
theorem toInt_word {x : Nat} {s : Bool} {m : Nat} {i : Int} (h : FloatKind.f64.decode x = .number s m i) : (FloatKind.f64.decode x).toInt .zero = some ((sc s m i).tdiv K) := by
  rw [h]; exact toInt_sc s m i (read_place h).1

/-! ### whole doubles below 2 to the power of 53 -/
theorem decode_p53 : FloatKind.f64.decode 4845873199050653696 = .number false 4503599627370496 1 := by
  rw [decode_eq, if_neg (by omega), if_pos (by omega)]
  rfl
theorem decode_n53 : FloatKind.f64.decode 14069245235905429504 = .number true 4503599627370496 1 := by
  rw [decode_eq, if_neg (by omega), if_pos (by omega)]
  rfl
theorem sc_p53 : sc false 4503599627370496 1 = 9007199254740992 * (K : Int) := by
  have e : ((1 : Int) + 1074).toNat = 1 + kx := by unfold kx; omega
  have e2 : 4503599627370496 * 2 ^ (1 + kx) = 9007199254740992 * K := by
    unfold K
    rw [Nat.pow_add]
    generalize 2 ^ kx = q
    omega
  unfold sc signed
  rw [e, Nat.shiftLeft_eq, e2]
  simp
theorem sc_n53 : sc true 4503599627370496 1 = -(9007199254740992 * (K : Int)) := by
  rw [← sc_p53]
  simp [sc, signed]
theorem order_p53 {x : Nat} {s : Bool} {m : Nat} {i : Int} (h : FloatKind.f64.decode x = .number s m i) : FloatKind.f64.format.order x 4845873199050653696 = some (compare (sc s m i) (9007199254740992 * (K : Int))) := by
  rw [order_eq, h, decode_p53, order_sc _ _ _ _ _ _ (read_place h).1 (by omega), sc_p53]
theorem order_n53 {x : Nat} {s : Bool} {m : Nat} {i : Int} (h : FloatKind.f64.decode x = .number s m i) : FloatKind.f64.format.order x 14069245235905429504 = some (compare (sc s m i) (-(9007199254740992 * (K : Int)))) := by
  rw [order_eq, h, decode_n53, order_sc _ _ _ _ _ _ (read_place h).1 (by omega), sc_n53]

/-- A double that is this integer. -/
def IsWhole (x : Nat) (n : Int) : Prop := n.natAbs < 9007199254740992 ∧ ∃ s m i, FloatKind.f64.decode x = .number s m i ∧ sc s m i = n * (K : Int)

/-- What the integral part's word is. -/
def tr (x : Nat) : Nat := FloatKind.f64.encode ((FloatKind.f64.decode x).integral .zero)
theorem natAbs_sc (s : Bool) (m : Nat) (i : Int) : (sc s m i).natAbs = m <<< (i + 1074).toNat := by
  unfold sc signed
  cases s
  · exact Int.natAbs_natCast _
  · show (-((m <<< (i + 1074).toNat : Nat) : Int)).natAbs = _
    rw [Int.natAbs_neg]
    exact Int.natAbs_natCast _
theorem cut_units (s : Bool) (m : Nat) (i : Int) (hi : -1074 ≤ i) : Toward.zero.cut s (m <<< i.toNat) (-i).toNat = (sc s m i).natAbs / K := by
  have h := toInt_sc s m i hi
  unfold Datum.toInt Datum.integral at h
  simp only [Option.some.injEq] at h
  have h2 := congrArg Int.natAbs h
  rw [Int.natAbs_tdiv] at h2
  have e : (signed s (Toward.zero.cut s (m <<< i.toNat) (-i).toNat) 0).natAbs = Toward.zero.cut s (m <<< i.toNat) (-i).toNat := by
    unfold signed
    cases s <;> simp
  rw [e, Int.natAbs_natCast] at h2
  exact h2
theorem tr_read {x : Nat} {s : Bool} {m : Nat} {i : Int} (h : FloatKind.f64.decode x = .number s m i) (hb : (sc s m i).natAbs < 9007199254740992 * K) :
    ∃ m' i', FloatKind.f64.decode (tr x) = .number s m' i' ∧ -1074 ≤ i' ∧ sc s m' i' = (sc s m i).tdiv K * (K : Int) := by
  have hi := (read_place h).1
  unfold tr
  rw [h]
  show ∃ m' i', FloatKind.f64.decode (FloatKind.f64.encode (.number s (Toward.zero.cut s (m <<< i.toNat) (-i).toNat) 0)) = .number s m' i' ∧ _
  have hc : Toward.zero.cut s (m <<< i.toNat) (-i).toNat < 9007199254740992 := by
    rw [cut_units s m i hi]
    exact (Nat.div_lt_iff_lt_mul K_pos).2 hb
  obtain ⟨m', i', a, b, c⟩ := mag_read s _ hc
  refine ⟨m', i', a, b, ?_⟩
  rw [c]
  have h2 := toInt_sc s m i hi
  unfold Datum.toInt Datum.integral at h2
  simp only [Option.some.injEq] at h2
  rw [h2]

theorem K_ne : (K : Int) ≠ 0 := by have := K_pos; omega
theorem order_tr {x : Nat} {s : Bool} {m : Nat} {i : Int} (h : FloatKind.f64.decode x = .number s m i) (hb : (sc s m i).natAbs < 9007199254740992 * K) :
    FloatKind.f64.format.order x (tr x) = some (compare (sc s m i) ((sc s m i).tdiv K * (K : Int))) := by
  obtain ⟨m', i', a, b, c⟩ := tr_read h hb
  rw [order_eq, h, a, order_sc _ _ _ _ _ _ (read_place h).1 b, c]
end Go.Proofs.Ytppmdncmjcknkaa
