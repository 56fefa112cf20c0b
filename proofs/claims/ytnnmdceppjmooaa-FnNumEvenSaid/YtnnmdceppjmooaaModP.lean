/-
  Plain facts on doubles for the remainder by two: the fields of a word; a number that the format has; one less its first digit. No program in sight. Conditions: none.
-/
import Derived.Test.YtnnmdceppjmooaaCeilP
namespace Go.Proofs.Ytnnmdceppjmooaa
open Go Ieee
set_option linter.unusedVariables false

/-- A number that the format has, written and read. -/
theorem write_fit (neg : Bool) (mag c : Nat) (place q : Int) (hp : -1074 ≤ place) (hq : -1022 ≤ q) (hq2 : q ≤ 971) (hc : c < 9007199254740992) (he : mag * 2 ^ (place + 1074).toNat = c * 2 ^ (q + 1074).toNat) :
    ∃ m i, FloatKind.f64.decode (FloatKind.f64.encode (.number neg mag place)) = .number neg m i ∧ -1074 ≤ i ∧ sc neg m i = sc neg mag place := by
  by_cases h0 : mag = 0
  · subst h0
    refine ⟨0, -1074, ?_, by omega, by rw [sc_zero, sc_zero]⟩
    rw [write_eq, if_pos rfl]
    exact (word_read neg 0 (by omega)).trans (if_pos (by omega))
  · have hc0 : c ≠ 0 := by
      intro h
      rw [h, Nat.zero_mul] at he
      have := Nat.mul_pos (show 0 < mag by omega) (Nat.two_pow_pos (place + 1074).toNat)
      omega
    obtain ⟨hl1, hl2⟩ := log_facts hc0
    generalize c.log2 = L at hl1 hl2
    have hL : L < 53 := pow_lt_of (Nat.lt_of_le_of_lt hl1 (by simpa using hc))
    have hpw : 2 ^ L * 2 ^ (52 - L) = 4503599627370496 := by rw [← Nat.pow_add, show L + (52 - L) = 52 by omega]
    have hk1 : 4503599627370496 ≤ c * 2 ^ (52 - L) := by rw [← hpw]; exact Nat.mul_le_mul_right _ hl1
    have hk2 : c * 2 ^ (52 - L) < 9007199254740992 := by
      have : c * 2 ^ (52 - L) < 2 ^ L * 2 * 2 ^ (52 - L) := Nat.mul_lt_mul_of_pos_right hl2 (Nat.two_pow_pos _)
      have e : 2 ^ L * 2 * 2 ^ (52 - L) = 2 * (2 ^ L * 2 ^ (52 - L)) := by rw [Nat.mul_comm (2 ^ L) 2, Nat.mul_assoc]
      rw [e, hpw] at this
      omega
    have e2 : c * 2 ^ (52 - L) * 2 ^ (q - (52 - L : Nat) + 1074).toNat = mag * 2 ^ (place + 1074).toNat := by
      rw [he, Nat.mul_assoc, ← Nat.pow_add, show 52 - L + (q - (52 - L : Nat) + 1074).toNat = (q + 1074).toNat by omega]
    refine ⟨_, _, write_norm neg mag _ place (q - (52 - L : Nat)) hp (by omega) (by omega) hk1 hk2 e2, by omega, ?_⟩
    rw [sc_nat, sc_nat, e2]

/-- The fields of a word of a number that is no small one. -/
theorem fields {z m : Nat} {i : Int} (hz : z < 18446744073709551616) (h : FloatKind.f64.decode z = .number false m i) (hm : 4503599627370496 ≤ m) :
    z < 9218868437227405312 ∧ (z / 4503599627370496 : Nat) = i + 1075 ∧ z % 4503599627370496 = m - 4503599627370496 ∧ m < 9007199254740992 := by
  have hp := read_place h
  rw [decode_eq] at h
  by_cases a : z % 9223372036854775808 < 4503599627370496
  · rw [if_pos a] at h
    simp only [Datum.number.injEq] at h
    omega
  · rw [if_neg a] at h
    by_cases b : z % 9223372036854775808 < 9218868437227405312
    · rw [if_pos b] at h
      simp only [Datum.number.injEq] at h
      obtain ⟨h1, h2, h3⟩ := h
      have hs : z / 9223372036854775808 % 2 = 0 := by
        have : ¬ z / 9223372036854775808 % 2 = 1 := by
          intro hh
          rw [hh] at h1
          simp at h1
        omega
      omega
    · rw [if_neg b] at h
      split at h <;> cases h
/-- The word of fields. -/
theorem word_of {e f : Nat} (he : 1 ≤ e) (he2 : e ≤ 2046) (hf : f < 4503599627370496) : FloatKind.f64.decode (e * 4503599627370496 + f) = .number false (4503599627370496 + f) ((e : Int) - 1075) := by
  have h := word_read false (e * 4503599627370496 + f) (by omega)
  simp only [Bool.false_eq_true, if_false] at h
  rw [h, if_neg (by omega)]
  simp only [Datum.number.injEq, true_and]
  omega

/-- A natural number, as a double (nought with either sign). -/
def Val (z N : Nat) : Prop := z < 18446744073709551616 ∧ ∃ s m i, FloatKind.f64.decode z = .number s m i ∧ sc s m i = (N : Int) * (K : Int)
theorem K_eq : K = 2 ^ kx := rfl
theorem sc_false (m : Nat) (i : Int) : sc false m i = ((m * 2 ^ (i + 1074).toNat : Nat) : Int) := by
  unfold sc signed
  simp only [Bool.false_eq_true, if_false, Nat.shiftLeft_eq]
theorem sc_true (m : Nat) (i : Int) : sc true m i = -((m * 2 ^ (i + 1074).toNat : Nat) : Int) := by
  unfold sc signed
  simp only [if_true, Nat.shiftLeft_eq]
theorem Val.pos {z N : Nat} (h : Val z N) (hN : 1 ≤ N) : z < 18446744073709551616 ∧ ∃ m i, FloatKind.f64.decode z = .number false m i ∧ m * 2 ^ (i + 1074).toNat = N * K := by
  obtain ⟨hz, s, m, i, hd, hv⟩ := h
  have hk := Nat.mul_le_mul_right K hN
  have hkp := K_pos
  rw [← Int.natCast_mul] at hv
  cases s
  · rw [sc_false] at hv
    exact ⟨hz, m, i, hd, Int.ofNat.inj hv⟩
  · rw [sc_true] at hv
    omega
/-- From two on: the fields. -/
theorem Val.two {z N : Nat} (h : Val z N) (hN : 2 ≤ N) : ∃ (e f : Nat), 1024 ≤ e ∧ e ≤ 2046 ∧ f < 4503599627370496 ∧ z = e * 4503599627370496 + f ∧ FloatKind.f64.decode z = .number false (4503599627370496 + f) ((e : Int) - 1075) ∧ (4503599627370496 + f) * 2 ^ (e - 1) = N * K := by
  obtain ⟨hz, m, i, hd, hv⟩ := h.pos (by omega)
  obtain ⟨p1, p2, p3⟩ := read_place hd
  have hi : -52 < i := by
    refine Classical.byContradiction fun hn => ?_
    have h1 : m * 2 ^ (i + 1074).toNat < 9007199254740992 * 2 ^ (i + 1074).toNat := Nat.mul_lt_mul_of_pos_right p2 (Nat.two_pow_pos _)
    have h2 : 9007199254740992 * 2 ^ (i + 1074).toNat ≤ 2 * K := by
      have e : (9007199254740992 : Nat) = 2 ^ 53 := rfl
      rw [e, ← Nat.pow_add, K_eq, ← Nat.pow_succ']
      exact Nat.pow_le_pow_right (by omega) (by unfold kx; omega)
    have h3 : 2 * K ≤ N * K := Nat.mul_le_mul_right _ hN
    omega
  have hm := read_norm hd (by omega)
  obtain ⟨f1, f2, f3, f4⟩ := fields hz hd hm
  refine ⟨z / 4503599627370496, z % 4503599627370496, by omega, by omega, Nat.mod_lt _ (by omega), by omega, ?_, ?_⟩
  · rw [hd]
    simp only [Datum.number.injEq, true_and]
    omega
  · rw [f3, show 4503599627370496 + (m - 4503599627370496) = m by omega, ← hv]
    congr 2
    omega
/-- How it is ordered. -/
theorem Val.order {z N y M : Nat} (h : Val z N) (k : Val y M) : FloatKind.f64.format.order z y = some (compare (N : Int) (M : Int)) := by
  obtain ⟨_, s, m, i, hd, hv⟩ := h
  obtain ⟨_, s', m', i', hd', hv'⟩ := k
  rw [order_eq, hd, hd', order_sc _ _ _ _ _ _ (read_place hd).1 (read_place hd').1, hv, hv', compare_scale _ _ _ K_pos]
theorem val_two : Val 4611686018427387904 2 := by
  refine ⟨by omega, false, 4503599627370496, -51, ?_, ?_⟩
  · have := word_of (e := 1024) (f := 0) (by omega) (by omega) (by omega)
    exact this
  · have hh : 4503599627370496 * 2 ^ ((-51 : Int) + 1074).toNat = 2 * K := by
      have e : (4503599627370496 : Nat) = 2 ^ 52 := rfl
      rw [e, K_eq, ← Nat.pow_add, ← Nat.pow_succ', show 52 + ((-51 : Int) + 1074).toNat = kx.succ by unfold kx; omega]
    rw [sc_false, hh, Int.natCast_mul]
/-- One less its first digit. -/
theorem Val.less {z N e f p : Nat} (hN : 2 ≤ N) (he : 1024 ≤ e) (he2 : e ≤ 2046) (hf : f < 4503599627370496) (hd : FloatKind.f64.decode z = .number false (4503599627370496 + f) ((e : Int) - 1075)) (hv : (4503599627370496 + f) * 2 ^ (e - 1) = N * K)
    (hp : FloatKind.f64.decode p = .number false 4503599627370496 ((e : Int) - 1075)) :
    ∃ r N', floatBits .sub .f64 z p = some r ∧ Val r N' ∧ N' < N ∧ N' % 2 = N % 2 := by
  have hone : (FloatKind.f64.decode p).opposite = .number true 4503599627370496 ((e : Int) - 1075) := by rw [hp]; rfl
  have hr : floatBits .sub .f64 z p = some (FloatKind.f64.encode (.number false f ((e : Int) - 1075))) := by
    show (((FloatKind.f64.decode z).sum (FloatKind.f64.decode p).opposite).map FloatKind.f64.encode) = _
    rw [hone, hd]
    have hmin : min ((e : Int) - 1075) ((e : Int) - 1075) = (e : Int) - 1075 := Int.min_self _
    have hsum : Datum.sum (.number false (4503599627370496 + f) ((e : Int) - 1075)) (.number true 4503599627370496 ((e : Int) - 1075)) = some (.number (if signed false (4503599627370496 + f) (((e : Int) - 1075) - min ((e : Int) - 1075) ((e : Int) - 1075)).toNat + signed true 4503599627370496 (((e : Int) - 1075) - min ((e : Int) - 1075) ((e : Int) - 1075)).toNat = 0 then false && true else decide (signed false (4503599627370496 + f) (((e : Int) - 1075) - min ((e : Int) - 1075) ((e : Int) - 1075)).toNat + signed true 4503599627370496 (((e : Int) - 1075) - min ((e : Int) - 1075) ((e : Int) - 1075)).toNat < 0)) (signed false (4503599627370496 + f) (((e : Int) - 1075) - min ((e : Int) - 1075) ((e : Int) - 1075)).toNat + signed true 4503599627370496 (((e : Int) - 1075) - min ((e : Int) - 1075) ((e : Int) - 1075)).toNat).natAbs (min ((e : Int) - 1075) ((e : Int) - 1075))) := rfl
    have hT : signed false (4503599627370496 + f) 0 + signed true 4503599627370496 0 = (f : Int) := by
      unfold signed
      simp only [Bool.false_eq_true, if_false, if_true, Nat.shiftLeft_zero]
      omega
    rw [hmin, Int.sub_self] at hsum
    rw [show (0 : Int).toNat = 0 from rfl, hT] at hsum
    rw [hsum]
    have hsg : (if (f : Int) = 0 then false && true else decide ((f : Int) < 0)) = false := by
      split
      · rfl
      · exact decide_eq_false (by omega)
    rw [hsg, Int.natAbs_natCast]
    rfl
  obtain ⟨m', i', a1, a2, a3⟩ := write_fit false f f ((e : Int) - 1075) ((e : Int) - 1075) (by omega) (by omega) (by omega) (by omega) rfl
  have hpw : 4503599627370496 * 2 ^ (e - 1) = 2 ^ (e - 1023) * K := by
    have e0 : (4503599627370496 : Nat) = 2 ^ 52 := rfl
    rw [e0, K_eq, ← Nat.pow_add, ← Nat.pow_add, show 52 + (e - 1) = e - 1023 + kx by unfold kx; omega]
  have hle : 2 ^ (e - 1023) ≤ N := by
    refine Nat.le_of_mul_le_mul_right ?_ K_pos
    rw [← hpw, ← hv]
    exact Nat.mul_le_mul_right _ (by omega)
  have hev : 2 ^ (e - 1023) % 2 = 0 := by
    obtain ⟨d, hd2⟩ : ∃ d, e - 1023 = d + 1 := ⟨e - 1024, by omega⟩
    rw [hd2, Nat.pow_succ]
    omega
  have hpos := Nat.two_pow_pos (e - 1023)
  refine ⟨_, N - 2 ^ (e - 1023), hr, ⟨?_, false, m', i', a1, ?_⟩, by omega, by omega⟩
  · have h := FloatKind.f64.format.write_lt (.number false f ((e : Int) - 1075))
    exact Nat.lt_of_lt_of_eq h rfl
  · have hh : f * 2 ^ ((e : Int) - 1075 + 1074).toNat = (N - 2 ^ (e - 1023)) * K := by
      rw [Nat.sub_mul, ← hpw, ← hv, Nat.add_mul, show ((e : Int) - 1075 + 1074).toNat = e - 1 by omega]
      omega
    rw [a3, sc_false, hh, Int.natCast_mul]
/-- How large a word's number is. -/
def magn (z : Nat) : Nat := match FloatKind.f64.decode z with
  | .number s m i => (sc s m i).natAbs
  | _ => 0
theorem Val.magn {z N : Nat} (h : Val z N) : magn z = N * K := by
  obtain ⟨_, s, m, i, hd, hv⟩ := h
  unfold Go.Proofs.Ytnnmdceppjmooaa.magn
  rw [hd]
  simp only [hv, Int.natAbs_mul, Int.natAbs_natCast]
theorem magn_lt {z N r N' : Nat} (h : Val z N) (k : Val r N') (hl : N' < N) : magn r < magn z := by
  rw [h.magn, k.magn]
  exact Nat.mul_lt_mul_of_pos_right hl K_pos
/-- One times it. -/
theorem one_times {e : Nat} (he : 1024 ≤ e) (he2 : e ≤ 2046) : ∃ p, floatBits .mul .f64 4607182418800017408 (e * 4503599627370496) = some p ∧ p < 18446744073709551616 ∧ FloatKind.f64.decode p = .number false 4503599627370496 ((e : Int) - 1075) := by
  have hd := word_of (e := e) (f := 0) (by omega) he2 (by omega)
  rw [Nat.add_zero, Nat.add_zero] at hd
  refine ⟨FloatKind.f64.encode (.number false (4503599627370496 * 4503599627370496) ((-52) + ((e : Int) - 1075))), ?_, ?_, ?_⟩
  · show (((FloatKind.f64.decode 4607182418800017408).product (FloatKind.f64.decode (e * 4503599627370496))).map FloatKind.f64.encode) = _
    rw [hd, decode_one]
    rfl
  · have h := FloatKind.f64.format.write_lt (.number false (4503599627370496 * 4503599627370496) ((-52) + ((e : Int) - 1075)))
    exact Nat.lt_of_lt_of_eq h rfl
  · refine write_norm false _ 4503599627370496 _ _ (by omega) (by omega) (by omega) (by omega) (by omega) ?_
    have e0 : (4503599627370496 : Nat) = 2 ^ 52 := rfl
    rw [e0, ← Nat.pow_add, ← Nat.pow_add, ← Nat.pow_add]
    congr 1
    omega

/-! ### the integral part -/
theorem tr_lt (x : Nat) : tr x < 18446744073709551616 := by
  have h := FloatKind.f64.format.write_lt ((FloatKind.f64.decode x).integral .zero)
  exact Nat.lt_of_lt_of_eq h rfl
theorem tr_big {x : Nat} {s : Bool} {m : Nat} {i : Int} (h : FloatKind.f64.decode x = .number s m i) (hi : 0 ≤ i) : FloatKind.f64.decode (tr x) = .number s m i := by
  unfold tr
  rw [h]
  show FloatKind.f64.decode (FloatKind.f64.encode (.number s (Toward.zero.cut s (m <<< i.toNat) (-i).toNat) 0)) = _
  have e : (-i).toNat = 0 := by omega
  have hp := read_place h
  rw [e, cut_zero]
  refine write_norm s _ m 0 i (by omega) (by omega) hp.2.2 (read_norm h (by omega)) hp.2.1 ?_
  rw [Nat.shiftLeft_eq, Nat.mul_assoc, ← Nat.pow_add]
  congr 2
  omega
/-- It is an integer, with the number's sign. -/
theorem tr_int {x : Nat} {s : Bool} {m : Nat} {i : Int} (h : FloatKind.f64.decode x = .number s m i) : ∃ m' i' n, FloatKind.f64.decode (tr x) = .number s m' i' ∧ sc s m' i' = n * (K : Int) := by
  by_cases hi : 0 ≤ i
  · refine ⟨m, i, (if s = true then -1 else 1) * ((m * 2 ^ i.toNat : Nat) : Int), tr_big h hi, ?_⟩
    have e : (i + 1074).toNat = i.toNat + kx := by unfold kx; omega
    have e2 : m * 2 ^ (i + 1074).toNat = m * 2 ^ i.toNat * K := by rw [e, Nat.pow_add, K_eq, Nat.mul_assoc]
    cases s
    · rw [sc_false, e2, Int.natCast_mul]; simp
    · rw [sc_true, e2, Int.natCast_mul]; simp [Int.neg_mul]
  · have hb : (sc s m i).natAbs < 9007199254740992 * K := by
      rw [natAbs_sc, Nat.shiftLeft_eq]
      have hp := read_place h
      have h1 : 2 ^ (i + 1074).toNat ≤ K := by rw [K_eq]; exact Nat.pow_le_pow_right (by omega) (by unfold kx; omega)
      exact Nat.lt_of_lt_of_le (Nat.mul_lt_mul_of_pos_right hp.2.1 (Nat.two_pow_pos _)) (Nat.mul_le_mul_left _ h1)
    obtain ⟨m', i', a, _, c⟩ := tr_read h hb
    exact ⟨m', i', _, a, c⟩
/-- An integer is its own. -/
theorem tr_whole {x : Nat} {n : Int} (h : IsWhole x n) : ∃ s m i, FloatKind.f64.decode x = .number s m i ∧ ∃ m' i', FloatKind.f64.decode (tr x) = .number s m' i' ∧ sc s m' i' = n * (K : Int) := by
  obtain ⟨hn, s, m, i, hd, hv⟩ := h
  have hb : (sc s m i).natAbs < 9007199254740992 * K := by
    rw [hv, Int.natAbs_mul, Int.natAbs_natCast]
    exact Nat.mul_lt_mul_of_pos_right hn K_pos
  obtain ⟨m', i', a, _, c⟩ := tr_read hd hb
  refine ⟨s, m, i, hd, m', i', a, ?_⟩
  rw [c, hv, Int.mul_tdiv_cancel _ K_ne]

/-! ### signs and bits -/
theorem neg_read {z : Nat} {s : Bool} {m : Nat} {i : Int} (h : FloatKind.f64.decode z = .number s m i) : FloatKind.f64.decode (z ^^^ 9223372036854775808) = .number (!s) m i := by
  have e1 : (z ^^^ 9223372036854775808) % 9223372036854775808 = z % 9223372036854775808 := by
    have := Nat.xor_mod_two_pow (a := z) (b := 2 ^ 63) (n := 63)
    rw [Nat.mod_self] at this
    simpa using this
  have e2 : (z ^^^ 9223372036854775808) / 9223372036854775808 = (z / 9223372036854775808) ^^^ 1 := by
    have := Nat.xor_div_two_pow (a := z) (b := 2 ^ 63) (n := 63)
    rw [Nat.div_self (Nat.two_pow_pos 63)] at this
    exact this
  have e3 : ((z ^^^ 9223372036854775808) / 9223372036854775808 % 2 == 1) = !(z / 9223372036854775808 % 2 == 1) := by
    rw [e2]
    generalize z / 9223372036854775808 = a
    have hx : (a ^^^ 1) % 2 = (a % 2 + 1) % 2 := by
      have := Nat.xor_mod_two_pow (a := a) (b := 1) (n := 1)
      simp only [Nat.pow_one] at this
      rw [this]
      rcases Nat.mod_two_eq_zero_or_one a with h | h <;> rw [h] <;> rfl
    rcases Nat.mod_two_eq_zero_or_one a with h | h <;> rw [hx, h] <;> rfl
  rw [decode_eq] at h ⊢
  rw [e1, e3]
  by_cases a : z % 9223372036854775808 < 4503599627370496
  · rw [if_pos a] at h ⊢
    simp only [Datum.number.injEq] at h ⊢
    exact ⟨by rw [h.1], h.2⟩
  · rw [if_neg a] at h ⊢
    by_cases b : z % 9223372036854775808 < 9218868437227405312
    · rw [if_pos b] at h ⊢
      simp only [Datum.number.injEq] at h ⊢
      exact ⟨by rw [h.1], h.2⟩
    · rw [if_neg b] at h
      split at h <;> cases h
theorem sc_not (s : Bool) (m : Nat) (i : Int) : sc (!s) m i = -sc s m i := by
  cases s
  · rw [Bool.not_false, sc_true, sc_false]
  · rw [Bool.not_true, sc_true, sc_false, Int.neg_neg]
theorem and_not_sign {z : Nat} (h : z < 9223372036854775808) : z &&& (18446744073709551615 - 9218868437227405312) = z % 4503599627370496 := by
  have e : (18446744073709551615 - 9218868437227405312 : Nat) = 2 ^ 63 ||| (2 ^ 52 - 1) := by decide
  have h63 : z &&& 2 ^ 63 = 0 := by
    apply Nat.eq_of_testBit_eq
    intro j
    rw [Nat.testBit_and, Nat.testBit_two_pow, Nat.zero_testBit]
    by_cases hj : 63 = j
    · subst hj
      rw [Nat.testBit_lt_two_pow (by simpa using h)]
      rfl
    · simp [hj]
  rw [e, Nat.and_or_distrib_left, Nat.and_two_pow_sub_one_eq_mod, h63, Nat.zero_or]
theorem or_field {e f : Nat} (hf : f < 4503599627370496) : f ||| e * 4503599627370496 = e * 4503599627370496 + f := by
  have := Nat.two_pow_add_eq_or_of_lt (i := 52) (b := f) (by simpa using hf) e
  rw [Nat.or_comm, Nat.mul_comm e]
  exact this.symm
theorem val_zero : Val 0 0 := ⟨by omega, false, 0, -1074, by rw [decode_eq]; rfl, by rw [sc_zero]; simp⟩
end Go.Proofs.Ytnnmdceppjmooaa
