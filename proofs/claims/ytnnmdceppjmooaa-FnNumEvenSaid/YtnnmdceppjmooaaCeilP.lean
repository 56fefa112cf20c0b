/-
  Plain facts on doubles made whole upwards, and less one. No program in sight. Conditions: none.
-/
import Derived.Test.YtnnmdceppjmooaaNum
namespace Go.Proofs.Ytnnmdceppjmooaa
open Go Ieee

theorem read_norm {x : Nat} {s : Bool} {m : Nat} {i : Int} (h : FloatKind.f64.decode x = .number s m i) (hi : -1074 < i) : 4503599627370496 ≤ m := by
  rw [decode_eq] at h
  generalize (x / 9223372036854775808 % 2 == 1) = neg at h
  generalize hr : x % 9223372036854775808 = r at h
  clear hr
  by_cases a : r < 4503599627370496
  · rw [if_pos a] at h
    simp only [Datum.number.injEq] at h
    omega
  · rw [if_neg a] at h
    by_cases b : r < 9218868437227405312
    · rw [if_pos b] at h
      simp only [Datum.number.injEq] at h
      omega
    · rw [if_neg b] at h
      by_cases c : r = 9218868437227405312
      · rw [if_pos c] at h; cases h
      · rw [if_neg c] at h; cases h

theorem gap_eq (m d : Nat) : m / 2 ^ min d (m.log2 + 2) = m / 2 ^ d ∧ (m % 2 ^ min d (m.log2 + 2) = 0 ↔ m % 2 ^ d = 0) := by
  by_cases hc : d ≤ m.log2 + 2
  · rw [Nat.min_eq_left hc]
    exact ⟨rfl, Iff.rfl⟩
  · rw [Nat.min_eq_right (by omega)]
    have hm : m < 2 ^ (m.log2 + 2) := by
      by_cases h0 : m = 0
      · subst h0; exact Nat.two_pow_pos _
      · have := (log_facts h0).2
        rw [Nat.pow_add]
        omega
    have hm2 : m < 2 ^ d := Nat.lt_of_lt_of_le hm (Nat.pow_le_pow_right (by omega) (by omega))
    rw [Nat.div_eq_of_lt hm, Nat.div_eq_of_lt hm2, Nat.mod_eq_of_lt hm, Nat.mod_eq_of_lt hm2]
    exact ⟨rfl, Iff.rfl⟩
theorem cut_up (s : Bool) (m d : Nat) : Toward.up.cut s m d = m / 2 ^ d + (if s = false ∧ m % 2 ^ d ≠ 0 then 1 else 0) := by
  obtain ⟨e1, e2⟩ := gap_eq m d
  unfold Toward.cut
  simp only [Nat.shiftLeft_eq, Nat.one_mul]
  rw [e1]
  congr 1
  cases s
  · by_cases h : m % 2 ^ d = 0
    · rw [if_neg (by simp [h]), e2.2 h]; rfl
    · rw [if_pos ⟨rfl, h⟩]
      have : ¬ m % 2 ^ min d (m.log2 + 2) = 0 := fun c => h (e2.1 c)
      simp [this]
  · simp
theorem cut_exact (neg : Bool) (a d : Nat) : Toward.even.cut neg (a * 2 ^ d) d = a := by
  obtain ⟨e1, e2⟩ := gap_eq (a * 2 ^ d) d
  have e3 : a * 2 ^ d / 2 ^ d = a := Nat.mul_div_cancel _ (Nat.two_pow_pos _)
  have e4 := e2.2 (Nat.mul_mod_left _ _)
  unfold Toward.cut
  simp only [Nat.shiftLeft_eq, Nat.one_mul]
  rw [e1, e3, e4]
  simp

theorem sc_zero (s : Bool) (i : Int) : sc s 0 i = 0 := by simp [sc, signed]
theorem sc_nat (s : Bool) (m : Nat) (i : Int) : sc s m i = signed s (m * 2 ^ (i + 1074).toNat) 0 := by
  unfold sc signed
  simp [Nat.shiftLeft_eq]

/-- A number that the format has, written and read: by its 53 digits. -/
theorem write_norm (neg : Bool) (mag a : Nat) (place q : Int) (hp : -1074 ≤ place) (hq : -1074 ≤ q) (hq2 : q ≤ 971) (ha1 : 4503599627370496 ≤ a) (ha2 : a < 9007199254740992)
    (he : a * 2 ^ (q + 1074).toNat = mag * 2 ^ (place + 1074).toNat) : FloatKind.f64.decode (FloatKind.f64.encode (.number neg mag place)) = .number neg a q := by
  have h0 : mag ≠ 0 := by
    intro h
    rw [h, Nat.zero_mul] at he
    have := Nat.mul_pos (show 0 < a by omega) (Nat.two_pow_pos (q + 1074).toNat)
    omega
  rw [write_eq, if_neg h0]
  obtain ⟨hl1, hl2⟩ := log_facts h0
  generalize mag.log2 = L at hl1 hl2
  obtain ⟨Q, hQ⟩ : ∃ Q, Q = (q + 1074).toNat := ⟨_, rfl⟩
  obtain ⟨P, hP⟩ : ∃ P, P = (place + 1074).toNat := ⟨_, rfl⟩
  rw [← hQ, ← hP] at he
  have b1 : 2 ^ (L + P) ≤ a * 2 ^ Q := by rw [he, Nat.pow_add]; exact Nat.mul_le_mul_right _ hl1
  have b2 : a * 2 ^ Q < 2 ^ (L + 1 + P) := by
    rw [he, Nat.pow_add, Nat.pow_succ]
    exact Nat.mul_lt_mul_of_pos_right hl2 (Nat.two_pow_pos _)
  have c1 : 2 ^ (52 + Q) ≤ a * 2 ^ Q := by rw [Nat.pow_add]; exact Nat.mul_le_mul_right _ (by simpa using ha1)
  have c2 : a * 2 ^ Q < 2 ^ (53 + Q) := by rw [Nat.pow_add]; exact Nat.mul_lt_mul_of_pos_right (by simpa using ha2) (Nat.two_pow_pos _)
  have d1 := pow_lt_of (Nat.lt_of_le_of_lt b1 c2)
  have d2 := pow_lt_of (Nat.lt_of_le_of_lt c1 b2)
  have hlast : max (place + (L : Nat) - 52) (-1074) = q := by omega
  simp only [hlast]
  have hk : Toward.even.cut neg (mag <<< (place - q).toNat) (q - place).toNat = a := by
    by_cases hc : q ≤ place
    · have e1 : (q - place).toNat = 0 := by omega
      have e2 : P = (place - q).toNat + Q := by omega
      rw [e1, cut_zero, Nat.shiftLeft_eq]
      rw [e2, Nat.pow_add, ← Nat.mul_assoc] at he
      exact (Nat.eq_of_mul_eq_mul_right (Nat.two_pow_pos Q) he).symm
    · have e1 : (place - q).toNat = 0 := by omega
      have e2 : Q = (q - place).toNat + P := by omega
      rw [e1, Nat.shiftLeft_zero]
      rw [e2, Nat.pow_add, ← Nat.mul_assoc] at he
      have := Nat.eq_of_mul_eq_mul_right (Nat.two_pow_pos P) he
      rw [← this]
      exact cut_exact neg a _
  rw [hk]
  exact rung_read neg q a hq hq2 ha2 (.inr ha1)

/-- An integer of at most 2 to the power of 53, however it is written. -/
theorem write_int (neg : Bool) (mag c : Nat) (place : Int) (hp : -1074 ≤ place) (hc : c ≤ 9007199254740992) (he : mag * 2 ^ (place + 1074).toNat = c * K) :
    ∃ m i, FloatKind.f64.decode (FloatKind.f64.encode (.number neg mag place)) = .number neg m i ∧ -1074 ≤ i ∧ sc neg m i = sc neg mag place := by
  by_cases h0 : mag = 0
  · subst h0
    refine ⟨0, -1074, ?_, by omega, by rw [sc_zero, sc_zero]⟩
    rw [write_eq, if_pos rfl]
    exact (word_read neg 0 (by omega)).trans (if_pos (by omega))
  · have hc0 : c ≠ 0 := by
      intro h
      rw [h, Nat.zero_mul] at he
      have := Nat.mul_pos (show 0 < mag by omega) (Nat.two_pow_pos (place + 1074).toNat)
      omega
    obtain ⟨hl1, hl2⟩ := log_facts hc0
    generalize c.log2 = L at hl1 hl2
    have hL : L < 54 := pow_lt_of (Nat.lt_of_le_of_lt hl1 (by simpa using Nat.lt_of_le_of_lt hc (by omega : 9007199254740992 < 18014398509481984)))
    by_cases hL52 : L ≤ 52
    · have hpw : 2 ^ L * 2 ^ (52 - L) = 4503599627370496 := by rw [← Nat.pow_add, show L + (52 - L) = 52 by omega]
      have hk1 : 4503599627370496 ≤ c * 2 ^ (52 - L) := by rw [← hpw]; exact Nat.mul_le_mul_right _ hl1
      have hk2 : c * 2 ^ (52 - L) < 9007199254740992 := by
        have : c * 2 ^ (52 - L) < 2 ^ L * 2 * 2 ^ (52 - L) := Nat.mul_lt_mul_of_pos_right hl2 (Nat.two_pow_pos _)
        have e : 2 ^ L * 2 * 2 ^ (52 - L) = 2 * (2 ^ L * 2 ^ (52 - L)) := by rw [Nat.mul_comm (2 ^ L) 2, Nat.mul_assoc]
        rw [e, hpw] at this
        omega
      have e1 : ((L : Int) - 52 + 1074).toNat = L + 1022 := by omega
      have e2 : c * 2 ^ (52 - L) * 2 ^ ((L : Int) - 52 + 1074).toNat = mag * 2 ^ (place + 1074).toNat := by
        rw [he, e1, Nat.mul_assoc, ← Nat.pow_add, show 52 - L + (L + 1022) = kx by unfold kx; omega]
        rfl
      refine ⟨_, _, write_norm neg mag _ place ((L : Int) - 52) hp (by omega) (by omega) hk1 hk2 e2, by omega, ?_⟩
      rw [sc_nat, sc_nat, e2]
    · have hL53 : L = 53 := by omega
      subst hL53
      have hc53 : c = 9007199254740992 := by
        have : 2 ^ 53 ≤ c := hl1
        simp at this
        omega
      have e1 : ((1 : Int) + 1074).toNat = 1 + kx := by unfold kx; omega
      have e2 : 4503599627370496 * 2 ^ ((1 : Int) + 1074).toNat = mag * 2 ^ (place + 1074).toNat := by
        rw [he, e1, hc53]
        unfold K
        rw [Nat.pow_add]
        generalize 2 ^ kx = z
        omega
      refine ⟨_, _, write_norm neg mag 4503599627370496 place 1 hp (by omega) (by omega) (by omega) (by omega) e2, by omega, ?_⟩
      rw [sc_nat, sc_nat, e2]

/-! ### the least integer above -/
def cl (x : Nat) : Nat := FloatKind.f64.encode ((FloatKind.f64.decode x).integral .up)
/-- A number whose last digit is no fraction stays. -/
theorem cl_big {x : Nat} {s : Bool} {m : Nat} {i : Int} (h : FloatKind.f64.decode x = .number s m i) (hi : 0 ≤ i) : FloatKind.f64.decode (cl x) = .number s m i := by
  unfold cl
  rw [h]
  show FloatKind.f64.decode (FloatKind.f64.encode (.number s (Toward.up.cut s (m <<< i.toNat) (-i).toNat) 0)) = _
  have e : (-i).toNat = 0 := by omega
  have hp := read_place h
  rw [e, cut_zero]
  refine write_norm s _ m 0 i (by omega) (by omega) hp.2.2 (read_norm h (by omega)) hp.2.1 ?_
  rw [Nat.shiftLeft_eq, Nat.mul_assoc, ← Nat.pow_add]
  congr 2
  omega

theorem signed_le {a b : Nat} : (a : Int) ≤ b ↔ a ≤ b := Int.ofNat_le
/-- A fraction goes up to an integer that is not less, and less than one more. -/
theorem cl_small {x : Nat} {s : Bool} {m : Nat} {i : Int} (h : FloatKind.f64.decode x = .number s m i) (hi : i < 0) :
    ∃ (n : Int) (m' : Nat) (i' : Int), n.natAbs ≤ 4503599627370496 ∧ FloatKind.f64.decode (cl x) = .number s m' i' ∧ -1074 ≤ i' ∧ sc s m' i' = n * (K : Int) ∧ sc s m i ≤ n * (K : Int) ∧ n * (K : Int) < sc s m i + K := by
  have hp := read_place h
  unfold cl
  rw [h]
  show ∃ (n : Int) (m' : Nat) (i' : Int), _ ∧ FloatKind.f64.decode (FloatKind.f64.encode (.number s (Toward.up.cut s (m <<< i.toNat) (-i).toNat) 0)) = .number s m' i' ∧ _
  obtain ⟨d, hd⟩ : ∃ d : Nat, d = (-i).toNat := ⟨_, rfl⟩
  have e : i.toNat = 0 := by omega
  rw [e, Nat.shiftLeft_zero, ← hd, cut_up]
  obtain ⟨P, hP⟩ : ∃ P, P = (i + 1074).toNat := ⟨_, rfl⟩
  have hK : (K : Nat) = 2 ^ d * 2 ^ P := by
    unfold K
    rw [← Nat.pow_add, show d + P = kx by unfold kx; omega]
  have hd1 : 2 ≤ 2 ^ d := by
    have : 2 ^ 1 ≤ 2 ^ d := Nat.pow_le_pow_right (by omega) (by omega)
    simpa using this
  have hdm := Nat.div_add_mod m (2 ^ d)
  have hml := Nat.mod_lt m (Nat.two_pow_pos d)
  have hq : m / 2 ^ d ≤ 4503599627370495 := by
    have : m / 2 ^ d ≤ m / 2 := Nat.div_le_div_left hd1 (by omega)
    omega
  have hu : sc s m i = signed s (m * 2 ^ P) 0 := by rw [sc_nat, ← hP]
  obtain ⟨c, hc⟩ : ∃ c, c = m / 2 ^ d + (if s = false ∧ m % 2 ^ d ≠ 0 then 1 else 0) := ⟨_, rfl⟩
  have hc52 : c ≤ 4503599627370496 := by rw [hc]; split <;> omega
  rw [← hc]
  obtain ⟨m', i', a1, a2, a3⟩ := mag_read s c (by omega)
  refine ⟨signed s c 0, m', i', ?_, a1, a2, a3, ?_, ?_⟩
  · unfold signed; cases s <;> simp <;> omega
  · rw [hu, hK]
    have hPp : (0 : Int) ≤ ((2 ^ P : Nat) : Int) := Int.natCast_nonneg _
    cases s with
    | false =>
      have hle : m ≤ c * 2 ^ d := by
        rw [hc]
        by_cases hr : m % 2 ^ d = 0
        · rw [if_neg (by simp [hr]), Nat.add_zero, Nat.mul_comm]; omega
        · rw [if_pos ⟨rfl, hr⟩, Nat.add_mul, Nat.mul_comm (m / 2 ^ d)]; omega
      simp only [signed, Bool.false_eq_true, if_false, Nat.shiftLeft_zero]
      rw [← Int.natCast_mul, signed_le, ← Nat.mul_assoc]
      exact Nat.mul_le_mul_right _ hle
    | true =>
      have hle : c * 2 ^ d ≤ m := by
        rw [hc, if_neg (by simp), Nat.add_zero, Nat.mul_comm]; omega
      simp only [signed, if_true, Nat.shiftLeft_zero]
      rw [Int.neg_mul, ← Int.natCast_mul, ← Nat.mul_assoc]
      have := Nat.mul_le_mul_right (2 ^ P) hle
      omega
  · rw [hu, hK]
    have hPp : 0 < 2 ^ P := Nat.two_pow_pos _
    cases s with
    | false =>
      have hlt : c * 2 ^ d < m + 2 ^ d := by
        rw [hc]
        by_cases hr : m % 2 ^ d = 0
        · rw [if_neg (by simp [hr]), Nat.add_zero, Nat.mul_comm]; omega
        · rw [if_pos ⟨rfl, hr⟩, Nat.add_mul, Nat.mul_comm (m / 2 ^ d)]; omega
      simp only [signed, Bool.false_eq_true, if_false, Nat.shiftLeft_zero]
      rw [← Int.natCast_mul, ← Int.natCast_add, Int.ofNat_lt, ← Nat.mul_assoc, ← Nat.add_mul]
      exact Nat.mul_lt_mul_of_pos_right hlt hPp
    | true =>
      have hlt : m < c * 2 ^ d + 2 ^ d := by
        rw [hc, if_neg (by simp), Nat.add_zero, Nat.mul_comm]; omega
      simp only [signed, if_true, Nat.shiftLeft_zero]
      rw [Int.neg_mul, ← Int.natCast_mul, ← Nat.mul_assoc]
      have := Nat.mul_lt_mul_of_pos_right hlt hPp
      rw [Nat.add_mul] at this
      omega

/-! ### which are whole -/
theorem whole_of {y : Nat} {s : Bool} {m : Nat} {i : Int} {n : Int} (h : FloatKind.f64.decode y = .number s m i) (hu : sc s m i = n * (K : Int)) (hn : n.natAbs < 9007199254740992) : wholeB y = true := by
  have hK := K_pos
  have hK' : (0 : Int) < K := by omega
  have ha : above y = true := by
    unfold above
    rw [order_n53 h, compare_gt]
    · rfl
    · rw [hu, ← Int.neg_mul]
      exact Int.mul_lt_mul_of_pos_right (by omega) hK'
  have hb : under y = true := by
    unfold under
    rw [order_p53 h, compare_lt]
    · rfl
    · rw [hu]
      exact Int.mul_lt_mul_of_pos_right (by omega) hK'
  have hsm : (sc s m i).natAbs < 9007199254740992 * K := by
    rw [hu, Int.natAbs_mul, Int.natAbs_natCast]
    exact Nat.mul_lt_mul_of_pos_right hn hK
  have ho : (FloatKind.f64.format.order y (tr y) == some .eq) = true := by
    rw [order_tr h hsm]
    have : (sc s m i).tdiv K * (K : Int) = sc s m i := by
      rw [hu, Int.mul_tdiv_cancel _ K_ne]
    rw [this, compare_self]
    rfl
  unfold wholeB
  rw [ha, hb, ho]
  rfl

/-! ### less one -/
theorem decode_one : FloatKind.f64.decode 4607182418800017408 = .number false 4503599627370496 (-52) := by
  rw [decode_eq, if_neg (by omega), if_pos (by omega)]
  rfl
theorem sc_one : sc false 4503599627370496 (-52) = (K : Int) := by
  obtain ⟨E, hE, hk⟩ : ∃ E, ((-52 : Int) + 1074).toNat = E ∧ kx = 52 + E := ⟨_, rfl, by unfold kx; omega⟩
  have e0 : (2 : Nat) ^ 52 = 4503599627370496 := rfl
  have e2 : 4503599627370496 * 2 ^ E = K := by
    unfold K
    rw [hk, Nat.pow_add, e0]
  rw [sc_nat, hE, e2]
  simp [signed]
theorem signed_abs (t : Int) (z : Bool) (k : Nat) : signed (if t = 0 then z else decide (t < 0)) t.natAbs k = t * ((2 ^ k : Nat) : Int) := by
  unfold signed
  rw [Nat.shiftLeft_eq, Int.natCast_mul]
  by_cases h0 : t = 0
  · subst h0; simp
  · rw [if_neg h0]
    by_cases hn : t < 0
    · rw [decide_eq_true hn, if_pos rfl]
      have : (t.natAbs : Int) = -t := by omega
      rw [this, Int.neg_mul, Int.neg_neg]
    · rw [decide_eq_false hn, if_neg (by simp)]
      have : (t.natAbs : Int) = t := by omega
      rw [this]
/-- An integer (a double) less one. -/
theorem sub_one {y : Nat} {s : Bool} {m : Nat} {i : Int} {n : Int} (h : FloatKind.f64.decode y = .number s m i) (hu : sc s m i = n * (K : Int)) (hn : n.natAbs < 9007199254740992) :
    ∃ r s' m' i', floatBits .sub .f64 y 4607182418800017408 = some r ∧ FloatKind.f64.decode r = .number s' m' i' ∧ -1074 ≤ i' ∧ sc s' m' i' = (n - 1) * (K : Int) := by
  have hi := (read_place h).1
  have hone : (FloatKind.f64.decode 4607182418800017408).opposite = .number true 4503599627370496 (-52) := by rw [decode_one]; rfl
  obtain ⟨base, hb⟩ : ∃ base, base = min i (-52 : Int) := ⟨_, rfl⟩
  obtain ⟨T, hT⟩ : ∃ T, T = signed s m (i - base).toNat + signed true 4503599627370496 ((-52 : Int) - base).toNat := ⟨_, rfl⟩
  have hr : floatBits .sub .f64 y 4607182418800017408 = some (FloatKind.f64.encode (.number (if T = 0 then s && true else decide (T < 0)) T.natAbs base)) := by
    show (((FloatKind.f64.decode y).sum (FloatKind.f64.decode 4607182418800017408).opposite).map FloatKind.f64.encode) = _
    rw [hone, h]
    show some (FloatKind.f64.encode _) = _
    rw [hT, hb]
  have hval : T * ((2 ^ (base + 1074).toNat : Nat) : Int) = (n - 1) * (K : Int) := by
    rw [hT, Int.add_mul, ← signed_mul, ← signed_mul]
    have e1 : (i - base).toNat + (base + 1074).toNat = (i + 1074).toNat := by omega
    have e2 : ((-52 : Int) - base).toNat + (base + 1074).toNat = ((-52 : Int) + 1074).toNat := by omega
    rw [e1, e2]
    show sc s m i + sc true 4503599627370496 (-52) = _
    have e3 : sc true 4503599627370496 (-52) = -(K : Int) := by rw [← sc_one]; simp [sc, signed]
    rw [hu, e3, Int.sub_mul]
    omega
  have hnat : T.natAbs * 2 ^ (base + 1074).toNat = (n - 1).natAbs * K := by
    have := congrArg Int.natAbs hval
    rw [Int.natAbs_mul, Int.natAbs_mul, Int.natAbs_natCast, Int.natAbs_natCast] at this
    exact this
  obtain ⟨m', i', a1, a2, a3⟩ := write_int (if T = 0 then s && true else decide (T < 0)) T.natAbs (n - 1).natAbs base (by omega) (by omega) hnat
  refine ⟨_, _, m', i', hr, a1, a2, ?_⟩
  rw [a3]
  unfold sc
  rw [signed_abs, hval]
end Go.Proofs.Ytnnmdceppjmooaa
