/-
  The doors of ceil, and the statement's own walk. Conditions: none.
-/
import Derived.Test.YtnnmdceppjmooaaCeil
import Derived.WalkKit
import Derived.WalkSpells
import Derived.WalkLawsBesides
import Derived.Lib.Hide
import Derived.Outline
namespace Go.Proofs.Ytnnmdceppjmooaa
open Go.RowKit
set_option linter.unusedVariables false

theorem cl_fin {x : Nat} {s : Bool} {m : Nat} {i : Int} (h : FloatKind.f64.decode x = .number s m i) : Fin (cl x) := by
  by_cases hi : 0 ≤ i
  · exact ⟨_, _, _, cl_big h hi⟩
  · obtain ⟨n, m', i', _, a, _⟩ := cl_small h (by omega)
    exact ⟨_, _, _, a⟩

theorem closC_any (w : World) : Calls Try.prog 31 #[] w fun e w' =>
    e = .returned (.func (.func 64) #[] #[.pointer (some ⟨w.heap.size, 0, none⟩)]) ∧
    w' = w.alloc (.cells #[.func (.func 46) #[] #[]] 87) := by
  go_enter Try.func31, Try.ntmps31
  go_wp2
  go_ret
  exact ⟨rfl, rfl⟩

def CeilTo (x : Nat) (w : World) (e : Ending) (w' : World) : Prop :=
  (((∃ s m i, FloatKind.f64.decode x = .number s m i) ∧ e = .returned (.tuple #[.float .f64 (cl x), .nilIface])) ∨ ((∀ s m i, FloatKind.f64.decode x ≠ .number s m i) ∧ ∃ t u, e = .returned (.tuple #[.float .f64 0, .iface t u]))) ∧ Below w.heap.size w w'
set_option maxRecDepth 100000 in
theorem partC_any (x : Nat) (hx : x < 18446744073709551616) (w : World) : Calls Try.prog 20 #[.float .f64 x] w (CeilTo x w) := by
  have HX := Lib.hid hx
  clear hx
  go_enter Try.func20, Try.ntmps20
  go_wp2_with fail
  refine (closC_any _).mono ?_
  rintro e w0 ⟨rfl, rfl⟩
  go_wp2_with fail
  refine (num_any x _).mono ?_
  rintro e w1 ⟨v, rfl, hn, hb1⟩
  have hI : Interp w1 (w.heap.size + 1) := Interp.below ⟨by simp, by simp [go_sem], by simp [go_sem]⟩ hb1
  have hcf : w1.cell? ⟨w.heap.size, 0, none⟩ = some (.func (.func 46) #[] #[]) := cell_keepz hb1 (by simp [go_sem])
  have hB : Below w.heap.size w w1 := (((Below.refl _ _).alloc (Nat.le_refl _) _).alloc (by simp) _).trans (hb1.mono (by simp; omega))
  have HI := Lib.hid hI
  have HF := Lib.hid hcf
  obtain ⟨px, rfl, hpx, hcx⟩ := hn
  have HC := Lib.hid hcx
  clear hb1 hI hcf hcx
  by_cases hd : ∃ s m i, FloatKind.f64.decode x = .number s m i
  · obtain ⟨s, m, i, hd⟩ := hd
    have HD := Lib.hid hd
    clear hd
    go_wp2_with fail
    refine (lift_num _ px _ x _ HD.out (cl_fin HD.out) HC.out HF.out).mono ?_
    rintro e w3 ⟨v, rfl, hn, hb3⟩
    have HN := Lib.hid hn
    have hB3 : Below w.heap.size w w3 := Below.next hB hb3
    clear hn hb3 hB
    go_wp2_with (go_at_call 28; refine (numOf_any _ _ _ HN.out).mono ?_; rintro e w4 ⟨rfl, rfl⟩)
    go_ret2
    exact ⟨.inl ⟨⟨_, _, _, HD.out⟩, rfl⟩, hB3⟩
  · have hd' : ∀ s m i, FloatKind.f64.decode x ≠ .number s m i := fun s m i e => hd ⟨s, m, i, e⟩
    have HD := Lib.hid hd'
    clear hd hd'
    go_wp2_with fail
    refine (lift_none _ px _ x _ HD.out HX.out HI.out HC.out HF.out).mono ?_
    rintro e w3 ⟨⟨t, u, rfl⟩, hb3⟩
    have hB3 : Below w.heap.size w w3 := Below.next hB hb3
    clear hb3 hB
    go_wp2_with (go_at_call 28; refine (numOf_err _ _ _).mono ?_; rintro e w4 ⟨rfl, rfl⟩)
    go_ret2
    exact ⟨.inr ⟨HD.out, _, _, rfl⟩, hB3⟩

theorem numC_yes (x : Nat) (hx : x < 18446744073709551616) (hd : ∃ s m i, FloatKind.f64.decode x = .number s m i) (w : World) : Calls Try.prog 9 #[.float .f64 x] w fun e w' => e = .returned (.tuple #[.float .f64 (cl x), .bool true]) ∧ Below w.heap.size w w' := by
  have HX := Lib.hid hx
  have HD := Lib.hid hd
  clear hx hd
  go_enter Try.func9, Try.ntmps9
  go_wp2_with fail
  refine (partC_any x HX.out _).mono ?_
  rintro e w1 ⟨⟨_, rfl⟩ | ⟨h, _⟩, hb⟩
  · go_wp2_with (go_at_call 18; refine (number_any _ _).mono ?_; rintro e w4 ⟨rfl, rfl⟩)
    go_ret2
    exact ⟨rfl, hb⟩
  · obtain ⟨s, m, i, hd⟩ := HD.out
    exact absurd hd (h s m i)
theorem numC_no (x : Nat) (hx : x < 18446744073709551616) (hd : ∀ s m i, FloatKind.f64.decode x ≠ .number s m i) (w : World) : Calls Try.prog 9 #[.float .f64 x] w fun e w' => e = .returned (.tuple #[.float .f64 0, .bool false]) ∧ Below w.heap.size w w' := by
  have HX := Lib.hid hx
  have HD := Lib.hid hd
  clear hx hd
  go_enter Try.func9, Try.ntmps9
  go_wp2_with fail
  refine (partC_any x HX.out _).mono ?_
  rintro e w1 ⟨⟨⟨s, m, i, hd⟩, _⟩ | ⟨_, t, u, rfl⟩, hb⟩
  · exact absurd hd (HD.out s m i)
  · go_wp2_with (go_at_call 18; refine (number_err _ _ _ _).mono ?_; rintro e w4 ⟨rfl, rfl⟩)
    go_ret2
    exact ⟨rfl, hb⟩

/-! ### what is finite -/
theorem bad_of {x : Nat} (h : ∀ s m i, FloatKind.f64.decode x ≠ .number s m i) : Bad x := by
  cases hd : FloatKind.f64.decode x with
  | number s m i => exact absurd hd (h s m i)
  | nan s t => exact bad_nan hd
  | infinity s =>
    right
    have h1 : FloatKind.f64.decode (x % 9223372036854775808) = .infinity false := by
      rw [decode_eq] at hd ⊢
      have e1 : x % 9223372036854775808 % 9223372036854775808 = x % 9223372036854775808 := by omega
      have e2 : (x % 9223372036854775808 / 9223372036854775808 % 2 == 1) = false := by
        have : x % 9223372036854775808 / 9223372036854775808 = 0 := by omega
        rw [this]; rfl
      rw [e1, e2]
      by_cases a : x % 9223372036854775808 < 4503599627370496
      · rw [if_pos a] at hd; cases hd
      · rw [if_neg a] at hd ⊢
        by_cases b : x % 9223372036854775808 < 9218868437227405312
        · rw [if_pos b] at hd; cases hd
        · rw [if_neg b] at hd ⊢
          by_cases c : x % 9223372036854775808 = 9218868437227405312
          · rw [if_pos c]
          · rw [if_neg c] at hd; cases hd
    rw [order_eq, order_eq, hd, h1, decode_max]
    cases s <;> exact ⟨rfl, rfl⟩
theorem finite_yes (x : Nat) (hx : x < 18446744073709551616) (hd : Fin x) (w : World) : Calls Try.prog 21 #[.float .f64 x] w fun e w' => e = .returned (.bool true) ∧ w = w' := by
  have h1 : (FloatKind.f64.format.order x x != some .eq) = false := by rw [fin_self hd]; rfl
  have HX := Lib.hid hx
  have HD := Lib.hid hd
  clear hx hd
  go_enter Try.func21, Try.ntmps21
  go_wp2_with (first | (go_at_call 32; refine (isNaN_any x _).mono ?_; rintro e w' ⟨rfl, rfl⟩) | (go_at_call 33; refine (isInf_any x HX.out HD.out _).mono ?_; rintro e w' ⟨rfl, rfl⟩))
  go_ret
  exact ⟨rfl, rfl⟩
theorem finite_no (x : Nat) (hx : x < 18446744073709551616) (hd : Bad x) (w : World) : Calls Try.prog 21 #[.float .f64 x] w fun e w' => e = .returned (.bool false) ∧ w = w' := by
  have HX := Lib.hid hx
  clear hx
  rcases hd with hd | ⟨hd, hg⟩
  · go_enter Try.func21, Try.ntmps21
    go_wp2_with (first | (go_at_call 32; refine (isNaN_any x _).mono ?_; rintro e w' ⟨rfl, rfl⟩))
    go_ret
    exact ⟨rfl, rfl⟩
  · go_enter Try.func21, Try.ntmps21
    go_wp2_with (first | (go_at_call 32; refine (isNaN_any x _).mono ?_; rintro e w' ⟨rfl, rfl⟩) | (go_at_call 33; refine (isInf_bad x HX.out hg _).mono ?_; rintro e w' ⟨rfl, rfl⟩))
    go_ret
    exact ⟨rfl, rfl⟩
theorem finL_yes (x b : Nat) (hx : x < 18446744073709551616) (hd : Fin x) (w : World) (hc : w.cell? ⟨b, 0, none⟩ = some (.float .f64 x)) : Calls Try.prog 10 #[.slice (some ⟨b, 0, none⟩) 1 1] w fun e w' => e = .returned (.bool true) ∧ w = w' := by
  have HX := Lib.hid hx
  have HD := Lib.hid hd
  clear hx hd
  go_enter Try.func10, Try.ntmps10
  go_wp2
  refine wp_loop_rounds 2 ?_
  rw [rounds_succ]
  go_wp2_with (go_at_call 21; refine (finite_yes x HX.out HD.out _).mono ?_; rintro e w' ⟨rfl, rfl⟩)
  rw [rounds_succ]
  go_wp2
  go_ret
  exact ⟨rfl, rfl⟩
theorem finL_no (x b : Nat) (hx : x < 18446744073709551616) (hd : Bad x) (w : World) (hc : w.cell? ⟨b, 0, none⟩ = some (.float .f64 x)) : Calls Try.prog 10 #[.slice (some ⟨b, 0, none⟩) 1 1] w fun e w' => e = .returned (.bool false) ∧ w = w' := by
  have HX := Lib.hid hx
  have HD := Lib.hid hd
  clear hx hd
  go_enter Try.func10, Try.ntmps10
  go_wp2
  refine wp_loop_rounds 1 ?_
  rw [rounds_succ]
  go_wp2_with (go_at_call 21; refine (finite_no x HX.out HD.out _).mono ?_; rintro e w' ⟨rfl, rfl⟩)
  go_ret
  exact ⟨rfl, rfl⟩

/-! ### the law -/
/-- The answer holds. -/
theorem law_facts {x : Nat} (h : Fin x) : (wholeB (cl x) = false ∧ (FloatKind.f64.format.order (cl x) x == some .eq) = true) ∨
    (wholeB (cl x) = true ∧ (FloatKind.f64.format.order (cl x) x == some .gt || FloatKind.f64.format.order (cl x) x == some .eq) = true ∧ ∃ r, floatBits .sub .f64 (cl x) 4607182418800017408 = some r ∧ (FloatKind.f64.format.order r x == some .lt) = true) := by
  obtain ⟨s, m, i, hd⟩ := h
  have hi := (read_place hd).1
  have key : ∀ (n : Int) (m' : Nat) (i' : Int), n.natAbs < 9007199254740992 → FloatKind.f64.decode (cl x) = .number s m' i' → -1074 ≤ i' → sc s m' i' = n * (K : Int) → sc s m i ≤ n * (K : Int) → n * (K : Int) < sc s m i + K →
      (wholeB (cl x) = true ∧ (FloatKind.f64.format.order (cl x) x == some .gt || FloatKind.f64.format.order (cl x) x == some .eq) = true ∧ ∃ r, floatBits .sub .f64 (cl x) 4607182418800017408 = some r ∧ (FloatKind.f64.format.order r x == some .lt) = true) := by
    intro n m' i' hn a1 a2 a3 a4 a5
    refine ⟨whole_of a1 a3 hn, ?_, ?_⟩
    · rw [order_eq, a1, hd, order_sc _ _ _ _ _ _ a2 hi, a3]
      rcases Int.lt_or_eq_of_le a4 with c | c
      · rw [compare_gt c]; rfl
      · rw [← c, compare_self]; rfl
    · obtain ⟨r, s', m'', i'', b1, b2, b3, b4⟩ := sub_one a1 a3 hn
      refine ⟨r, b1, ?_⟩
      rw [order_eq, b2, hd, order_sc _ _ _ _ _ _ b3 hi, b4, compare_lt]
      · rfl
      · rw [Int.sub_mul]; omega
  by_cases hi0 : 0 ≤ i
  · have a1 := cl_big hd hi0
    cases hw : wholeB (cl x) with
    | false =>
      left
      refine ⟨rfl, ?_⟩
      rw [order_eq, a1, hd, order_sc _ _ _ _ _ _ hi hi, compare_self]
      rfl
    | true =>
      right
      obtain ⟨hn, s', m', i', b1, b2⟩ := (whole_val hw).1
      rw [a1] at b1
      simp only [Ieee.Datum.number.injEq] at b1
      obtain ⟨rfl, rfl, rfl⟩ := b1
      have hK := K_pos
      have := key _ _ _ hn a1 hi b2 (by rw [b2]; omega) (by rw [b2]; omega)
      exact ⟨rfl, this.2⟩
  · right
    obtain ⟨n, m', i', hn, a1, a2, a3, a4, a5⟩ := cl_small hd (by omega)
    exact key n m' i' (by omega) a1 a2 a3 a4 a5

set_option maxRecDepth 100000 in
theorem walkCeil (x : Nat) (hw : (Lit.float .f64 x).wf = true) (w : World) : Calls Try.prog 4 #[.float .f64 x] w fun e w' => e = .returned (.bool true) ∧ Below w.heap.size w w' := by
  have hx : x < 18446744073709551616 := by
    have h : x < 2 ^ FloatKind.f64.format.width := of_decide_eq_true hw
    exact Nat.lt_of_lt_of_eq h rfl
  have HX := Lib.hid hx
  clear hx hw
  by_cases hd : Fin x
  · have HD := Lib.hid hd
    have hf := law_facts hd
    clear hd
    rcases hf with ⟨h1, h2⟩ | ⟨h1, h2, r, h3, h4⟩
    · have H1 := Lib.hid h1
      clear h1
      go_enter Try.func4, Try.ntmps4
      go_wp2_with fail
      refine (numC_yes x HX.out HD.out _).mono ?_
      rintro e w1 ⟨rfl, hb1⟩
      go_wp2_with fail
      refine (finL_yes x _ HX.out HD.out _ (by simp [go_sem])).mono ?_
      rintro e w2 ⟨rfl, rfl⟩
      have hB := hb1.alloc hb1.size (.cells #[.float .f64 x] 22)
      go_wp2_with (go_at_call 11; refine (whole_no _ H1.out _).mono ?_; rintro e w' ⟨rfl, rfl⟩)
      go_ret
      exact ⟨rfl, hB⟩
    · have H1 := Lib.hid h1
      have hs := fun w => run_float_arith (P := Try.prog) w .sub 22 .f64 _ _ _ h3
      clear h1 h3
      go_enter Try.func4, Try.ntmps4
      go_wp2_with fail
      refine (numC_yes x HX.out HD.out _).mono ?_
      rintro e w1 ⟨rfl, hb1⟩
      go_wp2_with fail
      refine (finL_yes x _ HX.out HD.out _ (by simp [go_sem])).mono ?_
      rintro e w2 ⟨rfl, rfl⟩
      have hB := hb1.alloc hb1.size (.cells #[.float .f64 x] 22)
      go_wp2_with (go_at_call 11; refine (whole_yes _ H1.out _).mono ?_; rintro e w' ⟨rfl, rfl⟩)
      go_ret
      exact ⟨rfl, hB⟩
  · have hd' : ∀ s m i, FloatKind.f64.decode x ≠ .number s m i := fun s m i e => hd ⟨s, m, i, e⟩
    have HD := Lib.hid hd'
    clear hd hd'
    go_enter Try.func4, Try.ntmps4
    go_wp2_with fail
    refine (numC_no x HX.out HD.out _).mono ?_
    rintro e w1 ⟨rfl, hb1⟩
    go_wp2_with fail
    refine (finL_no x _ HX.out (bad_of HD.out) _ (by simp [go_sem])).mono ?_
    rintro e w2 ⟨rfl, rfl⟩
    have hB := hb1.alloc hb1.size (.cells #[.float .f64 x] 22)
    go_wp2_with fail
    go_ret
    exact ⟨rfl, hB⟩
end Go.Proofs.Ytnnmdceppjmooaa
