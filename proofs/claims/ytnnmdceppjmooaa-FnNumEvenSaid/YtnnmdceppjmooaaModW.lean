/-
  Frexp, Ldexp, Mod by two, Modf. Conditions: none.
-/
import Derived.Test.YtnnmdceppjmooaaModP
import Derived.WalkKit
import Derived.WalkSpells
import Derived.WalkLawsBesides
import Derived.Lib.Hide
import Derived.Outline
import Derived.Laws.BitsAllLaws
namespace Go.Proofs.Ytnnmdceppjmooaa
open Go.RowKit
set_option linter.unusedVariables false
set_option linter.unusedSimpArgs false

theorem not_lt {A B : Int} (h : B ≤ A) : (some (compare A B) == some Ordering.lt) = false := by
  rcases Int.lt_or_eq_of_le h with h | h
  · rw [compare_gt h]; rfl
  · rw [h, compare_self]; rfl
theorem order_words {e f e' f' : Nat} (he : 1 ≤ e) (he2 : e ≤ 2046) (hf : f < 4503599627370496) (he' : 1 ≤ e') (he2' : e' ≤ 2046) (hf' : f' < 4503599627370496) :
    FloatKind.f64.format.order (e * 4503599627370496 + f) (e' * 4503599627370496 + f') = some (compare (((4503599627370496 + f) * 2 ^ (e - 1) : Nat) : Int) (((4503599627370496 + f') * 2 ^ (e' - 1) : Nat) : Int)) := by
  rw [order_eq, word_of he he2 hf, word_of he' he2' hf', order_sc _ _ _ _ _ _ (by omega) (by omega), sc_false, sc_false]
  rw [show ((e : Int) - 1075 + 1074).toNat = e - 1 by omega, show ((e' : Int) - 1075 + 1074).toNat = e' - 1 by omega]
/-- A word with fields. -/
structure Wd (z e f : Nat) : Prop where
  eq : z = e * 4503599627370496 + f
  e1 : 1024 ≤ e
  e2 : e ≤ 2046
  f1 : f < 4503599627370496
theorem Wd.lt {z e f : Nat} (h : Wd z e f) : z < 9223372036854775808 := by have := h.eq; have := h.e2; have := h.f1; omega
theorem Wd.fin {z e f : Nat} (h : Wd z e f) : Fin z := by
  rw [h.eq]
  exact ⟨_, _, _, word_of (by have := h.e1; omega) h.e2 h.f1⟩
theorem Wd.nonzero {z e f : Nat} (h : Wd z e f) : (FloatKind.f64.format.order z 0 == some .eq) = false := by
  have hd := word_of (e := e) (f := f) (by have := h.e1; omega) h.e2 h.f1
  have h0 : FloatKind.f64.decode 0 = .number false 0 (-1074) := by rw [decode_eq]; rfl
  rw [order_eq, h.eq, hd, h0, order_sc _ _ _ _ _ _ (by have := h.e1; omega) (by omega), sc_zero, sc_false]
  rw [compare_gt]
  · rfl
  · have := Nat.mul_pos (show 0 < 4503599627370496 + f by omega) (Nat.two_pow_pos ((e : Int) - 1075 + 1074).toNat)
    omega
theorem Wd.normal {z e f : Nat} (h : Wd z e f) : (FloatKind.f64.format.order (z % 9223372036854775808) 4503599627370496 == some .lt) = false := by
  have hz := h.lt
  have e1 : z % 9223372036854775808 = e * 4503599627370496 + f := by rw [Nat.mod_eq_of_lt hz]; exact h.eq
  rw [e1]
  have := order_words (e := e) (f := f) (e' := 1) (f' := 0) (by have := h.e1; omega) h.e2 h.f1 (by omega) (by omega) (by omega)
  rw [show 1 * 4503599627370496 + 0 = 4503599627370496 by omega] at this
  rw [this]
  apply not_lt
  have hp := Nat.two_pow_pos (e - 1)
  have : 4503599627370496 * 1 ≤ (4503599627370496 + f) * 2 ^ (e - 1) := Nat.mul_le_mul (by omega) hp
  simp only [Nat.sub_self, Nat.pow_zero, Nat.add_zero]
  exact Int.ofNat_le.2 this

set_option maxRecDepth 100000 in
theorem norm_any (z e f : Nat) (h : Wd z e f) (w : World) : Calls Try.prog 87 #[.float .f64 z] w fun e w' => e = .returned (.tuple #[.float .f64 z, .int .i64 0]) ∧ w = w' := by
  have hn := h.normal
  have HX : Hid (z < 18446744073709551616) := by have := h.lt; show _ < _; omega
  clear h
  go_enter Try.func87, Try.ntmps87
  go_wp2_with (go_at_call 47; refine (abs_any z HX.out _).mono ?_; rintro e w' ⟨rfl, rfl⟩)
  go_ret2
  exact ⟨rfl, rfl⟩
set_option maxRecDepth 100000 in
set_option maxHeartbeats 1000000 in
theorem frexp_in (z e f : Nat) (h : Wd z e f) (w : World) : Calls Try.prog 84 #[.float .f64 z] w fun en w' => (∃ k : Int, k = (e : Int) - 1022 ∧ en = .returned (.tuple #[.float .f64 (4602678819172646912 + f), .int .i64 k])) ∧ w = w' := by
  have H := Lib.hid h
  have h0 := h.nonzero
  have hnn : (FloatKind.f64.format.order z z != some .eq) = false := by rw [fin_self h.fin]; rfl
  have HX : Hid (z < 18446744073709551616) := by have := h.lt; show _ < _; omega
  have HF := Lib.hid h.fin
  have e1 := h.e1
  have e2 := h.e2
  obtain ⟨q, hq⟩ : ∃ q : Nat, q = 4602678819172646912 + f := ⟨_, rfl⟩
  have sh : (z : Int) / 4503599627370496 = (e : Int) := by have := h.eq; have := h.f1; omega
  have an : bits .and .u64 (e : Int) 2047 = (e : Int) := by
    have := u64_and_nat e 2047 (by omega) (by omega)
    rw [show ((2047 : Nat) : Int) = 2047 from rfl] at this
    rw [this]
    congr 1
    have hm := Nat.and_two_pow_sub_one_eq_mod e 11
    rw [show (2 ^ 11 - 1 : Nat) = 2047 by decide, show (2 ^ 11 : Nat) = 2048 by decide] at hm
    rw [hm]
    omega
  have na : bits .andNot .u64 (z : Int) 9218868437227405312 = (f : Int) := by
    have := u64_andNot_nat z 9218868437227405312 HX.out (by omega)
    rw [show ((9218868437227405312 : Nat) : Int) = 9218868437227405312 from rfl] at this
    rw [this, and_not_sign h.lt]
    congr 1
    have := h.eq; have := h.f1; omega
  have ro : bits .or .u64 (f : Int) 4602678819172646912 = (q : Int) := by
    have := u64_or_nat f 4602678819172646912 (by have := h.f1; omega) (by omega)
    rw [show ((4602678819172646912 : Nat) : Int) = 4602678819172646912 from rfl] at this
    rw [this, hq]
    congr 1
    have := or_field (e := 1022) h.f1
    rw [show 1022 * 4503599627370496 = 4602678819172646912 by omega] at this
    exact this
  have hb := bits_run z
  have hfb := fun n w => frombits_run n w
  rw [← hq]
  clear h hq
  go_enter Try.func84, Try.ntmps84
  go_wp2_with (first
    | (go_at_call 33; refine (isInf_any z HX.out HF.out _).mono ?_; rintro e w' ⟨rfl, rfl⟩)
    | (go_at_call 32; refine (isNaN_any z _).mono ?_; rintro e w' ⟨rfl, rfl⟩)
    | (go_at_call 87; refine (norm_any z e f H.out _).mono ?_; rintro e w' ⟨rfl, rfl⟩))
  go_ret2
  exact ⟨⟨_, by omega, rfl⟩, rfl⟩
end Go.Proofs.Ytnnmdceppjmooaa
