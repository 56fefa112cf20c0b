/-
  Ldexp of two. Conditions: none.
-/
import Derived.Test.YtnnmdceppjmooaaModW
import Derived.WalkKit
import Derived.WalkSpells
import Derived.WalkLawsBesides
import Derived.Lib.Hide
import Derived.Outline
import Derived.Laws.BitsAllLaws
namespace Go.Proofs.Ytnnmdceppjmooaa
open Go.RowKit
set_option linter.unusedVariables false
set_option linter.unusedSimpArgs false

theorem wd_two : Wd 4611686018427387904 1024 0 := ⟨by omega, by omega, by omega, by omega⟩
set_option maxRecDepth 100000 in
set_option maxHeartbeats 1000000 in
theorem ldexp_in (z e : Nat) (h : Wd z 1024 0) (he : 1024 ≤ e) (he2 : e ≤ 2046) (k : Int) (hk : k = (e : Int) - 1024) (w : World) : Calls Try.prog 86 #[.float .f64 z, .int .i64 k] w fun en w' => (∃ p, en = .returned (.float .f64 p) ∧ p < 18446744073709551616 ∧ FloatKind.f64.decode p = .number false 4503599627370496 ((e : Int) - 1075)) ∧ w = w' := by
  have H := Lib.hid h
  have h0 := h.nonzero
  have HX : Hid (z < 18446744073709551616) := by have := h.lt; show _ < _; omega
  have HF := Lib.hid h.fin
  have sh : (z : Int) / 4503599627370496 = 1024 := by have := h.eq; have := h.f1; omega
  have an : bits .and .i64 1024 2047 = 1024 := by decide
  have na : bits .andNot .u64 (z : Int) 9218868437227405312 = 0 := by
    have := u64_andNot_nat z 9218868437227405312 HX.out (by omega)
    rw [show ((9218868437227405312 : Nat) : Int) = 9218868437227405312 from rfl] at this
    rw [this, and_not_sign h.lt]
    have := h.eq; omega
  obtain ⟨q, hq⟩ : ∃ q : Nat, q = e * 4503599627370496 := ⟨_, rfl⟩
  have hnn : (FloatKind.f64.format.order z z != some .eq) = false := by rw [fin_self h.fin]; rfl
  have ro : bits .or .u64 0 (((e : Int) - 1024 + 1 + 1023) * 4503599627370496) = (q : Int) := by
    rw [show ((e : Int) - 1024 + 1 + 1023) * 4503599627370496 = (q : Int) by omega]
    have := u64_or_nat 0 q (by omega) (by omega)
    rw [show ((0 : Nat) : Int) = 0 from rfl] at this
    rw [this, Nat.zero_or]
  have hb := bits_run z
  have hfb : ∀ w, (callFunc 67 #[.int .u64 (q : Int)]).run Try.prog w = .ok (.value (.float .f64 q)) w := fun w => frombits_run q w
  obtain ⟨p, hp1, hp2, hp3⟩ := one_times he he2
  have HP := Lib.hid (And.intro hp2 hp3)
  rw [← hq] at hp1
  have hs := fun w => run_float_arith (P := Try.prog) w .mul 22 .f64 _ _ _ hp1
  clear h hp2 hp3 hq
  go_enter Try.func86, Try.ntmps86
  go_wp2_with (first
    | (go_at_call 33; refine (isInf_any z HX.out HF.out _).mono ?_; rintro e w' ⟨rfl, rfl⟩)
    | (go_at_call 32; refine (isNaN_any z _).mono ?_; rintro e w' ⟨rfl, rfl⟩)
    | (go_at_call 87; refine (norm_any z 1024 0 H.out _).mono ?_; rintro e w' ⟨rfl, rfl⟩))
  go_ret
  exact ⟨⟨p, rfl, HP.out⟩, rfl⟩
set_option maxRecDepth 100000 in
theorem Ldexp_any (z e : Nat) (h : Wd z 1024 0) (he : 1024 ≤ e) (he2 : e ≤ 2046) (k : Int) (hk : k = (e : Int) - 1024) (w : World) : Calls Try.prog 80 #[.float .f64 z, .int .i64 k] w fun en w' => (∃ p, en = .returned (.float .f64 p) ∧ p < 18446744073709551616 ∧ FloatKind.f64.decode p = .number false 4503599627370496 ((e : Int) - 1075)) ∧ w = w' := by
  have H := Lib.hid h
  have HK := Lib.hid hk
  clear h hk
  go_enter Try.func80, Try.ntmps80
  go_wp2_with (first
    | (go_at_call 86; refine (ldexp_in z e H.out he he2 k HK.out _).mono ?_; rintro e w' ⟨⟨p, rfl, hp⟩, rfl⟩))
  go_ret
  exact ⟨⟨p, rfl, hp⟩, rfl⟩
set_option maxRecDepth 100000 in
theorem Frexp_any (z e f : Nat) (h : Wd z e f) (w : World) : Calls Try.prog 79 #[.float .f64 z] w fun en w' => (∃ k : Int, k = (e : Int) - 1022 ∧ en = .returned (.tuple #[.float .f64 (4602678819172646912 + f), .int .i64 k])) ∧ w = w' := by
  have H := Lib.hid h
  clear h
  go_enter Try.func79, Try.ntmps79
  go_wp2_with (first
    | (go_at_call 84; refine (frexp_in z e f H.out _).mono ?_; rintro en w' ⟨⟨k, hk, rfl⟩, rfl⟩))
  go_ret2
  exact ⟨⟨_, by omega, rfl⟩, rfl⟩
theorem abs_small (z : Nat) (h : z < 9223372036854775808) (w : World) : Calls Try.prog 47 #[.float .f64 z] w fun e w' => e = .returned (.float .f64 z) ∧ w = w' := by
  have := abs_any z (by omega) w
  rw [Nat.mod_eq_of_lt h] at this
  exact this
/-- Half against a field. -/
theorem not_less_field {e f : Nat} (he : 1 ≤ e) (he2 : e ≤ 2046) (h : f < 4503599627370496) : (FloatKind.f64.format.order (e * 4503599627370496 + f) (e * 4503599627370496 + 0) == some .lt) = false := by
  rw [order_words he he2 h he he2 (by omega)]
  apply not_lt
  exact Int.ofNat_le.2 (Nat.mul_le_mul_right _ (Nat.add_le_add_left (Nat.zero_le f) _))
theorem not_less_half {f : Nat} (h : f < 4503599627370496) : (FloatKind.f64.format.order (4602678819172646912 + f) (4602678819172646912 + 0) == some .lt) = false :=
  not_less_field (e := 1022) (by omega) (by omega) h
end Go.Proofs.Ytnnmdceppjmooaa
