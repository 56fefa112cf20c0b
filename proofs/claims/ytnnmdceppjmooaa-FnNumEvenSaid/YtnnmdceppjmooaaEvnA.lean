/-
  The two questions on a double, and the closure that lifts them. Conditions: none.
-/
import Derived.Test.YtnnmdceppjmooaaModZ
import Derived.WalkKit
import Derived.WalkSpells
import Derived.WalkLawsBesides
import Derived.Lib.Hide
import Derived.Outline
import Derived.Deep.RegionHeld3
namespace Go.Proofs.Ytnnmdceppjmooaa
open Go.RowKit
set_option linter.unusedVariables false
set_option linter.unusedSimpArgs false

theorem Left.whole {x r : Nat} {s : Bool} {m : Nat} {i n n' : Int} (h : FloatKind.f64.decode (tr x) = .number s m i) (hv : sc s m i = n' * (K : Int)) (hl : Left n' r) (hw : IsWhole x n) : (FloatKind.f64.format.order r 0 == some .eq) = decide (n % 2 = 0) := by
  obtain ⟨_, _, _, _, m', i', h1, h2⟩ := tr_whole hw
  rw [h] at h1
  simp only [Ieee.Datum.number.injEq] at h1
  obtain ⟨rfl, rfl, rfl⟩ := h1
  rw [hv] at h2
  have := Int.eq_of_mul_eq_mul_right K_ne h2
  subst this
  exact hl
theorem num_or (x : Nat) : (∃ s m i, FloatKind.f64.decode x = .number s m i) ∨ ∀ s m i, FloatKind.f64.decode x ≠ .number s m i := by
  cases h : FloatKind.f64.decode x with
  | number s m i => exact .inl ⟨_, _, _, rfl⟩
  | infinity s => exact .inr fun _ _ _ h => by cases h
  | nan s t => exact .inr fun _ _ _ h => by cases h
theorem not_whole {x : Nat} (h : ∀ s m i, FloatKind.f64.decode x ≠ .number s m i) (n : Int) : ¬ IsWhole x n := by
  rintro ⟨_, s, m, i, hd, _⟩
  exact h s m i hd
set_option maxRecDepth 100000 in
theorem even_any (x : Nat) (hx : x < 18446744073709551616) (w : World) : Calls Try.prog 51 #[.float .f64 x] w fun e w' => ∃ b k, e = .returned (.bool b) ∧ w' = w.drewN k ∧ ∀ n, IsWhole x n → b = decide (n % 2 = 0) := by
  rcases num_or x with ⟨s, m, i, hd⟩ | hd
  · obtain ⟨m', i', n', h1, h2⟩ := tr_int hd
    have HD := Lib.hid hd
    have HL := Lib.hid (fun r (hl : Left n' r) n (hw : IsWhole x n) => hl.whole h1 h2 hw)
    have HM := Lib.hid (fun w => Mod_num (tr x) 4611686018427387904 (tr_lt x) h1 h2 wd_two val_two w)
    clear hx hd h1 h2
    go_enter Try.func51, Try.ntmps51
    go_wp2_with (first
      | (go_at_call 52; refine (modf_num HD.out _).mono ?_; rintro e w' ⟨⟨q, rfl⟩, rfl⟩)
      | (go_at_call 53; refine (HM.out _).mono ?_; rintro e w' ⟨⟨r, rfl, hr⟩, rfl⟩))
    go_ret
    exact ⟨_, 0, rfl, rfl, HL.out r hr⟩
  · have HD := Lib.hid hd
    have HX := Lib.hid hx
    have HN := Lib.hid (not_whole hd)
    clear hx hd
    go_enter Try.func51, Try.ntmps51
    go_wp2_with (first
      | (go_at_call 52; refine (modf_none HD.out HX.out _).mono ?_; rintro e w' ⟨r, q, k, rfl, hr1, hr2, rfl⟩)
      | (go_at_call 53; refine (Mod_bad r _ hr2 hr1 wd_two _).mono ?_; rintro e w' ⟨⟨r2, rfl⟩, rfl⟩))
    go_ret
    exact ⟨_, k, rfl, rfl, fun n hn => absurd hn (HN.out n)⟩
set_option maxRecDepth 100000 in
theorem odd_any (x : Nat) (hx : x < 18446744073709551616) (w : World) : Calls Try.prog 54 #[.float .f64 x] w fun e w' => ∃ b k, e = .returned (.bool b) ∧ w' = w.drewN k ∧ ∀ n, IsWhole x n → b = !decide (n % 2 = 0) := by
  rcases num_or x with ⟨s, m, i, hd⟩ | hd
  · obtain ⟨m', i', n', h1, h2⟩ := tr_int hd
    have HD := Lib.hid hd
    have HL := Lib.hid (fun r (hl : Left n' r) n (hw : IsWhole x n) => congrArg (fun b => !b) (hl.whole h1 h2 hw))
    have HM := Lib.hid (fun w => Mod_num (tr x) 4611686018427387904 (tr_lt x) h1 h2 wd_two val_two w)
    clear hx hd h1 h2
    go_enter Try.func54, Try.ntmps54
    go_wp2_with (first
      | (go_at_call 52; refine (modf_num HD.out _).mono ?_; rintro e w' ⟨⟨q, rfl⟩, rfl⟩)
      | (go_at_call 53; refine (HM.out _).mono ?_; rintro e w' ⟨⟨r, rfl, hr⟩, rfl⟩))
    go_ret
    exact ⟨_, 0, rfl, rfl, HL.out r hr⟩
  · have HD := Lib.hid hd
    have HX := Lib.hid hx
    have HN := Lib.hid (not_whole hd)
    clear hx hd
    go_enter Try.func54, Try.ntmps54
    go_wp2_with (first
      | (go_at_call 52; refine (modf_none HD.out HX.out _).mono ?_; rintro e w' ⟨r, q, k, rfl, hr1, hr2, rfl⟩)
      | (go_at_call 53; refine (Mod_bad r _ hr2 hr1 wd_two _).mono ?_; rintro e w' ⟨⟨r2, rfl⟩, rfl⟩))
    go_ret
    exact ⟨_, k, rfl, rfl, fun n hn => absurd hn (HN.out n)⟩
end Go.Proofs.Ytnnmdceppjmooaa
