/-
  The statement FnNumEven's own walk. Conditions: none.
-/
import Derived.Test.YtnnmdceppjmooaaEvnB
import Derived.WalkKit
import Derived.WalkSpells
import Derived.WalkLawsBesides
import Derived.Lib.Hide
import Derived.Outline
namespace Go.Proofs.Ytnnmdceppjmooaa
open Go.RowKit
set_option linter.unusedVariables false
set_option linter.unusedSimpArgs false

theorem rem_two (n : Int) : (n.tmod 2 == 0) = decide (n % 2 = 0) := by
  rw [Bool.eq_iff_iff]
  simp only [beq_iff_eq, decide_eq_true_eq]
  have h := Int.mul_tdiv_add_tmod n 2
  have h2 : n.tmod 2 = 0 ∨ n.tmod 2 ≠ 0 := by omega
  constructor
  · intro e; omega
  · intro e
    exact Int.tmod_eq_zero_of_dvd (by omega)
set_option maxHeartbeats 1000000 in
set_option maxRecDepth 100000 in
theorem walkEven (x : Nat) (hw : (Lit.float .f64 x).wf = true) (w : World) : Calls Try.prog 5 #[.float .f64 x] w fun e w' => e = .returned (.bool true) ∧ Below w.heap.size w w' := by
  have hx : x < 18446744073709551616 := by
    have h : x < 2 ^ FloatKind.f64.format.width := of_decide_eq_true hw
    exact Nat.lt_of_lt_of_eq h rfl
  have HX := Lib.hid hx
  clear hx hw
  rcases h1 : wholeB x with _ | _
  · have H1 := Lib.hid h1
    clear h1
    go_enter Try.func5, Try.ntmps5
    go_wp2_with fail
    refine (num_even x HX.out _).mono ?_
    rintro e w1 ⟨b, rfl, hbv, hb1⟩
    clear hbv
    go_wp2_with fail
    refine (num_odd x HX.out _).mono ?_
    rintro e w2 ⟨b2, rfl, hbv2, hb2⟩
    have HB := Lib.hid (Below.next hb1 hb2)
    clear hbv2 hb1 hb2
    go_wp2_with (go_at_call 11; refine (whole_no _ H1.out _).mono ?_; rintro e w' ⟨rfl, rfl⟩)
    go_ret
    exact ⟨rfl, HB.out⟩
  · obtain ⟨hw, _⟩ := whole_val h1
    have H1 := Lib.hid h1
    have HW := Lib.hid hw
    obtain ⟨n, hn⟩ : ∃ n, n = valOf x := ⟨_, rfl⟩
    have hn2 := hw.1
    rw [← hn] at hn2
    have HN := Lib.hid hn
    clear h1 hw hn
    have hY := whole_yes x H1.out
    rw [← HN.out] at hY
    have HY := Lib.hid hY
    clear hY
    have hr := rem_two n
    go_enter Try.func5, Try.ntmps5
    go_wp2_with fail
    refine (num_even x HX.out _).mono ?_
    rintro e w1 ⟨b, rfl, hbv, hb1⟩
    have e1 := hbv (valOf x) HW.out
    rw [← HN.out] at e1
    clear hbv
    go_wp2_with fail
    refine (num_odd x HX.out _).mono ?_
    rintro e w2 ⟨b2, rfl, hbv2, hb2⟩
    have e2 := hbv2 (valOf x) HW.out
    rw [← HN.out] at e2
    have HB := Lib.hid (Below.next hb1 hb2)
    clear hbv2 hb1 hb2
    subst e1 e2
    rcases he : decide (n % 2 = 0) with _ | _
    all_goals
      go_wp2_with (go_at_call 11; refine (HY.out _).mono ?_; rintro e w' ⟨rfl, rfl⟩)
      go_ret
      exact ⟨rfl, HB.out⟩
end Go.Proofs.Ytnnmdceppjmooaa
