/-
  The bitwise or of two doubles: what PartBitOr tells. Conditions: as said at each.
-/
import Derived.Test.YtnnmdceppjmooaaBitOrA
import Derived.WalkKit
import Derived.WalkSpells
import Derived.WalkLawsBesides
import Derived.Lib.Hide
import Derived.Outline
import Derived.Deep.RegionHeld3
import Derived.Deep.QuietTactic
import Derived.BigQuiet
namespace Go.Proofs.Ytnnmdceppjmooaa
open Go.RowKit
set_option linter.unusedVariables false

/-! ### the door -/
theorem clos_any (w : World) : Calls Try.prog 29 #[] w fun e w' =>
    e = .returned (.func (.func 59) #[] #[.pointer (some ⟨w.heap.size + 1, 0, none⟩), .pointer (some ⟨w.heap.size, 0, none⟩)]) ∧
    w' = (w.alloc (.cells #[.func (.func 43) #[] #[]] 99)).alloc (.cells #[.bool false] 4) := by
  go_enter Try.func29, Try.ntmps29
  go_wp2
  go_ret
  exact ⟨rfl, rfl⟩

def OrTo (x y : Nat) (w : World) (e : Ending) (w' : World) : Prop :=
  ((∃ t u, e = .returned (.tuple #[.float .f64 0, .iface t u]) ∧ (wholeB x && wholeB y) = false) ∨ (∃ r, e = .returned (.tuple #[.float .f64 r, .nilIface]) ∧ ((wholeB x && wholeB y) = true → r = FloatKind.f64.nearest (bits .or .i64 (valOf x) (valOf y))))) ∧ Below w.heap.size w w'

theorem nearest_lo : FloatKind.f64.nearest (-9007199254740991) = 14069245235905429503 := by rfl
theorem nearest_hi : FloatKind.f64.nearest 9007199254740991 = 4845873199050653695 := by rfl
theorem whole_in {x : Nat} (h : wholeB x = true) : lo x = false ∧ hi x = false := by
  obtain ⟨hn, s, m, i, e, hu⟩ := (whole_val h).1
  have hK := K_pos
  have h1 := order_int e (-9007199254740991) (by omega)
  have h2 := order_int e 9007199254740991 (by omega)
  rw [nearest_lo, hu] at h1
  rw [nearest_hi, hu] at h2
  constructor
  · unfold lo
    rw [h1]
    have : ¬ (valOf x * (K : Int) < -9007199254740991 * (K : Int)) := by
      intro hc
      have := Int.lt_of_mul_lt_mul_right hc (by omega)
      omega
    rcases Int.lt_or_eq_of_le (Int.not_lt.1 this) with c | c
    · rw [compare_gt c]; rfl
    · rw [← c, compare_self]; rfl
  · unfold hi
    rw [h2]
    have : ¬ (9007199254740991 * (K : Int) < valOf x * (K : Int)) := by
      intro hc
      have := Int.lt_of_mul_lt_mul_right hc (by omega)
      omega
    rcases Int.lt_or_eq_of_le (Int.not_lt.1 this) with c | c
    · rw [compare_lt c]; rfl
    · rw [c, compare_self]; rfl

/-- What the closure ends in. -/
def Ends (x y : Nat) (w : World) (e : Ending) (w' : World) : Prop :=
  (Failed w e w' ∧ (wholeB x && wholeB y) = false) ∨ (∃ r, Gave r w e w' ∧ ((wholeB x && wholeB y) = true → r = FloatKind.f64.nearest (bits .or .i64 (valOf x) (valOf y))))
theorem lifted_ends (ip px py pb pf x y : Nat) (w : World) (h : Set w ip px py pb pf x y) :
    Calls Try.prog 59 #[.pointer (some ⟨ip, 0, none⟩), .iface 92 (.pointer (some ⟨px, 0, none⟩)), .iface 92 (.pointer (some ⟨py, 0, none⟩)), .pointer (some ⟨pb, 0, none⟩), .pointer (some ⟨pf, 0, none⟩)] w (Ends x y w) := by
  have nx : (lo x = true ∨ (lo x = false ∧ hi x = true)) → wholeB x = false := fun hh => by
    rw [Bool.eq_false_iff]
    intro c
    obtain ⟨a, b⟩ := whole_in c
    rcases hh with d | ⟨_, d⟩
    · rw [a] at d; cases d
    · rw [b] at d; cases d
  have ny : (lo y = true ∨ (lo y = false ∧ hi y = true)) → wholeB y = false := fun hh => by
    rw [Bool.eq_false_iff]
    intro c
    obtain ⟨a, b⟩ := whole_in c
    rcases hh with d | ⟨_, d⟩
    · rw [a] at d; cases d
    · rw [b] at d; cases d
  by_cases h1 : lo x = true ∨ (lo x = false ∧ hi x = true)
  · exact (lifted_x ip px py pb pf x y w h h1).mono fun e w' k => .inl ⟨k, by rw [nx h1]; rfl⟩
  have a1 : lo x = false := by cases c : lo x <;> simp_all
  have a2 : hi x = false := by cases c : hi x <;> simp_all
  by_cases h2 : lo y = true ∨ (lo y = false ∧ hi y = true)
  · exact (lifted_y ip px py pb pf x y w h a1 a2 h2).mono fun e w' k => .inl ⟨k, by rw [ny h2, Bool.and_false]⟩
  have b1 : lo y = false := by cases c : lo y <;> simp_all
  have b2 : hi y = false := by cases c : hi y <;> simp_all
  have none_no : ∀ z, floatToIntVal .f64 z .i64 = none → wholeB z = false := fun z hz => by
    rw [Bool.eq_false_iff]
    intro c
    rw [(whole_val c).2] at hz
    cases hz
  cases cx : floatToIntVal .f64 x .i64 with
  | none =>
    have e1 := none_no x cx
    cases cy : floatToIntVal .f64 y .i64 with
    | none => exact (lifted_nn ip px py pb pf x y w h a1 a2 b1 b2 cx cy).mono fun e w' ⟨r, k⟩ => .inr ⟨r, k, fun c => by rw [e1] at c; cases c⟩
    | some b => exact (lifted_nx ip px py pb pf x y b w h a1 a2 b1 b2 cx cy).mono fun e w' ⟨r, k⟩ => .inr ⟨r, k, fun c => by rw [e1] at c; cases c⟩
  | some a =>
    cases cy : floatToIntVal .f64 y .i64 with
    | none =>
      have e2 := none_no y cy
      exact (lifted_ny ip px py pb pf x y a w h a1 a2 b1 b2 cx cy).mono fun e w' ⟨r, k⟩ => .inr ⟨r, k, fun c => by rw [e2, Bool.and_false] at c; cases c⟩
    | some b =>
      refine (lifted_det ip px py pb pf x y a b w h a1 a2 b1 b2 cx cy).mono fun e w' k => .inr ⟨_, k, fun c => ?_⟩
      have va : valOf x = a := by unfold valOf; rw [cx]
      have vb : valOf y = b := by unfold valOf; rw [cy]
      rw [va, vb]

set_option maxRecDepth 100000 in
theorem part_any (x y : Nat) (w : World) : Calls Try.prog 19 #[.float .f64 x, .float .f64 y] w (OrTo x y w) := by
  go_enter Try.func19, Try.ntmps19
  go_wp2_with fail
  refine (clos_any _).mono ?_
  rintro e w0 ⟨rfl, rfl⟩
  go_wp2_with fail
  refine (num_any x _).mono ?_
  rintro e w1 ⟨v, rfl, hn, hb1⟩
  have hI : Interp w1 (w.heap.size + 1 + 1) := Interp.below ⟨by simp, by simp [go_sem], by simp [go_sem]⟩ hb1
  have hcb : w1.cell? ⟨w.heap.size + 1, 0, none⟩ = some (.bool false) := cell_keepz hb1 (by simp [go_sem])
  have hcf : w1.cell? ⟨w.heap.size, 0, none⟩ = some (.func (.func 43) #[] #[]) := cell_keepz hb1 (by simp [go_sem])
  have hB : Below w.heap.size w w1 := ((((Below.refl _ _).alloc (Nat.le_refl _) _).alloc (by simp) _).alloc (by simp; omega) _).trans (hb1.mono (by simp; omega))
  have HI := Lib.hid hI
  have HB := Lib.hid hcb
  have HF := Lib.hid hcf
  have HN := Lib.hid hn
  clear hb1 hI hcb hcf hn
  go_wp2_with fail
  refine (num_any y _).mono ?_
  rintro e w2 ⟨u, rfl, hm, hb2⟩
  have HS : Hid (NumAt w2 v x ∧ NumAt w2 u y ∧ Interp w2 (w.heap.size + 1 + 1) ∧ w2.cell? ⟨w.heap.size + 1, 0, none⟩ = some (.bool false) ∧ w2.cell? ⟨w.heap.size, 0, none⟩ = some (.func (.func 43) #[] #[])) :=
    Lib.hid ⟨HN.out.below hb2, hm, HI.out.below hb2, cell_keepz hb2 HB.out, cell_keepz hb2 HF.out⟩
  have hB2 : Below w.heap.size w w2 := Below.next hB hb2
  clear hb2 hm HI HB HF HN hB
  obtain ⟨⟨px, rfl, hpx, hcx⟩, ⟨py, rfl, hpy, hcy⟩, hI, hcb, hcf⟩ := HS.out
  have HSet : Hid (Set w2 (w.heap.size + 1 + 1) px py (w.heap.size + 1) w.heap.size x y) := Lib.hid ⟨hI, hcx, hcy, hcb, hcf⟩
  clear HS hI hcx hcy hcb hcf
  go_wp2_with fail
  refine (lifted_ends _ px py _ _ x y _ HSet.out).mono ?_
  rintro e w3 (⟨⟨⟨t, uu, rfl⟩, hb3⟩, hw⟩ | ⟨r, ⟨vv, rfl, hn, hb3⟩, hr⟩)
  · have HW := Lib.hid hw
    have hB3 : Below w.heap.size w w3 := Below.next hB2 hb3
    clear hw hb3 hB2
    go_wp2_with (go_at_call 28; refine (numOf_err _ _ _).mono ?_; rintro e w4 ⟨rfl, rfl⟩)
    go_ret2
    exact ⟨.inl ⟨_, _, rfl, HW.out⟩, hB3⟩
  · have HR := Lib.hid hr
    have HN := Lib.hid hn
    have hB3 : Below w.heap.size w w3 := Below.next hB2 hb3
    clear hr hn hb3 hB2
    go_wp2_with (go_at_call 28; refine (numOf_any _ _ _ HN.out).mono ?_; rintro e w4 ⟨rfl, rfl⟩)
    go_ret2
    exact ⟨.inr ⟨_, rfl, HR.out⟩, hB3⟩

/-- What NumBitOr tells. -/
def OrGives (x y : Nat) (w : World) (e : Ending) (w' : World) : Prop :=
  ∃ (r : Nat) (ok : Bool), e = .returned (.tuple #[.float .f64 r, .bool ok]) ∧ ((wholeB x && wholeB y) = true → ok = true ∧ r = FloatKind.f64.nearest (bits .or .i64 (valOf x) (valOf y))) ∧ Below w.heap.size w w'
set_option maxRecDepth 100000 in
theorem numOr_any (x y : Nat) (w : World) : Calls Try.prog 7 #[.float .f64 x, .float .f64 y] w (OrGives x y w) := by
  go_enter Try.func7, Try.ntmps7
  go_wp2_with fail
  refine (part_any x y _).mono ?_
  rintro e w1 ⟨⟨t, u, rfl, hw⟩ | ⟨r, rfl, hr⟩, hb⟩
  · have HW := Lib.hid hw
    clear hw
    go_wp2_with (go_at_call 18; refine (number_err _ _ _ _).mono ?_; rintro e w4 ⟨rfl, rfl⟩)
    go_ret2
    exact ⟨_, _, rfl, fun c => by rw [HW.out] at c; (cases c), hb⟩
  · have HR := Lib.hid hr
    clear hr
    go_wp2_with (go_at_call 18; refine (number_any _ _).mono ?_; rintro e w4 ⟨rfl, rfl⟩)
    go_ret2
    exact ⟨_, _, rfl, fun c => ⟨rfl, HR.out c⟩, hb⟩

/-! ### the law's own part -/
set_option maxRecDepth 100000 in
theorem bits_not (r x y : Nat) (ok : Bool) (w : World) (h : (wholeB x && wholeB y) = false) : Calls Try.prog 8 #[.float .f64 r, .bool ok, .float .f64 x, .float .f64 y, .int .i64 17] w fun e w' => e = .returned (.bool true) ∧ w = w' := by
  cases cx : wholeB x <;> cases cy : wholeB y
  case true.true => rw [cx, cy] at h; cases h
  all_goals
    have HX := Lib.hid cx
    have HY := Lib.hid cy
    clear cx cy h
    go_enter Try.func8, Try.ntmps8
    go_wp2_with fail
    first | refine (whole_yes x HX.out _).mono ?_ | refine (whole_no x HX.out _).mono ?_
    rintro e w1 ⟨rfl, rfl⟩
    go_wp2_with fail
    first | refine (whole_yes y HY.out _).mono ?_ | refine (whole_no y HY.out _).mono ?_
    rintro e w1 ⟨rfl, rfl⟩
    go_wp2_with fail
    go_ret
    exact ⟨rfl, rfl⟩
set_option maxRecDepth 100000 in
theorem bits_yes (x y : Nat) (w : World) (hx : wholeB x = true) (hy : wholeB y = true) : Calls Try.prog 8 #[.float .f64 (FloatKind.f64.nearest (bits .or .i64 (valOf x) (valOf y))), .bool true, .float .f64 x, .float .f64 y, .int .i64 17] w fun e w' => e = .returned (.bool true) ∧ w = w' := by
  have hs : (FloatKind.f64.format.order (FloatKind.f64.nearest (bits .or .i64 (valOf x) (valOf y))) (floatOfInt .f64 (bits .or .i64 (valOf x) (valOf y))) == some .eq) = true := by
    have := fin_self (near_or (valOf x) (valOf y))
    show (FloatKind.f64.format.order (FloatKind.f64.nearest (bits .or .i64 (valOf x) (valOf y))) (FloatKind.f64.nearest (bits .or .i64 (valOf x) (valOf y))) == some .eq) = true
    rw [this]; rfl
  have HX := Lib.hid hx
  have HY := Lib.hid hy
  clear hx hy
  go_enter Try.func8, Try.ntmps8
  go_wp2_with fail
  refine (whole_yes x HX.out _).mono ?_
  rintro e w1 ⟨rfl, rfl⟩
  go_wp2_with fail
  refine (whole_yes y HY.out _).mono ?_
  rintro e w1 ⟨rfl, rfl⟩
  go_wp2_with fail
  go_ret
  exact ⟨rfl, rfl⟩

set_option maxRecDepth 100000 in
theorem walkOr (x : Nat) (_hx : (Lit.float .f64 x).wf = true) (y : Nat) (_hy : (Lit.float .f64 y).wf = true) (w : World) : Calls Try.prog 3 #[.float .f64 x, .float .f64 y] w fun e w' => e = .returned (.bool true) ∧ Below w.heap.size w w' := by
  clear _hx _hy
  go_enter Try.func3, Try.ntmps3
  go_wp2_with fail
  refine (numOr_any x y _).mono ?_
  rintro e w1 ⟨r, ok, rfl, hr, hb⟩
  by_cases h : (wholeB x && wholeB y) = true
  · obtain ⟨rfl, rfl⟩ := hr h
    rw [Bool.and_eq_true] at h
    have H := Lib.hid h
    clear hr h
    go_wp2_with fail
    refine (bits_yes x y _ H.out.1 H.out.2).mono ?_
    rintro e w2 ⟨rfl, rfl⟩
    go_wp2_with fail
    go_ret
    exact ⟨rfl, hb⟩
  · rw [Bool.not_eq_true] at h
    have H := Lib.hid h
    clear hr h
    go_wp2_with fail
    refine (bits_not r x y ok _ H.out).mono ?_
    rintro e w2 ⟨rfl, rfl⟩
    go_wp2_with fail
    go_ret
    exact ⟨rfl, hb⟩
end Go.Proofs.Ytnnmdceppjmooaa
