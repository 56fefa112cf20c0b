/-
  Is it even, is it odd: the lift and its doors. Conditions: none.
-/
import Derived.Test.YtnnmdceppjmooaaEvnA
import Derived.WalkKit
import Derived.WalkSpells
import Derived.WalkLawsBesides
import Derived.Lib.Hide
import Derived.Outline
import Derived.Deep.RegionHeld3
namespace Go.Proofs.Ytnnmdceppjmooaa
open Go.RowKit
set_option linter.unusedVariables false
set_option linter.unusedSimpArgs false

def BoolAt (w : World) (v : Value) (b : Bool) : Prop := ∃ p : Nat, v = .iface 104 (.pointer (some ⟨p, 0, none⟩)) ∧ p < w.heap.size ∧ w.cell? ⟨p, 0, none⟩ = some (.bool b)
theorem truth_any (b : Bool) (w : World) : Calls Try.prog 23 #[.bool b, .nilIface] w fun e w' => e = .returned (.tuple #[.bool b, .bool true]) ∧ w = w' := by
  go_enter Try.func23, Try.ntmps23
  go_wp2
  go_ret2
  exact ⟨rfl, rfl⟩
set_option maxRecDepth 100000 in
theorem mkbool_any (b : Bool) (w : World) : Calls Try.prog 71 #[.bool b] w fun e w' => ∃ p : Nat, e = .returned (.pointer (some ⟨p, 0, none⟩)) ∧ (p < w'.heap.size ∧ w'.cell? ⟨p, 0, none⟩ = some (.bool b)) ∧ Below w.heap.size w w' := by
  go_enter Try.func71, Try.ntmps71
  go_wp2
  go_ret
  exact ⟨_, rfl, ⟨by simp, by simp [go_sem]⟩, (Below.refl _ _).alloc (Nat.le_refl _) _⟩
set_option maxRecDepth 100000 in
theorem boolOf_any (v : Value) (b : Bool) (w : World) (h : BoolAt w v b) : Calls Try.prog 35 #[v, .nilIface] w fun e w' => e = .returned (.tuple #[.bool b, .nilIface]) ∧ w = w' := by
  obtain ⟨p, rfl, hp, hc⟩ := h
  have ht : ∀ w, (Instr.typeAssert (.iface 104 (.pointer (some ⟨p, 0, none⟩))) 56 104 false).run Try.prog w = .ok (.pointer (some ⟨p, 0, none⟩)) w := fun _ => by kernel_rfl
  go_enter Try.func35, Try.ntmps35
  go_wp2
  go_ret2
  exact ⟨rfl, rfl⟩

/-! ### Even -/
def EvenTo (x : Nat) (b : Bool) : Prop := ∀ n, IsWhole x n → b = decide (n % 2 = 0)
set_option maxHeartbeats 2000000 in
set_option maxRecDepth 100000 in
theorem lift_even (ip px pf x : Nat) (w : World) (hx : x < 18446744073709551616) (hcx : w.cell? ⟨px, 0, none⟩ = some (.float .f64 x)) (hcf : w.cell? ⟨pf, 0, none⟩ = some (.func (.func 51) #[] #[])) :
    Calls Try.prog 70 #[.pointer (some ⟨ip, 0, none⟩), .iface 92 (.pointer (some ⟨px, 0, none⟩)), .pointer (some ⟨pf, 0, none⟩)] w fun e w' => ∃ b v, e = .returned (.tuple #[v, .nilIface]) ∧ BoolAt w' v b ∧ EvenTo x b ∧ Below w.heap.size w w' := by
  have HX := Lib.hid hx
  clear hx
  go_enter Try.func70, Try.ntmps70
  go_wp2_with (first | (go_at_call 60; refine (getNum_any _ _ _).mono ?_; rintro e w' ⟨rfl, rfl⟩))
  go_region_held3 (fun w' => w'.cell? ⟨px, 0, none⟩ = some (.float .f64 x) ∧ w'.cell? ⟨pf, 0, none⟩ = some (.func (.func 51) #[] #[]))
    (first | exact ⟨by assumption, by assumption⟩ | exact ⟨cell_keepz hb (by assumption), cell_keepz hb (by assumption)⟩ | (simp [*]; done))
    (first | (go_at_call 51; refine (even_any x HX.out _).mono ?_; rintro e w' ⟨b, k, rfl, rfl, hbv⟩) | (go_at_call 71; refine (mkbool_any b _).mono ?_; rintro e w' ⟨p, rfl, hn, hb⟩))
  all_goals
    go_wp2
    go_ret2
    exact ⟨b, _, rfl, ⟨p, rfl, hn⟩, hbv, hb.os, hb.tape, hb.output, hb.size, hb.block⟩
theorem clos_even (w : World) : Calls Try.prog 36 #[] w fun e w' =>
    e = .returned (.func (.func 70) #[] #[.pointer (some ⟨w.heap.size, 0, none⟩)]) ∧
    w' = w.alloc (.cells #[.func (.func 51) #[] #[]] 31) := by
  go_enter Try.func36, Try.ntmps36
  go_wp2
  go_ret
  exact ⟨rfl, rfl⟩
set_option maxRecDepth 100000 in
theorem part_even (x : Nat) (hx : x < 18446744073709551616) (w : World) : Calls Try.prog 24 #[.float .f64 x] w fun e w' => ∃ b, e = .returned (.tuple #[.bool b, .nilIface]) ∧ EvenTo x b ∧ Below w.heap.size w w' := by
  have HX := Lib.hid hx
  clear hx
  go_enter Try.func24, Try.ntmps24
  go_wp2_with fail
  refine (clos_even _).mono ?_
  rintro e w0 ⟨rfl, rfl⟩
  go_wp2_with fail
  refine (num_any x _).mono ?_
  rintro e w1 ⟨v, rfl, hn, hb1⟩
  have hcf : w1.cell? ⟨w.heap.size, 0, none⟩ = some (.func (.func 51) #[] #[]) := cell_keepz hb1 (by simp [go_sem])
  have hB : Below w.heap.size w w1 := (((Below.refl _ _).alloc (Nat.le_refl _) _).alloc (by simp) _).trans (hb1.mono (by simp; omega))
  have HF := Lib.hid hcf
  obtain ⟨px, rfl, hpx, hcx⟩ := hn
  have HC := Lib.hid hcx
  clear hb1 hcf hcx
  go_wp2_with fail
  refine (lift_even _ px _ x _ HX.out HC.out HF.out).mono ?_
  rintro e w3 ⟨b, v, rfl, hn, hbv, hb3⟩
  have HN := Lib.hid hn
  have HV := Lib.hid hbv
  have hB3 : Below w.heap.size w w3 := Below.next hB hb3
  clear hn hb3 hB hbv
  go_wp2_with (go_at_call 35; refine (boolOf_any _ _ _ HN.out).mono ?_; rintro e w4 ⟨rfl, rfl⟩)
  go_ret2
  exact ⟨b, rfl, HV.out, hB3⟩
set_option maxRecDepth 100000 in
theorem num_even (x : Nat) (hx : x < 18446744073709551616) (w : World) : Calls Try.prog 12 #[.float .f64 x] w fun e w' => ∃ b, e = .returned (.tuple #[.bool b, .bool true]) ∧ EvenTo x b ∧ Below w.heap.size w w' := by
  have HX := Lib.hid hx
  clear hx
  go_enter Try.func12, Try.ntmps12
  go_wp2_with fail
  refine (part_even x HX.out _).mono ?_
  rintro e w1 ⟨b, rfl, hbv, hb⟩
  have HV := Lib.hid hbv
  clear hbv
  go_wp2_with (go_at_call 23; refine (truth_any _ _).mono ?_; rintro e w4 ⟨rfl, rfl⟩)
  go_ret2
  exact ⟨b, rfl, HV.out, hb⟩

/-! ### Odd -/
def OddTo (x : Nat) (b : Bool) : Prop := ∀ n, IsWhole x n → b = !decide (n % 2 = 0)
set_option maxHeartbeats 2000000 in
set_option maxRecDepth 100000 in
theorem lift_odd (ip px pf x : Nat) (w : World) (hx : x < 18446744073709551616) (hcx : w.cell? ⟨px, 0, none⟩ = some (.float .f64 x)) (hcf : w.cell? ⟨pf, 0, none⟩ = some (.func (.func 54) #[] #[])) :
    Calls Try.prog 70 #[.pointer (some ⟨ip, 0, none⟩), .iface 92 (.pointer (some ⟨px, 0, none⟩)), .pointer (some ⟨pf, 0, none⟩)] w fun e w' => ∃ b v, e = .returned (.tuple #[v, .nilIface]) ∧ BoolAt w' v b ∧ OddTo x b ∧ Below w.heap.size w w' := by
  have HX := Lib.hid hx
  clear hx
  go_enter Try.func70, Try.ntmps70
  go_wp2_with (first | (go_at_call 60; refine (getNum_any _ _ _).mono ?_; rintro e w' ⟨rfl, rfl⟩))
  go_region_held3 (fun w' => w'.cell? ⟨px, 0, none⟩ = some (.float .f64 x) ∧ w'.cell? ⟨pf, 0, none⟩ = some (.func (.func 54) #[] #[]))
    (first | exact ⟨by assumption, by assumption⟩ | exact ⟨cell_keepz hb (by assumption), cell_keepz hb (by assumption)⟩ | (simp [*]; done))
    (first | (go_at_call 54; refine (odd_any x HX.out _).mono ?_; rintro e w' ⟨b, k, rfl, rfl, hbv⟩) | (go_at_call 71; refine (mkbool_any b _).mono ?_; rintro e w' ⟨p, rfl, hn, hb⟩))
  all_goals
    go_wp2
    go_ret2
    exact ⟨b, _, rfl, ⟨p, rfl, hn⟩, hbv, hb.os, hb.tape, hb.output, hb.size, hb.block⟩
theorem clos_odd (w : World) : Calls Try.prog 37 #[] w fun e w' =>
    e = .returned (.func (.func 70) #[] #[.pointer (some ⟨w.heap.size, 0, none⟩)]) ∧
    w' = w.alloc (.cells #[.func (.func 54) #[] #[]] 31) := by
  go_enter Try.func37, Try.ntmps37
  go_wp2
  go_ret
  exact ⟨rfl, rfl⟩
set_option maxRecDepth 100000 in
theorem part_odd (x : Nat) (hx : x < 18446744073709551616) (w : World) : Calls Try.prog 25 #[.float .f64 x] w fun e w' => ∃ b, e = .returned (.tuple #[.bool b, .nilIface]) ∧ OddTo x b ∧ Below w.heap.size w w' := by
  have HX := Lib.hid hx
  clear hx
  go_enter Try.func25, Try.ntmps25
  go_wp2_with fail
  refine (clos_odd _).mono ?_
  rintro e w0 ⟨rfl, rfl⟩
  go_wp2_with fail
  refine (num_any x _).mono ?_
  rintro e w1 ⟨v, rfl, hn, hb1⟩
  have hcf : w1.cell? ⟨w.heap.size, 0, none⟩ = some (.func (.func 54) #[] #[]) := cell_keepz hb1 (by simp [go_sem])
  have hB : Below w.heap.size w w1 := (((Below.refl _ _).alloc (Nat.le_refl _) _).alloc (by simp) _).trans (hb1.mono (by simp; omega))
  have HF := Lib.hid hcf
  obtain ⟨px, rfl, hpx, hcx⟩ := hn
  have HC := Lib.hid hcx
  clear hb1 hcf hcx
  go_wp2_with fail
  refine (lift_odd _ px _ x _ HX.out HC.out HF.out).mono ?_
  rintro e w3 ⟨b, v, rfl, hn, hbv, hb3⟩
  have HN := Lib.hid hn
  have HV := Lib.hid hbv
  have hB3 : Below w.heap.size w w3 := Below.next hB hb3
  clear hn hb3 hB hbv
  go_wp2_with (go_at_call 35; refine (boolOf_any _ _ _ HN.out).mono ?_; rintro e w4 ⟨rfl, rfl⟩)
  go_ret2
  exact ⟨b, rfl, HV.out, hB3⟩
set_option maxRecDepth 100000 in
theorem num_odd (x : Nat) (hx : x < 18446744073709551616) (w : World) : Calls Try.prog 13 #[.float .f64 x] w fun e w' => ∃ b, e = .returned (.tuple #[.bool b, .bool true]) ∧ OddTo x b ∧ Below w.heap.size w w' := by
  have HX := Lib.hid hx
  clear hx
  go_enter Try.func13, Try.ntmps13
  go_wp2_with fail
  refine (part_odd x HX.out _).mono ?_
  rintro e w1 ⟨b, rfl, hbv, hb⟩
  have HV := Lib.hid hbv
  clear hbv
  go_wp2_with (go_at_call 23; refine (truth_any _ _).mono ?_; rintro e w4 ⟨rfl, rfl⟩)
  go_ret2
  exact ⟨b, rfl, HV.out, hb⟩
end Go.Proofs.Ytnnmdceppjmooaa
