/-
  The bitwise or of two doubles: what PartBitOr tells. Conditions: as said at each.
-/
import Derived.Test.YtnnmdceppjmooaaNum
import Derived.WalkKit
import Derived.WalkSpells
import Derived.WalkLawsBesides
import Derived.Lib.Hide
import Derived.Outline
import Derived.Deep.RegionHeld3
import Derived.Deep.QuietTactic
import Derived.BigQuiet
namespace Go.Proofs.Ytnnmdceppjmooaa
open Go.RowKit
set_option linter.unusedVariables false

def lo (x : Nat) : Bool := FloatKind.f64.format.order x 14069245235905429503 == some .lt
def hi (x : Nat) : Bool := FloatKind.f64.format.order x 4845873199050653695 == some .gt
def Failed (w : World) (e : Ending) (w' : World) : Prop := (∃ t u, e = .returned (.tuple #[.nilIface, .iface t u])) ∧ Below w.heap.size w w'
def Gave (r : Nat) (w : World) (e : Ending) (w' : World) : Prop := ∃ v, e = .returned (.tuple #[v, .nilIface]) ∧ NumAt w' v r ∧ Below w.heap.size w w'

theorem or_any (a b : Int) (w : World) : Calls Try.prog 43 #[.int .i64 a, .int .i64 b] w fun e w' => e = .returned (.int .i64 (bits .or .i64 a b)) ∧ w' = w := by
  go_enter Try.func43, Try.ntmps43
  go_wp2
  go_ret
  exact ⟨rfl, rfl⟩

/-- What the closure has to read. -/
structure Set (w : World) (ip px py pb pf x y : Nat) : Prop where
  int : Interp w ip
  cx : w.cell? ⟨px, 0, none⟩ = some (.float .f64 x)
  cy : w.cell? ⟨py, 0, none⟩ = some (.float .f64 y)
  cb : w.cell? ⟨pb, 0, none⟩ = some (.bool false)
  cf : w.cell? ⟨pf, 0, none⟩ = some (.func (.func 43) #[] #[])

set_option maxHeartbeats 1000000 in
set_option maxRecDepth 100000 in
theorem lifted_x (ip px py pb pf x y : Nat) (w : World) (h : Set w ip px py pb pf x y) (hx : lo x = true ∨ (lo x = false ∧ hi x = true)) :
    Calls Try.prog 59 #[.pointer (some ⟨ip, 0, none⟩), .iface 92 (.pointer (some ⟨px, 0, none⟩)), .iface 92 (.pointer (some ⟨py, 0, none⟩)), .pointer (some ⟨pb, 0, none⟩), .pointer (some ⟨pf, 0, none⟩)] w (Failed w) := by
  obtain ⟨hi1, hcx, hcy, hcb, hcf⟩ := h
  have HI := Lib.hid hi1
  clear hi1 hcy hcb hcf
  simp only [lo, hi] at hx
  rcases hx with hx | ⟨hx, hx2⟩
  all_goals
    go_enter Try.func59, Try.ntmps59
    go_wp2_with (first | (go_at_call 60; refine (getNum_any _ _ _).mono ?_; rintro e w' ⟨rfl, rfl⟩) | (go_at_call 62; refine (trace_any _ _ HI.out).mono ?_; rintro e w' ⟨rfl, rfl⟩) | (go_at_call 61; refine (rterr_any _ _).mono ?_; rintro e w' ⟨rfl, hb⟩))
    go_ret2
    exact ⟨⟨_, _, rfl⟩, hb⟩

set_option maxHeartbeats 1000000 in
set_option maxRecDepth 100000 in
theorem lifted_y (ip px py pb pf x y : Nat) (w : World) (h : Set w ip px py pb pf x y) (hx : lo x = false) (hx2 : hi x = false) (hy : lo y = true ∨ (lo y = false ∧ hi y = true)) :
    Calls Try.prog 59 #[.pointer (some ⟨ip, 0, none⟩), .iface 92 (.pointer (some ⟨px, 0, none⟩)), .iface 92 (.pointer (some ⟨py, 0, none⟩)), .pointer (some ⟨pb, 0, none⟩), .pointer (some ⟨pf, 0, none⟩)] w (Failed w) := by
  obtain ⟨hi1, hcx, hcy, hcb, hcf⟩ := h
  have HI := Lib.hid hi1
  clear hi1 hcb hcf
  simp only [lo, hi] at hx hx2 hy
  rcases hy with hy | ⟨hy, hy2⟩
  all_goals
    go_enter Try.func59, Try.ntmps59
    go_wp2_with (first | (go_at_call 60; refine (getNum_any _ _ _).mono ?_; rintro e w' ⟨rfl, rfl⟩) | (go_at_call 62; refine (trace_any _ _ HI.out).mono ?_; rintro e w' ⟨rfl, rfl⟩) | (go_at_call 61; refine (rterr_any _ _).mono ?_; rintro e w' ⟨rfl, hb⟩))
    go_ret2
    exact ⟨⟨_, _, rfl⟩, hb⟩

theorem cell_keepz {w w' : World} {a : Addr} {v : Value} (hb : Below w.heap.size w w') (h : w.cell? a = some v) : w'.cell? a = some v := (hb.cell (World.block_lt_of_cell? _ _ h)).trans h
theorem or_range (a b : Int) : -9223372036854775808 ≤ bits .or .i64 a b ∧ bits .or .i64 a b ≤ 9223372036854775807 := by
  simp only [bits, IntKind.wrap_i64]
  omega
theorem near_lt (n : Int) : FloatKind.f64.nearest n < 18446744073709551616 := by
  have h := FloatKind.f64.format.write_lt (.number (n < 0) n.natAbs 0)
  exact Nat.lt_of_lt_of_eq h rfl
theorem near_or (a b : Int) : Fin (FloatKind.f64.nearest (bits .or .i64 a b)) := int_finite _ (or_range a b).1 (by have := (or_range a b).2; omega)

/-- What int64 of a double that has none draws. -/
def kN (x : Nat) (w : World) : Int := IntKind.i64.wrap ((Question.cut (.floatToInt .f64 x .i64) (w.tape w.drawn (.floatToInt .f64 x .i64)) : Nat) : Int)
theorem conv_none {x : Nat} (h : floatToIntVal .f64 x .i64 = none) (w : World) : (convert 22 2 (.float .f64 x)).run Try.prog w = .ok (.int .i64 (kN x w)) w.drew := by
  unfold floatToIntVal at h
  have hs : Try.prog.underlying 22 = some (.float .f64) := Try.underlying22
  split at h
  · rename_i m he
    split at h
    · cases h
    · rename_i hb
      have hf : (Question.floatToInt FloatKind.f64 x IntKind.i64).forced = false := rfl
      simp only [convert, run_underlying hs, run_underlying Try.underlying2, Conv.floatToInt, he, Sem.run_bind, Result.andThen, if_neg hb, run_choose, hf, Bool.false_eq_true, if_false, Sem.run_pure]
      rfl
  · rename_i he
    have hf : (Question.floatToInt FloatKind.f64 x IntKind.i64).forced = false := rfl
    simp only [convert, run_underlying hs, run_underlying Try.underlying2, Conv.floatToInt, he, Sem.run_bind, Result.andThen, run_choose, hf, Bool.false_eq_true, if_false, Sem.run_pure]
    rfl
/-- The two conversions, named: where they draw they are not to be taken first. -/
def cvx : Op := .convert 22 2 (.tmp 84)
def cvy : Op := .convert 22 2 (.tmp 89)
attribute [go_sem] cvx cvy
theorem cvx_eq : Op.convert 22 2 (.tmp 84) = cvx := rfl
theorem cvy_eq : Op.convert 22 2 (.tmp 89) = cvy := rfl
def GaveSome (w : World) (e : Ending) (w' : World) : Prop := ∃ r, Gave r w e w'

set_option maxHeartbeats 2000000 in
set_option maxRecDepth 100000 in
theorem lifted_det (ip px py pb pf x y : Nat) (a b : Int) (w : World) (h : Set w ip px py pb pf x y) (hx : lo x = false) (hx2 : hi x = false) (hy : lo y = false) (hy2 : hi y = false)
    (hax : floatToIntVal .f64 x .i64 = some a) (hby : floatToIntVal .f64 y .i64 = some b) :
    Calls Try.prog 59 #[.pointer (some ⟨ip, 0, none⟩), .iface 92 (.pointer (some ⟨px, 0, none⟩)), .iface 92 (.pointer (some ⟨py, 0, none⟩)), .pointer (some ⟨pb, 0, none⟩), .pointer (some ⟨pf, 0, none⟩)] w (Gave (FloatKind.f64.nearest (bits .or .i64 a b)) w) := by
  obtain ⟨hi1, hcx, hcy, hcb, hcf⟩ := h
  clear hi1
  have hcvx := fun w => run_convert_float_int (P := Try.prog) w 22 2 .f64 .i64 x a (by kernel_rfl) Try.underlying2 hax
  have hcvy := fun w => run_convert_float_int (P := Try.prog) w 22 2 .f64 .i64 y b (by kernel_rfl) Try.underlying2 hby
  simp only [lo, hi] at hx hx2 hy hy2
  clear hax hby
  go_enter Try.func59, Try.ntmps59
  go_wp2_with (first | (go_at_call 60; refine (getNum_any _ _ _).mono ?_; rintro e w' ⟨rfl, rfl⟩))
  go_region_held3 (fun w' => w'.cell? ⟨px, 0, none⟩ = some (.float .f64 x) ∧ w'.cell? ⟨py, 0, none⟩ = some (.float .f64 y) ∧ w'.cell? ⟨pf, 0, none⟩ = some (.func (.func 43) #[] #[]))
    (first | exact ⟨by assumption, by assumption, by assumption⟩ | exact ⟨cell_keepz hb (by assumption), cell_keepz hb (by assumption), cell_keepz hb (by assumption)⟩)
    (first | (go_at_call 43; refine (or_any _ _ _).mono ?_; rintro e w' ⟨rfl, rfl⟩) | (go_at_call 63; refine (check_any _ _ (near_lt _) (near_or _ _) _).mono ?_; rintro e w' ⟨v, rfl, hn, hb⟩))
  all_goals
    go_wp2
    go_ret2
    exact ⟨v, rfl, hn, hb.os, hb.tape, hb.output, hb.size, hb.block⟩

set_option maxHeartbeats 2000000 in
set_option maxRecDepth 100000 in
theorem lifted_nx (ip px py pb pf x y : Nat) (b : Int) (w : World) (h : Set w ip px py pb pf x y) (hx : lo x = false) (hx2 : hi x = false) (hy : lo y = false) (hy2 : hi y = false)
    (hax : floatToIntVal .f64 x .i64 = none) (hby : floatToIntVal .f64 y .i64 = some b) :
    Calls Try.prog 59 #[.pointer (some ⟨ip, 0, none⟩), .iface 92 (.pointer (some ⟨px, 0, none⟩)), .iface 92 (.pointer (some ⟨py, 0, none⟩)), .pointer (some ⟨pb, 0, none⟩), .pointer (some ⟨pf, 0, none⟩)] w (GaveSome w) := by
  obtain ⟨hi1, hcx, hcy, hcb, hcf⟩ := h
  clear hi1
  have hcvx := conv_none hax
  have hcvy := fun w => run_convert_float_int (P := Try.prog) w 22 2 .f64 .i64 y b (by kernel_rfl) Try.underlying2 hby
  simp only [lo, hi] at hx hx2 hy hy2
  clear hax hby
  go_enter Try.func59, Try.ntmps59
  go_wp2_with (first | (go_at_call 60; refine (getNum_any _ _ _).mono ?_; rintro e w' ⟨rfl, rfl⟩))
  rw [cvx_eq]
  go_region_held3 (fun w' => w'.cell? ⟨px, 0, none⟩ = some (.float .f64 x) ∧ w'.cell? ⟨py, 0, none⟩ = some (.float .f64 y) ∧ w'.cell? ⟨pf, 0, none⟩ = some (.func (.func 43) #[] #[]))
    (first | exact ⟨by assumption, by assumption, by assumption⟩ | exact ⟨cell_keepz hb (by assumption), cell_keepz hb (by assumption), cell_keepz hb (by assumption)⟩)
    (first | (go_at_call 43; refine (or_any _ _ _).mono ?_; rintro e w' ⟨rfl, rfl⟩) | (go_at_call 63; refine (check_any _ _ (near_lt _) (near_or _ _) _).mono ?_; rintro e w' ⟨v, rfl, hn, hb⟩))
  all_goals
    go_wp2
    go_ret2
    exact ⟨_, v, rfl, hn, hb.os, hb.tape, hb.output, hb.size, hb.block⟩

set_option maxHeartbeats 2000000 in
set_option maxRecDepth 100000 in
theorem lifted_ny (ip px py pb pf x y : Nat) (a : Int) (w : World) (h : Set w ip px py pb pf x y) (hx : lo x = false) (hx2 : hi x = false) (hy : lo y = false) (hy2 : hi y = false)
    (hax : floatToIntVal .f64 x .i64 = some a) (hby : floatToIntVal .f64 y .i64 = none) :
    Calls Try.prog 59 #[.pointer (some ⟨ip, 0, none⟩), .iface 92 (.pointer (some ⟨px, 0, none⟩)), .iface 92 (.pointer (some ⟨py, 0, none⟩)), .pointer (some ⟨pb, 0, none⟩), .pointer (some ⟨pf, 0, none⟩)] w (GaveSome w) := by
  obtain ⟨hi1, hcx, hcy, hcb, hcf⟩ := h
  clear hi1
  have hcvx := fun w => run_convert_float_int (P := Try.prog) w 22 2 .f64 .i64 x a (by kernel_rfl) Try.underlying2 hax
  have hcvy := conv_none hby
  simp only [lo, hi] at hx hx2 hy hy2
  clear hax hby
  go_enter Try.func59, Try.ntmps59
  go_wp2_with (first | (go_at_call 60; refine (getNum_any _ _ _).mono ?_; rintro e w' ⟨rfl, rfl⟩))
  rw [cvy_eq]
  go_region_held3 (fun w' => w'.cell? ⟨px, 0, none⟩ = some (.float .f64 x) ∧ w'.cell? ⟨py, 0, none⟩ = some (.float .f64 y) ∧ w'.cell? ⟨pf, 0, none⟩ = some (.func (.func 43) #[] #[]))
    (first | exact ⟨by assumption, by assumption, by assumption⟩ | exact ⟨cell_keepz hb (by assumption), cell_keepz hb (by assumption), cell_keepz hb (by assumption)⟩)
    (first | (go_at_call 43; refine (or_any _ _ _).mono ?_; rintro e w' ⟨rfl, rfl⟩) | (go_at_call 63; refine (check_any _ _ (near_lt _) (near_or _ _) _).mono ?_; rintro e w' ⟨v, rfl, hn, hb⟩))
  all_goals
    go_wp2
    go_ret2
    exact ⟨_, v, rfl, hn, hb.os, hb.tape, hb.output, hb.size, hb.block⟩

set_option maxHeartbeats 2000000 in
set_option maxRecDepth 100000 in
theorem lifted_nn (ip px py pb pf x y : Nat) (w : World) (h : Set w ip px py pb pf x y) (hx : lo x = false) (hx2 : hi x = false) (hy : lo y = false) (hy2 : hi y = false)
    (hax : floatToIntVal .f64 x .i64 = none) (hby : floatToIntVal .f64 y .i64 = none) :
    Calls Try.prog 59 #[.pointer (some ⟨ip, 0, none⟩), .iface 92 (.pointer (some ⟨px, 0, none⟩)), .iface 92 (.pointer (some ⟨py, 0, none⟩)), .pointer (some ⟨pb, 0, none⟩), .pointer (some ⟨pf, 0, none⟩)] w (GaveSome w) := by
  obtain ⟨hi1, hcx, hcy, hcb, hcf⟩ := h
  clear hi1
  have hcvx := conv_none hax
  have hcvy := conv_none hby
  simp only [lo, hi] at hx hx2 hy hy2
  clear hax hby
  go_enter Try.func59, Try.ntmps59
  go_wp2_with (first | (go_at_call 60; refine (getNum_any _ _ _).mono ?_; rintro e w' ⟨rfl, rfl⟩))
  rw [cvx_eq, cvy_eq]
  go_region_held3 (fun w' => w'.cell? ⟨px, 0, none⟩ = some (.float .f64 x) ∧ w'.cell? ⟨py, 0, none⟩ = some (.float .f64 y) ∧ w'.cell? ⟨pf, 0, none⟩ = some (.func (.func 43) #[] #[]))
    (first | exact ⟨by assumption, by assumption, by assumption⟩ | exact ⟨cell_keepz hb (by assumption), cell_keepz hb (by assumption), cell_keepz hb (by assumption)⟩)
    (first | (go_at_call 43; refine (or_any _ _ _).mono ?_; rintro e w' ⟨rfl, rfl⟩) | (go_at_call 63; refine (check_any _ _ (near_lt _) (near_or _ _) _).mono ?_; rintro e w' ⟨v, rfl, hn, hb⟩))
  all_goals
    go_wp2
    go_ret2
    exact ⟨_, v, rfl, hn, hb.os, hb.tape, hb.output, hb.size, hb.block⟩

end Go.Proofs.Ytnnmdceppjmooaa
