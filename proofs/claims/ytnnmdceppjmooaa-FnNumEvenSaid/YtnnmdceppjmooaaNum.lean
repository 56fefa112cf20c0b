/-
  Numbers as values: made, taken, checked. Conditions: as said at each.
-/
import Derived.Test.YtnnmdceppjmooaaRows
import Derived.Test.YtnnmdceppjmooaaFloat
import Derived.WalkKit
import Derived.WalkSpells
import Derived.WalkLawsBesides
import Derived.Lib.Hide
import Derived.Outline
import Derived.Laws.Externs
import Derived.Laws.BitsAllLaws
namespace Go.Proofs.Ytnnmdceppjmooaa
open Go.RowKit
set_option linter.unusedVariables false

theorem ret_bool {a b : Bool} (h : a = b) : Ending.returned (.bool a) = .returned (.bool b) := by rw [h]
theorem Below.next {a b c : World} (h : Below a.heap.size a b) (k : Below b.heap.size b c) : Below a.heap.size a c := h.trans (k.mono h.size)

/-- A value that is this number. -/
def NumAt (w : World) (v : Value) (x : Nat) : Prop := ∃ p : Nat, v = .iface 92 (.pointer (some ⟨p, 0, none⟩)) ∧ p < w.heap.size ∧ w.cell? ⟨p, 0, none⟩ = some (.float .f64 x)
theorem NumAt.below {w w' : World} {v : Value} {x : Nat} (h : NumAt w v x) (hb : Below w.heap.size w w') : NumAt w' v x := by
  obtain ⟨p, e, hp, hc⟩ := h
  exact ⟨p, e, Nat.lt_of_lt_of_le hp hb.size, (hb.cell (p := ⟨p, 0, none⟩) hp).trans hc⟩

set_option maxRecDepth 100000 in
theorem made_any (x : Nat) (w : World) : Calls Try.prog 44 #[.float .f64 x] w fun e w' =>
    e = .returned (.pointer (some ⟨w.heap.size, 0, none⟩)) ∧ w' = w.alloc (.cells #[.float .f64 x] 97) := by
  go_enter Try.func44, Try.ntmps44
  go_wp2
  go_ret
  exact ⟨rfl, rfl⟩
set_option maxRecDepth 100000 in
theorem num_any (x : Nat) (w : World) : Calls Try.prog 30 #[.float .f64 x] w fun e w' => ∃ v, e = .returned v ∧ NumAt w' v x ∧ Below w.heap.size w w' := by
  go_enter Try.func30, Try.ntmps30
  go_wp2
  go_ret
  exact ⟨_, rfl, ⟨w.heap.size, rfl, by simp, by simp [go_sem]⟩, (Below.refl _ _).alloc (Nat.le_refl _) _⟩

set_option maxRecDepth 100000 in
theorem getNum_any (i : Value) (p : Nat) (w : World) : Calls Try.prog 60 #[i, .iface 92 (.pointer (some ⟨p, 0, none⟩))] w fun e w' =>
    e = .returned (.tuple #[.pointer (some ⟨p, 0, none⟩), .nilIface]) ∧ w = w' := by
  have ht : ∀ w, (Instr.typeAssert (.iface 92 (.pointer (some ⟨p, 0, none⟩))) 56 92 true).run Try.prog w = .ok (.tuple #[.pointer (some ⟨p, 0, none⟩), .bool true]) w := fun _ => by kernel_rfl
  go_enter Try.func60, Try.ntmps60
  go_wp2
  go_ret2
  exact ⟨rfl, rfl⟩

set_option maxRecDepth 100000 in
theorem numOf_any (v : Value) (x : Nat) (w : World) (h : NumAt w v x) : Calls Try.prog 28 #[v, .nilIface] w fun e w' => e = .returned (.tuple #[.float .f64 x, .nilIface]) ∧ w = w' := by
  obtain ⟨p, rfl, hp, hc⟩ := h
  have ht : ∀ w, (Instr.typeAssert (.iface 92 (.pointer (some ⟨p, 0, none⟩))) 56 92 false).run Try.prog w = .ok (.pointer (some ⟨p, 0, none⟩)) w := fun _ => by kernel_rfl
  go_enter Try.func28, Try.ntmps28
  go_wp2
  go_ret2
  exact ⟨rfl, rfl⟩
set_option maxRecDepth 100000 in
theorem numOf_err (t : TypeId) (u : Value) (w : World) : Calls Try.prog 28 #[.nilIface, .iface t u] w fun e w' => e = .returned (.tuple #[.float .f64 0, .iface t u]) ∧ w = w' := by
  go_enter Try.func28, Try.ntmps28
  go_wp2
  go_ret2
  exact ⟨rfl, rfl⟩
set_option maxRecDepth 100000 in
theorem number_any (x : Nat) (w : World) : Calls Try.prog 18 #[.float .f64 x, .nilIface] w fun e w' => e = .returned (.tuple #[.float .f64 x, .bool true]) ∧ w = w' := by
  go_enter Try.func18, Try.ntmps18
  go_wp2
  go_ret2
  exact ⟨rfl, rfl⟩
set_option maxRecDepth 100000 in
theorem number_err (x : Nat) (t : TypeId) (u : Value) (w : World) : Calls Try.prog 18 #[.float .f64 x, .iface t u] w fun e w' => e = .returned (.tuple #[.float .f64 0, .bool false]) ∧ w = w' := by
  go_enter Try.func18, Try.ntmps18
  go_wp2
  go_ret2
  exact ⟨rfl, rfl⟩

set_option maxRecDepth 100000 in
theorem isNaN_any (x : Nat) (w : World) : Calls Try.prog 32 #[.float .f64 x] w fun e w' => e = .returned (.bool (FloatKind.f64.format.order x x != some .eq)) ∧ w = w' := by
  go_enter Try.func32, Try.ntmps32
  go_wp2
  go_ret
  exact ⟨rfl, rfl⟩
theorem bits_run (x : Nat) (w : World) : (callFunc 68 #[.float .f64 x]).run Try.prog w = .ok (.value (.int .u64 x)) w := by kernel_rfl
theorem frombits_run (x : Int) (w : World) : (callFunc 67 #[.int .u64 x]).run Try.prog w = .ok (.value (.float .f64 x.toNat)) w := by kernel_rfl
set_option maxRecDepth 100000 in
theorem abs_any (x : Nat) (hx : x < 18446744073709551616) (w : World) : Calls Try.prog 47 #[.float .f64 x] w fun e w' => e = .returned (.float .f64 (x % 9223372036854775808)) ∧ w = w' := by
  have hb : (bits .andNot .u64 (x : Int) 9223372036854775808).toNat = x % 9223372036854775808 := by
    have := u64_andNot_nat x 9223372036854775808 hx (by omega)
    have e : ((9223372036854775808 : Nat) : Int) = 9223372036854775808 := rfl
    rw [e] at this
    rw [this, Int.toNat_natCast]
    exact Nat.and_two_pow_sub_one_eq_mod x 63
  have HB := Lib.hid hb
  clear hb
  have h1 := bits_run x
  have h2 := fun n => frombits_run n
  go_enter Try.func47, Try.ntmps47
  go_wp2
  go_ret
  exact ⟨by rw [HB.out]; rfl, rfl⟩
set_option maxRecDepth 100000 in
theorem isInf_any (x : Nat) (hx : x < 18446744073709551616) (hf : Fin x) (w : World) : Calls Try.prog 33 #[.float .f64 x, .int .i64 0] w fun e w' => e = .returned (.bool false) ∧ w = w' := by
  have hn := fin_not_inf hf
  clear hf
  have HX := Lib.hid hx
  clear hx
  go_enter Try.func33, Try.ntmps33
  go_wp2_with (go_at_call 47; refine (abs_any x HX.out _).mono ?_; rintro e w' ⟨rfl, rfl⟩)
  go_ret
  exact ⟨rfl, rfl⟩
/-- The zero interpreter lies there. -/
def Interp (w : World) (p : Nat) : Prop := p < w.heap.size ∧ w.cell? ⟨p, 5, none⟩ = some (.pointer none) ∧ w.cell? ⟨p, 7, none⟩ = some (.slice none 0 0)
theorem Interp.below {w w' : World} {p : Nat} (h : Interp w p) (hb : Below w.heap.size w w') : Interp w' p :=
  ⟨Nat.lt_of_lt_of_le h.1 hb.size, (hb.cell (p := ⟨p, 5, none⟩) h.1).trans h.2.1, (hb.cell (p := ⟨p, 7, none⟩) h.1).trans h.2.2⟩
set_option maxRecDepth 100000 in
theorem trace_any (p : Nat) (w : World) (h : Interp w p) : Calls Try.prog 62 #[.pointer (some ⟨p, 0, none⟩)] w fun e w' => e = .returned (.slice none 0 0) ∧ w = w' := by
  obtain ⟨hp, h5, h7⟩ := h
  go_enter Try.func62, Try.ntmps62
  go_wp2
  refine wp_loop_rounds 1 ?_
  rw [rounds_succ]
  go_wp2
  go_ret
  exact ⟨rfl, rfl⟩
set_option maxRecDepth 100000 in
theorem rterr_any (s : ByteArray) (w : World) : Calls Try.prog 61 #[.string s, .slice none 0 0] w fun e w' => e = .returned (.agg #[.string s, .slice none 0 0]) ∧ Below w.heap.size w w' := by
  go_enter Try.func61, Try.ntmps61
  go_wp2
  exact bodyPost_ret (v := .agg #[.string s, .slice none 0 0]) (by simp [results, Try.results61, go_sem]) rfl ⟨rfl, (Below.refl _ _).alloc (Nat.le_refl _) _⟩
set_option maxRecDepth 100000 in
theorem err_any (p : Nat) (s : ByteArray) (w : World) (h : Interp w p) : Calls Try.prog 75 #[.pointer (some ⟨p, 0, none⟩), .string s] w fun e w' => (∃ t u, e = .returned (.iface t u)) ∧ Below w.heap.size w w' := by
  go_enter Try.func75, Try.ntmps75
  go_wp2_with (first | (go_at_call 62; refine (trace_any _ _ h).mono ?_; rintro e w' ⟨rfl, rfl⟩) | (go_at_call 61; refine (rterr_any _ _).mono ?_; rintro e w' ⟨rfl, hb⟩))
  go_ret
  exact ⟨⟨_, _, rfl⟩, hb.alloc hb.size _⟩
set_option maxRecDepth 100000 in
theorem check_any (i : Value) (x : Nat) (hx : x < 18446744073709551616) (hf : Fin x) (w : World) : Calls Try.prog 63 #[i, .float .f64 x] w fun e w' =>
    ∃ v, e = .returned (.tuple #[v, .nilIface]) ∧ NumAt w' v x ∧ Below w.heap.size w w' := by
  have h1 : (FloatKind.f64.format.order x x != some .eq) = false := by rw [fin_self hf]; rfl
  have HF := Lib.hid hf
  have HX := Lib.hid hx
  clear hf hx
  go_enter Try.func63, Try.ntmps63
  go_wp2_with (first | (go_at_call 32; refine (isNaN_any x _).mono ?_; rintro e w' ⟨rfl, rfl⟩) | (go_at_call 33; refine (isInf_any x HX.out HF.out _).mono ?_; rintro e w' ⟨rfl, rfl⟩) | (go_at_call 44; refine (made_any x _).mono ?_; rintro e w' ⟨rfl, rfl⟩))
  go_ret2
  exact ⟨_, rfl, ⟨w.heap.size, rfl, by simp, by simp [go_sem]⟩, (Below.refl _ _).alloc (Nat.le_refl _) _⟩

/-! ### whole numbers -/
theorem integral_eq {x : Nat} {s : Bool} {m : Nat} {i : Int} (h : FloatKind.f64.decode x = .number s m i) (n : String) (way : Ieee.Toward) :
    Extern.MathFloor.toIntegral n way #[.float .f64 x] = pure (.float .f64 (FloatKind.f64.encode ((FloatKind.f64.decode x).integral way))) := by
  have e : ∃ f1 f2, Extern.MathFloor.toIntegral n way #[.float .f64 x] = Extern.MathFloor.toIntegral.match_1 (fun _ => Sem Value) (FloatKind.f64.decode x) f1 f2 ∧ ∀ d, f2 d = pure (.float .f64 (FloatKind.f64.encode (d.integral way))) := ⟨_, _, rfl, fun _ => rfl⟩
  obtain ⟨f1, f2, e1, e2⟩ := e
  rw [e1, ← e2]
  rw [h]
theorem trunc_run {x : Nat} {s : Bool} {m : Nat} {i : Int} (h : FloatKind.f64.decode x = .number s m i) (w : World) : (callFunc 48 #[.float .f64 x]).run Try.prog w = .ok (.value (.float .f64 (tr x))) w := by
  refine (run_callFunc_extern (e := Extern.MathFloor.toIntegral "math.archTrunc" .zero) Try.func48 (by kernel_rfl) (by kernel_rfl) (by kernel_rfl) (by kernel_rfl) #[.float .f64 x] w).trans ?_
  rw [integral_eq h]
  rfl
set_option maxRecDepth 100000 in
theorem trunc_any {x : Nat} {s : Bool} {m : Nat} {i : Int} (h : FloatKind.f64.decode x = .number s m i) (w : World) : Calls Try.prog 34 #[.float .f64 x] w fun e w' => e = .returned (.float .f64 (tr x)) ∧ w = w' := by
  have ht := trunc_run h
  clear h
  go_enter Try.func34, Try.ntmps34
  go_wp2
  go_ret
  exact ⟨rfl, rfl⟩

/-- Between the bounds. -/
def above (x : Nat) : Bool := FloatKind.f64.format.order x 14069245235905429504 == some .gt
def under (x : Nat) : Bool := FloatKind.f64.format.order x 4845873199050653696 == some .lt
theorem between_num {x : Nat} (h1 : above x = true) (h2 : under x = true) : ∃ s m i, FloatKind.f64.decode x = .number s m i ∧ (sc s m i).natAbs < 9007199254740992 * K := by
  unfold above at h1
  unfold under at h2
  cases h : FloatKind.f64.decode x with
  | number s m i =>
    refine ⟨s, m, i, rfl, ?_⟩
    rw [order_n53 h] at h1
    rw [order_p53 h] at h2
    have a : -(9007199254740992 * (K : Int)) < sc s m i := by
      refine Classical.byContradiction fun hn => ?_
      by_cases e : sc s m i = -(9007199254740992 * (K : Int))
      · rw [e, compare_self] at h1; exact absurd h1 (by decide)
      · rw [compare_lt (by omega)] at h1; exact absurd h1 (by decide)
    have b : sc s m i < 9007199254740992 * (K : Int) := by
      refine Classical.byContradiction fun hn => ?_
      by_cases e : sc s m i = 9007199254740992 * (K : Int)
      · rw [e, compare_self] at h2; exact absurd h2 (by decide)
      · rw [compare_gt (by omega)] at h2; exact absurd h2 (by decide)
    omega
  | infinity s =>
    rw [order_eq, h, decode_n53] at h1
    rw [order_eq, h, decode_p53] at h2
    cases s
    · exact absurd h2 (by decide)
    · exact absurd h1 (by decide)
  | nan s f =>
    rw [order_eq, h] at h1
    exact absurd h1 (by simp [Ieee.Datum.order])

/-- It is whole: as integer asks it. -/
def wholeB (x : Nat) : Bool := above x && (under x && (FloatKind.f64.format.order x (tr x) == some .eq))
def valOf (x : Nat) : Int := match floatToIntVal .f64 x .i64 with | some n => n | none => 0
theorem whole_val {x : Nat} (h : wholeB x = true) : IsWhole x (valOf x) ∧ floatToIntVal .f64 x .i64 = some (valOf x) := by
  simp only [wholeB, Bool.and_eq_true] at h
  obtain ⟨h1, h2, h3⟩ := h
  obtain ⟨s, m, i, e, hb⟩ := between_num h1 h2
  rw [order_tr e hb] at h3
  have hu : sc s m i = (sc s m i).tdiv K * (K : Int) := by
    refine Classical.byContradiction fun hn => ?_
    rcases Int.lt_or_gt_of_ne hn with c | c
    · rw [compare_lt c] at h3; exact absurd h3 (by decide)
    · rw [compare_gt c] at h3; exact absurd h3 (by decide)
  have hq : ((sc s m i).tdiv K).natAbs < 9007199254740992 := by
    rw [Int.natAbs_tdiv, Int.natAbs_natCast]
    exact (Nat.div_lt_iff_lt_mul K_pos).2 hb
  have hf : floatToIntVal .f64 x .i64 = some ((sc s m i).tdiv K) := by
    unfold floatToIntVal
    rw [toInt_word e]
    simp only
    rw [if_pos]
    show -9223372036854775808 ≤ _ ∧ _ ≤ 9223372036854775807
    omega
  have hv : valOf x = (sc s m i).tdiv K := by unfold valOf; rw [hf]
  rw [hv]
  exact ⟨⟨hq, s, m, i, e, hu⟩, hf⟩

set_option maxRecDepth 100000 in
theorem integer_yes (x : Nat) (h : wholeB x = true) (w : World) : Calls Try.prog 22 #[.float .f64 x] w fun e w' => e = .returned (.tuple #[.int .i64 (valOf x), .bool true]) ∧ w = w' := by
  have hc := fun w => run_convert_float_int (P := Try.prog) w 22 2 .f64 .i64 x (valOf x) (by kernel_rfl) Try.underlying2 (whole_val h).2
  simp only [wholeB, Bool.and_eq_true] at h
  obtain ⟨h1, h2, h3⟩ := h
  obtain ⟨s, m, i, e, hb⟩ := between_num h1 h2
  have HE := Lib.hid e
  clear e hb
  have h4 : (FloatKind.f64.format.order x (tr x) != some .eq) = false := by rw [bne, h3]; rfl
  simp only [above] at h1
  simp only [under] at h2
  clear h3
  go_enter Try.func22, Try.ntmps22
  go_wp2_with (go_at_call 34; refine (trunc_any HE.out _).mono ?_; rintro e w' ⟨rfl, rfl⟩)
  go_ret2
  exact ⟨rfl, rfl⟩
set_option maxRecDepth 100000 in
theorem integer_no (x : Nat) (h : wholeB x = false) (w : World) : Calls Try.prog 22 #[.float .f64 x] w fun e w' => e = .returned (.tuple #[.int .i64 0, .bool false]) ∧ w = w' := by
  by_cases h1 : above x = true
  · by_cases h2 : under x = true
    · have h4 : (FloatKind.f64.format.order x (tr x) != some .eq) = true := by
        unfold wholeB at h
        rw [h1, h2, Bool.true_and, Bool.true_and] at h
        rw [bne, h]; rfl
      obtain ⟨s, m, i, e, hb⟩ := between_num h1 h2
      have HE := Lib.hid e
      clear e hb h
      simp only [above] at h1
      simp only [under] at h2
      go_enter Try.func22, Try.ntmps22
      go_wp2_with (go_at_call 34; refine (trunc_any HE.out _).mono ?_; rintro e w' ⟨rfl, rfl⟩)
      go_ret2
      exact ⟨rfl, rfl⟩
    · rw [Bool.not_eq_true] at h2
      clear h
      simp only [above] at h1
      simp only [under] at h2
      go_enter Try.func22, Try.ntmps22
      go_wp2_with fail
      go_ret2
      exact ⟨rfl, rfl⟩
  · rw [Bool.not_eq_true] at h1
    clear h
    simp only [above] at h1
    go_enter Try.func22, Try.ntmps22
    go_wp2_with fail
    go_ret2
    exact ⟨rfl, rfl⟩
theorem whole_yes (x : Nat) (h : wholeB x = true) (w : World) : Calls Try.prog 11 #[.float .f64 x] w fun e w' => e = .returned (.tuple #[.int .i64 (valOf x), .bool true]) ∧ w = w' := by
  have H := Lib.hid h
  clear h
  go_enter Try.func11, Try.ntmps11
  go_wp2_with (go_at_call 22; refine (integer_yes _ H.out _).mono ?_; rintro e w' ⟨rfl, rfl⟩)
  go_ret2
  exact ⟨rfl, rfl⟩
theorem whole_no (x : Nat) (h : wholeB x = false) (w : World) : Calls Try.prog 11 #[.float .f64 x] w fun e w' => e = .returned (.tuple #[.int .i64 0, .bool false]) ∧ w = w' := by
  have H := Lib.hid h
  clear h
  go_enter Try.func11, Try.ntmps11
  go_wp2_with (go_at_call 22; refine (integer_no _ H.out _).mono ?_; rintro e w' ⟨rfl, rfl⟩)
  go_ret2
  exact ⟨rfl, rfl⟩
end Go.Proofs.Ytnnmdceppjmooaa
