/-
  math.Mod by two, math.Copysign, math.Modf. Conditions: none.
-/
import Derived.Test.YtnnmdceppjmooaaModY
import Derived.Test.YtnnmdceppjmooaaCeil
import Derived.WalkKit
import Derived.WalkSpells
import Derived.WalkLawsBesides
import Derived.Lib.Hide
import Derived.Outline
import Derived.Laws.BitsAllLaws
namespace Go.Proofs.Ytnnmdceppjmooaa
open Go.RowKit
set_option linter.unusedVariables false
set_option linter.unusedSimpArgs false

set_option maxRecDepth 100000 in
theorem Mod_num (x y : Nat) {s : Bool} {m : Nat} {i n : Int} (hx : x < 18446744073709551616) (hd : FloatKind.f64.decode x = .number s m i) (hv : sc s m i = n * (K : Int)) (hy : Wd y 1024 0) (hy2 : Val y 2) (w : World) :
    Calls Try.prog 53 #[.float .f64 x, .float .f64 y] w fun e w' => (∃ r, e = .returned (.float .f64 r) ∧ Left n r) ∧ w = w' := by
  have H := Lib.hid (fun w => mod_num x y hx hd hv hy hy2 w)
  clear hx hd hv hy hy2
  go_enter Try.func53, Try.ntmps53
  go_wp2_with (first
    | (go_at_call 73; refine (H.out _).mono ?_; rintro e w' ⟨⟨r, rfl, hr⟩, rfl⟩))
  go_ret
  exact ⟨⟨_, rfl, hr⟩, rfl⟩
set_option maxRecDepth 100000 in
theorem nan_any (w : World) : Calls Try.prog 78 #[] w fun e w' => (∃ r, e = .returned (.float .f64 r)) ∧ w = w' := by
  have hfb := fun n w => frombits_run n w
  go_enter Try.func78, Try.ntmps78
  go_wp2
  go_ret
  exact ⟨⟨_, rfl⟩, rfl⟩
set_option maxRecDepth 100000 in
theorem isInf_no (x : Nat) (hx : x < 18446744073709551616) (hn : (FloatKind.f64.format.order (x % 9223372036854775808) 9218868437227405311 == some .gt) = false) (w : World) : Calls Try.prog 33 #[.float .f64 x, .int .i64 0] w fun e w' => e = .returned (.bool false) ∧ w = w' := by
  have HX := Lib.hid hx
  clear hx
  go_enter Try.func33, Try.ntmps33
  go_wp2_with (go_at_call 47; refine (abs_any x HX.out _).mono ?_; rintro e w' ⟨rfl, rfl⟩)
  go_ret
  exact ⟨rfl, rfl⟩
set_option maxRecDepth 100000 in
set_option maxHeartbeats 1000000 in
theorem mod_bad (x y : Nat) (hx : x < 18446744073709551616) (hb : Bad x) (hy : Wd y 1024 0) (w : World) :
    Calls Try.prog 73 #[.float .f64 x, .float .f64 y] w fun e w' => (∃ r, e = .returned (.float .f64 r)) ∧ w = w' := by
  have HX := Lib.hid hx
  have h0 := hy.nonzero
  clear hx hy
  rcases hb with hb | ⟨hb, hg⟩
  · by_cases hi : (FloatKind.f64.format.order (x % 9223372036854775808) 9218868437227405311 == some .gt) = true
    · go_enter Try.func73, Try.ntmps73
      go_wp2_with (first
        | (go_at_call 33; refine (isInf_bad x HX.out hi _).mono ?_; rintro e w' ⟨rfl, rfl⟩)
        | (go_at_call 78; refine (nan_any _).mono ?_; rintro e w' ⟨⟨r, rfl⟩, rfl⟩))
      go_ret
      exact ⟨⟨_, rfl⟩, rfl⟩
    · have hi2 := Bool.eq_false_iff.2 hi
      clear hi
      go_enter Try.func73, Try.ntmps73
      go_wp2_with (first
        | (go_at_call 33; refine (isInf_no x HX.out hi2 _).mono ?_; rintro e w' ⟨rfl, rfl⟩)
        | (go_at_call 32; refine (isNaN_any _ _).mono ?_; rintro e w' ⟨rfl, rfl⟩)
        | (go_at_call 78; refine (nan_any _).mono ?_; rintro e w' ⟨⟨r, rfl⟩, rfl⟩))
      go_ret
      exact ⟨⟨_, rfl⟩, rfl⟩
  · go_enter Try.func73, Try.ntmps73
    go_wp2_with (first
      | (go_at_call 33; refine (isInf_bad x HX.out hg _).mono ?_; rintro e w' ⟨rfl, rfl⟩)
      | (go_at_call 78; refine (nan_any _).mono ?_; rintro e w' ⟨⟨r, rfl⟩, rfl⟩))
    go_ret
    exact ⟨⟨_, rfl⟩, rfl⟩
set_option maxRecDepth 100000 in
theorem Mod_bad (x y : Nat) (hx : x < 18446744073709551616) (hb : Bad x) (hy : Wd y 1024 0) (w : World) :
    Calls Try.prog 53 #[.float .f64 x, .float .f64 y] w fun e w' => (∃ r, e = .returned (.float .f64 r)) ∧ w = w' := by
  have H := Lib.hid (fun w => mod_bad x y hx hb hy w)
  clear hx hb hy
  go_enter Try.func53, Try.ntmps53
  go_wp2_with (first
    | (go_at_call 73; refine (H.out _).mono ?_; rintro e w' ⟨⟨r, rfl⟩, rfl⟩))
  go_ret
  exact ⟨⟨_, rfl⟩, rfl⟩

/-! ### the fraction -/
set_option maxRecDepth 100000 in
theorem copysign_any (x y : Nat) (w : World) : Calls Try.prog 69 #[.float .f64 x, .float .f64 y] w fun e w' => (∃ r, e = .returned (.float .f64 r)) ∧ w = w' := by
  have hb := fun n w => bits_run n w
  have hfb := fun n w => frombits_run n w
  go_enter Try.func69, Try.ntmps69
  go_wp2
  go_ret
  exact ⟨⟨_, rfl⟩, rfl⟩
/-- A sum of two numbers. -/
theorem sub_some {x y : Nat} (hx : Fin x) (hy : Fin y) : ∃ r, floatBits .sub .f64 x y = some r := by
  obtain ⟨s, m, i, hx⟩ := hx
  obtain ⟨t, n, j, hy⟩ := hy
  show ∃ r, (((FloatKind.f64.decode x).sum (FloatKind.f64.decode y).opposite).map FloatKind.f64.encode) = some r
  rw [hx, hy]
  exact ⟨_, rfl⟩
theorem tr_fin {x : Nat} {s : Bool} {m : Nat} {i : Int} (h : FloatKind.f64.decode x = .number s m i) : Fin (tr x) := by
  obtain ⟨m', i', n, h1, h2⟩ := tr_int h
  exact ⟨_, _, _, h1⟩
set_option maxRecDepth 100000 in
theorem modf_num {x : Nat} {s : Bool} {m : Nat} {i : Int} (h : FloatKind.f64.decode x = .number s m i) (w : World) : Calls Try.prog 52 #[.float .f64 x] w fun e w' => (∃ r, e = .returned (.tuple #[.float .f64 (tr x), .float .f64 r])) ∧ w = w' := by
  have H := Lib.hid h
  obtain ⟨r, hr⟩ := sub_some ⟨_, _, _, h⟩ (tr_fin h)
  have hs := fun w => run_float_arith (P := Try.prog) w .sub 22 .f64 _ _ _ hr
  clear h hr
  go_enter Try.func52, Try.ntmps52
  go_wp2_with (first
    | (go_at_call 34; refine (trunc_any H.out _).mono ?_; rintro e w' ⟨rfl, rfl⟩)
    | (go_at_call 69; refine (copysign_any _ _ _).mono ?_; rintro e w' ⟨⟨r, rfl⟩, rfl⟩))
  go_ret2
  exact ⟨⟨_, rfl⟩, rfl⟩
/-- Of what is no number: what is none. -/
theorem trunc_bad {x : Nat} (h : ∀ s m i, FloatKind.f64.decode x ≠ .number s m i) (hx : x < 18446744073709551616) (w : World) : ∃ r, (∃ k, (callFunc 48 #[.float .f64 x]).run Try.prog w = .ok (.value (.float .f64 r)) (w.drewN k)) ∧ Bad r ∧ r < 18446744073709551616 := by
  have hrun := run_callFunc_extern (e := Extern.MathFloor.toIntegral "math.archTrunc" .zero) Try.func48 (by kernel_rfl) (by kernel_rfl) (by kernel_rfl) (by kernel_rfl) #[.float .f64 x] w
  rw [hrun]
  have e : ∃ (f1 : Bool → Nat → Sem Value) (f2 : Ieee.Datum → Sem Value), Extern.MathFloor.toIntegral "math.archTrunc" .zero #[.float .f64 x] = Extern.MathFloor.toIntegral.match_1 (fun _ => Sem Value) (FloatKind.f64.decode x) f1 f2 ∧ (∀ d, f2 d = pure (.float .f64 (FloatKind.f64.encode (d.integral .zero)))) ∧
      ∀ s t, FloatKind.f64.format.quiet t = t ∧ f1 s t = pure (.float .f64 x) ∨ FloatKind.f64.format.quiet t ≠ t ∧ ∃ q : Question, q.forced = false ∧ f1 s t = (do let kept ← choose q; pure (.float .f64 (if kept == 1 then x else FloatKind.f64.encode (.nan s (FloatKind.f64.format.quiet t))))) := by
    refine ⟨_, _, rfl, fun _ => rfl, fun s t => ?_⟩
    by_cases hq : FloatKind.f64.format.quiet t = t
    · exact .inl ⟨hq, by simp only [if_pos hq]⟩
    · exact .inr ⟨hq, _, rfl, by simp only [if_neg hq]; rfl⟩
  obtain ⟨f1, f2, e1, e2, e3⟩ := e
  rw [e1]
  cases hd : FloatKind.f64.decode x with
  | number s m i => exact absurd hd (h s m i)
  | infinity s =>
    refine ⟨FloatKind.f64.encode (.infinity s), ⟨0, ?_⟩, bad_inf s, enc_lt _⟩
    show ((f2 (.infinity s)).run Try.prog w).andThen _ = _
    rw [e2]
    rfl
  | nan s t =>
    rcases e3 s t with ⟨_, e4⟩ | ⟨_, q, hq, e4⟩
    · refine ⟨x, ⟨0, ?_⟩, bad_nan hd, hx⟩
      show ((f1 s t).run Try.prog w).andThen _ = _
      rw [e4]
      rfl
    · have hr : (f1 s t).run Try.prog w = .ok (.float .f64 (if (q.cut (w.tape w.drawn q) == 1) then x else FloatKind.f64.encode (.nan s (FloatKind.f64.format.quiet t)))) w.drew := by
        rw [e4]
        simp only [Sem.run_bind, run_choose, hq, Bool.false_eq_true, if_false, Result.andThen, Sem.run_pure]
        rfl
      refine ⟨(if (q.cut (w.tape w.drawn q) == 1) then x else FloatKind.f64.encode (.nan s (FloatKind.f64.format.quiet t))), ⟨1, ?_⟩, ?_, ?_⟩
      · show ((f1 s t).run Try.prog w).andThen _ = _
        rw [hr]
        rfl
      · split
        · exact bad_nan hd
        · exact quiet_bad s t
      · split
        · exact hx
        · exact enc_lt _
set_option maxRecDepth 100000 in
theorem trunc_none {x : Nat} (h : ∀ s m i, FloatKind.f64.decode x ≠ .number s m i) (hx : x < 18446744073709551616) (w : World) : Calls Try.prog 34 #[.float .f64 x] w (CeilBad w) := by
  obtain ⟨r, ⟨k, hr⟩, hb, hl⟩ := trunc_bad h hx w
  have HB := Lib.hid hb
  have HL := Lib.hid hl
  clear h hx hb hl
  go_enter Try.func34, Try.ntmps34
  go_wp2
  go_ret
  exact ⟨_, rfl, HB.out, HL.out, _, rfl⟩
theorem sub_run (x y : Nat) (w : World) : ∃ r k, (binOp .sub 22 (.float .f64 x) (.float .f64 y)).run Try.prog w = .ok (.float .f64 r) (w.drewN k) := by
  cases h : floatBits .sub .f64 x y with
  | some r => exact ⟨r, 0, run_float_arith w .sub 22 .f64 x y r h⟩
  | none =>
    refine ⟨(Question.nanBits .f64 x y).cut (w.tape w.drawn (.nanBits .f64 x y)), 1, ?_⟩
    have h2 : FloatKind.f64.format.sub x y = none := h
    have h3 : (Question.nanBits .f64 x y).forced = false := rfl
    have e : (binOp .sub 22 (.float .f64 x) (.float .f64 y)) = Op.floatArith .sub .f64 x y := rfl
    rw [e]
    unfold Op.floatArith
    simp only [Sem.run_bind, Sem.run_pure, Result.andThen, h2, run_choose, h3, Bool.false_eq_true, if_false]
    rfl
set_option maxRecDepth 100000 in
theorem modf_none {x : Nat} (h : ∀ s m i, FloatKind.f64.decode x ≠ .number s m i) (hx : x < 18446744073709551616) (w : World) : Calls Try.prog 52 #[.float .f64 x] w fun e w' => ∃ r q k, e = .returned (.tuple #[.float .f64 r, .float .f64 q]) ∧ Bad r ∧ r < 18446744073709551616 ∧ w' = w.drewN k := by
  have H := Lib.hid h
  have HX := Lib.hid hx
  clear h hx
  go_enter Try.func52, Try.ntmps52
  go_wp2_with (first
    | (go_at_call 34; refine (trunc_none H.out HX.out _).mono ?_; rintro e w' ⟨r, rfl, hr1, hr2, k, rfl⟩; obtain ⟨r3, k3, hs⟩ := sub_run x r (w.drewN k))
    | (go_at_call 69; refine (copysign_any _ _ _).mono ?_; rintro e w' ⟨⟨r4, rfl⟩, rfl⟩))
  go_ret2
  exact ⟨_, _, k + k3, rfl, hr1, hr2, by first | rfl | simp⟩
end Go.Proofs.Ytnnmdceppjmooaa
