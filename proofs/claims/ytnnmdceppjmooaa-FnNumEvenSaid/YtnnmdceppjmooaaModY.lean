/-
  math.mod by two. Conditions: none.
-/
import Derived.Test.YtnnmdceppjmooaaModX
import Derived.WalkKit
import Derived.WalkSpells
import Derived.WalkLawsBesides
import Derived.Lib.Hide
import Derived.Outline
import Derived.Laws.BitsAllLaws
namespace Go.Proofs.Ytnnmdceppjmooaa
open Go.RowKit
set_option linter.unusedVariables false
set_option linter.unusedSimpArgs false

def flOf : Value → Nat
  | .float _ n => n
  | _ => 0
theorem ge_no {z y N : Nat} (h : Val z N) (k : Val y 2) (hN : N < 2) : (FloatKind.f64.format.order z y == some .gt || FloatKind.f64.format.order z y == some .eq) = false := by
  rw [h.order k, compare_lt (by omega)]
  rfl
theorem ge_yes {z y N : Nat} (h : Val z N) (k : Val y 2) (hN : 2 ≤ N) : (FloatKind.f64.format.order z y == some .gt || FloatKind.f64.format.order z y == some .eq) = true := by
  rw [h.order k]
  by_cases e : N = 2
  · rw [e, compare_self]; rfl
  · rw [compare_gt (by omega)]; rfl
/-- Against nought. -/
theorem order_nought {z : Nat} {s : Bool} {m : Nat} {i : Int} (h : FloatKind.f64.decode z = .number s m i) : FloatKind.f64.format.order z 0 = some (compare (sc s m i) 0) := by
  have h0 : FloatKind.f64.decode 0 = .number false 0 (-1074) := by rw [decode_eq]; rfl
  rw [order_eq, h, h0, order_sc _ _ _ _ _ _ (read_place h).1 (by omega), sc_zero]
theorem ret_flo {a b : Nat} (h : a = b) : Ending.returned (.float .f64 a) = .returned (.float .f64 b) := by rw [h]
/-- What is left: nought exactly for an even number. -/
def Left (n : Int) (r : Nat) : Prop := (FloatKind.f64.format.order r 0 == some .eq) = decide (n % 2 = 0)
theorem left_of {r N : Nat} {n : Int} {s : Bool} {m : Nat} {i : Int} (h : FloatKind.f64.decode r = .number s m i) (hv : sc s m i = (N : Int) * (K : Int) ∨ sc s m i = -((N : Int) * (K : Int))) (hN : N < 2) (hn : N % 2 = n.natAbs % 2) : Left n r := by
  unfold Left
  rw [order_nought h]
  have hk := K_pos
  by_cases e : N = 0
  · subst e
    have : sc s m i = 0 := by rcases hv with hv | hv <;> rw [hv] <;> simp
    rw [this, compare_self, decide_eq_true (by omega)]; rfl
  · have e1 : N = 1 := by omega
    subst e1
    rw [decide_eq_false (by omega)]
    rcases hv with hv | hv
    · rw [hv, compare_gt (by omega)]; rfl
    · rw [hv, compare_lt (by omega)]; rfl
/-- Not under nought, or under it. -/
theorem start_pos {x : Nat} {s : Bool} {m : Nat} {i n : Int} (hx : x < 18446744073709551616) (hd : FloatKind.f64.decode x = .number s m i) (hv : sc s m i = n * (K : Int)) (h : (FloatKind.f64.format.order x 0 == some .lt) = false) : Val x n.natAbs := by
  refine ⟨hx, s, m, i, hd, ?_⟩
  have hk := K_pos
  have h0 : 0 ≤ n := by
    refine Classical.byContradiction fun hh => ?_
    have : n * (K : Int) < 0 := Int.mul_neg_of_neg_of_pos (by omega) (by omega)
    rw [order_nought hd, hv, compare_lt this] at h
    cases h
  rw [hv, Int.natAbs_of_nonneg h0]
theorem start_neg {x : Nat} {s : Bool} {m : Nat} {i n : Int} (hx : x < 18446744073709551616) (hd : FloatKind.f64.decode x = .number s m i) (hv : sc s m i = n * (K : Int)) (h : (FloatKind.f64.format.order x 0 == some .lt) = true) : Val (x ^^^ 9223372036854775808) n.natAbs := by
  refine ⟨Nat.xor_lt_two_pow (n := 64) hx (by omega), !s, m, i, neg_read hd, ?_⟩
  have hk := K_pos
  have h0 : n ≤ 0 := by
    refine Classical.byContradiction fun hh => ?_
    have : 0 < n * (K : Int) := Int.mul_pos (by omega) (by omega)
    rw [order_nought hd, hv, compare_gt this] at h
    cases h
  rw [sc_not, hv, ← Int.neg_mul]
  congr 1
  omega
theorem left_pos {z N : Nat} {n : Int} (h : Val z N) (hN : N < 2) (hn : N % 2 = n.natAbs % 2) : Left n z := by
  obtain ⟨_, s, m, i, hd, hv⟩ := h
  exact left_of hd (.inl hv) hN hn
theorem left_neg {z N : Nat} {n : Int} (h : Val z N) (hN : N < 2) (hn : N % 2 = n.natAbs % 2) : Left n (z ^^^ 9223372036854775808) := by
  obtain ⟨_, s, m, i, hd, hv⟩ := h
  refine left_of (neg_read hd) (.inr ?_) hN hn
  rw [sc_not, hv]
theorem wd_of {z e f : Nat} (h1 : 1024 ≤ e) (h2 : e ≤ 2046) (h3 : f < 4503599627370496) (h4 : z = e * 4503599627370496 + f) : Wd z e f := ⟨h4, h1, h2, h3⟩

theorem neg_run (z : Nat) (w : World) : (Op.unary UnOp.neg (.float .f64 z)).run Try.prog w = .ok (.float .f64 (z ^^^ 9223372036854775808)) w := rfl
set_option maxRecDepth 100000 in
set_option maxHeartbeats 2000000 in
theorem mod_num (x y : Nat) {s : Bool} {m : Nat} {i n : Int} (hx : x < 18446744073709551616) (hd : FloatKind.f64.decode x = .number s m i) (hv : sc s m i = n * (K : Int)) (hy : Wd y 1024 0) (hy2 : Val y 2) (w : World) :
    Calls Try.prog 73 #[.float .f64 x, .float .f64 y] w fun e w' => (∃ r, e = .returned (.float .f64 r) ∧ Left n r) ∧ w = w' := by
  have HX := Lib.hid hx
  have HF : Hid (Fin x) := ⟨_, _, _, hd⟩
  have HY := Lib.hid hy
  have HY2 := Lib.hid hy2
  have hnn : (FloatKind.f64.format.order x x != some .eq) = false := by rw [fin_self HF.out]; rfl
  have hny : (FloatKind.f64.format.order y y != some .eq) = false := by rw [fin_self hy.fin]; rfl
  have h0 := hy.nonzero
  have hng := neg_run
  rcases hb : (FloatKind.f64.format.order x 0 == some .lt) with _ | _
  · have HV := Lib.hid (start_pos hx hd hv hb)
    clear hx hd hv hy hy2
    go_enter Try.func73, Try.ntmps73
    go_wp2_with (first
      | (go_at_call 33; refine (isInf_any x HX.out HF.out _).mono ?_; rintro e w' ⟨rfl, rfl⟩)
      | (go_at_call 32; refine (isNaN_any _ _).mono ?_; rintro e w' ⟨rfl, rfl⟩)
      | (go_at_call 47; refine (abs_small y HY.out.lt _).mono ?_; rintro e w' ⟨rfl, rfl⟩)
      | (go_at_call 79; refine (Frexp_any y 1024 0 HY.out _).mono ?_; rintro e w' ⟨⟨k, hk, rfl⟩, rfl⟩))
    go_loop [7] (fun r => ∃ (z N : Nat), r = .float .f64 z ∧ Val z N ∧ N % 2 = n.natAbs % 2) (fun r => magn (flOf r))
    case atStart => exact ⟨x, _, rfl, HV.out, rfl⟩
    case round =>
      obtain ⟨z, N, rfl, hz, hn⟩ := hrel
      have HZ := Lib.hid hz
      have HN := Lib.hid hn
      by_cases h2 : N < 2
      · have hge := ge_no hz HY2.out h2
        clear hz hn
        go_wp2
        go_ret
        exact ⟨⟨_, rfl, left_pos HZ.out h2 HN.out⟩, rfl⟩
      · have hge := ge_yes hz HY2.out (by omega)
        obtain ⟨e, f, h3, h4, h5, h6, h7, h8⟩ := hz.two (by omega)
        have HW := Lib.hid (wd_of h3 h4 h5 h6)
        have hnl := not_less_half h5
        have HL := Lib.hid (fun p hp => Val.less (p := p) (show 2 ≤ N by omega) h3 h4 h5 h7 h8 hp)
        clear hz hn h6 h7 h8
        go_wp2_with (first
          | (go_at_call 79; refine (Frexp_any z e f HW.out _).mono ?_; rintro en w' ⟨⟨k, hk, rfl⟩, rfl⟩))
        refine (Ldexp_any y e HY.out h3 h4 _ (by omega) _).mono ?_
        rintro en w' ⟨⟨p, rfl, hp, hp2⟩, rfl⟩
        obtain ⟨r, N', hs, hr, hlt, hpar⟩ := HL.out p hp2
        have hs2 := fun w => run_float_arith (P := Try.prog) w .sub 22 .f64 _ _ _ hs
        have HR := Lib.hid hr
        clear hs hr hp hp2
        go_wp2_with fail
        go_round
        case rel => exact ⟨r, N', rfl, HR.out, hpar.trans HN.out⟩
        case measure => exact magn_lt HZ.out HR.out hlt
  · have HV := Lib.hid (start_neg hx hd hv hb)
    clear hx hd hv hy hy2
    go_enter Try.func73, Try.ntmps73
    go_wp2_with (first
      | (go_at_call 33; refine (isInf_any x HX.out HF.out _).mono ?_; rintro e w' ⟨rfl, rfl⟩)
      | (go_at_call 32; refine (isNaN_any _ _).mono ?_; rintro e w' ⟨rfl, rfl⟩)
      | (go_at_call 47; refine (abs_small y HY.out.lt _).mono ?_; rintro e w' ⟨rfl, rfl⟩)
      | (go_at_call 79; refine (Frexp_any y 1024 0 HY.out _).mono ?_; rintro e w' ⟨⟨k, hk, rfl⟩, rfl⟩))
    go_loop [7] (fun r => ∃ (z N : Nat), r = .float .f64 z ∧ Val z N ∧ N % 2 = n.natAbs % 2) (fun r => magn (flOf r))
    case atStart => exact ⟨_, _, rfl, HV.out, rfl⟩
    case round =>
      obtain ⟨z, N, rfl, hz, hn⟩ := hrel
      have HZ := Lib.hid hz
      have HN := Lib.hid hn
      by_cases h2 : N < 2
      · have hge := ge_no hz HY2.out h2
        clear hz hn
        go_wp2
        go_ret
        exact ⟨⟨_, rfl, left_neg HZ.out h2 HN.out⟩, rfl⟩
      · have hge := ge_yes hz HY2.out (by omega)
        obtain ⟨e, f, h3, h4, h5, h6, h7, h8⟩ := hz.two (by omega)
        have HW := Lib.hid (wd_of h3 h4 h5 h6)
        have hnl := not_less_half h5
        have HL := Lib.hid (fun p hp => Val.less (p := p) (show 2 ≤ N by omega) h3 h4 h5 h7 h8 hp)
        clear hz hn h6 h7 h8
        go_wp2_with (first
          | (go_at_call 79; refine (Frexp_any z e f HW.out _).mono ?_; rintro en w' ⟨⟨k, hk, rfl⟩, rfl⟩))
        refine (Ldexp_any y e HY.out h3 h4 _ (by omega) _).mono ?_
        rintro en w' ⟨⟨p, rfl, hp, hp2⟩, rfl⟩
        obtain ⟨r, N', hs, hr, hlt, hpar⟩ := HL.out p hp2
        have hs2 := fun w => run_float_arith (P := Try.prog) w .sub 22 .f64 _ _ _ hs
        have HR := Lib.hid hr
        clear hs hr hp hp2
        go_wp2_with fail
        go_round
        case rel => exact ⟨r, N', rfl, HR.out, hpar.trans HN.out⟩
        case measure => exact magn_lt HZ.out HR.out hlt
end Go.Proofs.Ytnnmdceppjmooaa
