/-
  What PartCeil and NumCeil tell of a double, and the statement's own walk. Conditions: none.
-/
import Derived.Test.YtnnmdceppjmooaaCeilP
import Derived.WalkKit
import Derived.WalkSpells
import Derived.WalkLawsBesides
import Derived.Lib.Hide
import Derived.Outline
import Derived.Deep.RegionHeld3
namespace Go.Proofs.Ytnnmdceppjmooaa
open Go.RowKit
set_option linter.unusedVariables false

def Failed (w : World) (e : Ending) (w' : World) : Prop := (∃ t u, e = .returned (.tuple #[.nilIface, .iface t u])) ∧ Below w.heap.size w w'
def Gave (r : Nat) (w : World) (e : Ending) (w' : World) : Prop := ∃ v, e = .returned (.tuple #[v, .nilIface]) ∧ NumAt w' v r ∧ Below w.heap.size w w'
theorem cell_keepz {w w' : World} {a : Addr} {v : Value} (hb : Below w.heap.size w w') (h : w.cell? a = some v) : w'.cell? a = some v := (hb.cell (World.block_lt_of_cell? _ _ h)).trans h
theorem enc_lt (d : Ieee.Datum) : FloatKind.f64.encode d < 18446744073709551616 := by
  have h := FloatKind.f64.format.write_lt d
  exact Nat.lt_of_lt_of_eq h rfl

/-- A NaN, as IsNaN asks; an infinity. -/
def Bad (r : Nat) : Prop := (FloatKind.f64.format.order r r != some .eq) = true ∨ ((FloatKind.f64.format.order r r != some .eq) = false ∧ (FloatKind.f64.format.order (r % 9223372036854775808) 9218868437227405311 == some .gt) = true)
theorem bad_nan {r : Nat} {s : Bool} {t : Nat} (h : FloatKind.f64.decode r = .nan s t) : Bad r := by
  left
  rw [order_eq, h]
  rfl
theorem decode_inf (s : Bool) : FloatKind.f64.decode (FloatKind.f64.encode (.infinity s)) = .infinity s ∧ FloatKind.f64.decode (FloatKind.f64.encode (.infinity s) % 9223372036854775808) = .infinity false := by
  cases s
  · constructor
    · show FloatKind.f64.decode 9218868437227405312 = _
      rw [decode_eq, if_neg (by omega), if_neg (by omega), if_pos (by omega)]; rfl
    · show FloatKind.f64.decode 9218868437227405312 = _
      rw [decode_eq, if_neg (by omega), if_neg (by omega), if_pos (by omega)]; rfl
  · constructor
    · show FloatKind.f64.decode 18442240474082181120 = _
      rw [decode_eq, if_neg (by omega), if_neg (by omega), if_pos (by omega)]; rfl
    · show FloatKind.f64.decode 9218868437227405312 = _
      rw [decode_eq, if_neg (by omega), if_neg (by omega), if_pos (by omega)]; rfl
theorem bad_inf (s : Bool) : Bad (FloatKind.f64.encode (.infinity s)) := by
  right
  obtain ⟨h1, h2⟩ := decode_inf s
  rw [order_eq, order_eq, h1, h2, decode_max]
  cases s <;> exact ⟨rfl, rfl⟩

set_option maxRecDepth 100000 in
theorem isInf_bad (x : Nat) (hx : x < 18446744073709551616) (hn : (FloatKind.f64.format.order (x % 9223372036854775808) 9218868437227405311 == some .gt) = true) (w : World) : Calls Try.prog 33 #[.float .f64 x, .int .i64 0] w fun e w' => e = .returned (.bool true) ∧ w = w' := by
  have HX := Lib.hid hx
  clear hx
  go_enter Try.func33, Try.ntmps33
  go_wp2_with (go_at_call 47; refine (abs_any x HX.out _).mono ?_; rintro e w' ⟨rfl, rfl⟩)
  go_ret
  exact ⟨rfl, rfl⟩
set_option maxRecDepth 100000 in
theorem check_bad (p x : Nat) (hx : x < 18446744073709551616) (hb : Bad x) (w : World) (hi : Interp w p) : Calls Try.prog 63 #[.pointer (some ⟨p, 0, none⟩), .float .f64 x] w (Failed w) := by
  have HX := Lib.hid hx
  have HI := Lib.hid hi
  clear hx hi
  rcases hb with hb | ⟨hb, hg⟩
  · go_enter Try.func63, Try.ntmps63
    go_wp2_with (first | (go_at_call 32; refine (isNaN_any x _).mono ?_; rintro e w' ⟨rfl, rfl⟩))
    refine (err_any p _ _ HI.out).mono ?_
    rintro e w' ⟨⟨t, u, rfl⟩, hb⟩
    go_wp2_with fail
    go_ret2
    exact ⟨⟨_, _, rfl⟩, hb⟩
  · go_enter Try.func63, Try.ntmps63
    go_wp2_with (first | (go_at_call 32; refine (isNaN_any x _).mono ?_; rintro e w' ⟨rfl, rfl⟩) | (go_at_call 33; refine (isInf_bad x HX.out hg _).mono ?_; rintro e w' ⟨rfl, rfl⟩))
    refine (err_any p _ _ HI.out).mono ?_
    rintro e w' ⟨⟨t, u, rfl⟩, hb⟩
    go_wp2_with fail
    go_ret2
    exact ⟨⟨_, _, rfl⟩, hb⟩

theorem quiet_bad (s : Bool) (t : Nat) : Bad (FloatKind.f64.encode (.nan s (FloatKind.f64.format.quiet t))) := by
  have hq : (t ||| 2 ^ 51) % 4503599627370496 ≠ 0 := by
    intro h
    have h2 : ((t ||| 2 ^ 51) % 2 ^ 52).testBit 51 = true := by
      rw [Nat.testBit_mod_two_pow, Nat.testBit_or, Nat.testBit_two_pow_self]
      simp
    have e : (2 : Nat) ^ 52 = 4503599627370496 := rfl
    rw [e, h] at h2
    simp at h2
  have hl := Nat.mod_lt (t ||| 2 ^ 51) (show 0 < 4503599627370496 by omega)
  have he : FloatKind.f64.encode (.nan s (FloatKind.f64.format.quiet t)) = if s then 9223372036854775808 + (9218868437227405312 + (t ||| 2 ^ 51) % 4503599627370496) else 9218868437227405312 + (t ||| 2 ^ 51) % 4503599627370496 := rfl
  rw [he]
  generalize (t ||| 2 ^ 51) % 4503599627370496 = f at hq hl
  have hd : FloatKind.f64.decode (if s then 9223372036854775808 + (9218868437227405312 + f) else 9218868437227405312 + f) = .nan s f := by
    rw [decode_eq]
    have e1 : (if s then 9223372036854775808 + (9218868437227405312 + f) else 9218868437227405312 + f) % 9223372036854775808 = 9218868437227405312 + f := by cases s <;> simp <;> omega
    have e2 : ((if s then 9223372036854775808 + (9218868437227405312 + f) else 9218868437227405312 + f) / 9223372036854775808 % 2 == 1) = s := by
      cases s
      · have : (9218868437227405312 + f) / 9223372036854775808 = 0 := by omega
        simp [this]
      · have : (9223372036854775808 + (9218868437227405312 + f)) / 9223372036854775808 = 1 := by omega
        simp [this]
    rw [e1, e2, if_neg (by omega), if_neg (by omega), if_neg (by omega), show 9218868437227405312 + f - 9218868437227405312 = f by omega]
  exact bad_nan hd

/-! ### math.Ceil -/
theorem ceil_run {x : Nat} {s : Bool} {m : Nat} {i : Int} (h : FloatKind.f64.decode x = .number s m i) (w : World) : (callFunc 65 #[.float .f64 x]).run Try.prog w = .ok (.value (.float .f64 (cl x))) w := by
  refine (run_callFunc_extern (e := Extern.MathFloor.toIntegral "math.archCeil" .up) Try.func65 (by kernel_rfl) (by kernel_rfl) (by kernel_rfl) (by kernel_rfl) #[.float .f64 x] w).trans ?_
  rw [integral_eq h]
  rfl
/-- Of what is no number: what is none. -/
theorem ceil_bad {x : Nat} (h : ∀ s m i, FloatKind.f64.decode x ≠ .number s m i) (hx : x < 18446744073709551616) (w : World) : ∃ r, (∃ k, (callFunc 65 #[.float .f64 x]).run Try.prog w = .ok (.value (.float .f64 r)) (w.drewN k)) ∧ Bad r ∧ r < 18446744073709551616 := by
  have hrun := run_callFunc_extern (e := Extern.MathFloor.toIntegral "math.archCeil" .up) Try.func65 (by kernel_rfl) (by kernel_rfl) (by kernel_rfl) (by kernel_rfl) #[.float .f64 x] w
  rw [hrun]
  have e : ∃ (f1 : Bool → Nat → Sem Value) (f2 : Ieee.Datum → Sem Value), Extern.MathFloor.toIntegral "math.archCeil" .up #[.float .f64 x] = Extern.MathFloor.toIntegral.match_1 (fun _ => Sem Value) (FloatKind.f64.decode x) f1 f2 ∧ (∀ d, f2 d = pure (.float .f64 (FloatKind.f64.encode (d.integral .up)))) ∧
      ∀ s t, FloatKind.f64.format.quiet t = t ∧ f1 s t = pure (.float .f64 x) ∨ FloatKind.f64.format.quiet t ≠ t ∧ ∃ q : Question, q.forced = false ∧ f1 s t = (do let kept ← choose q; pure (.float .f64 (if kept == 1 then x else FloatKind.f64.encode (.nan s (FloatKind.f64.format.quiet t))))) := by
    refine ⟨_, _, rfl, fun _ => rfl, fun s t => ?_⟩
    by_cases hq : FloatKind.f64.format.quiet t = t
    · exact .inl ⟨hq, by simp only [if_pos hq]⟩
    · exact .inr ⟨hq, _, rfl, by simp only [if_neg hq]; rfl⟩
  obtain ⟨f1, f2, e1, e2, e3⟩ := e
  rw [e1]
  cases hd : FloatKind.f64.decode x with
  | number s m i => exact absurd hd (h s m i)
  | infinity s =>
    refine ⟨FloatKind.f64.encode (.infinity s), ⟨0, ?_⟩, bad_inf s, enc_lt _⟩
    show ((f2 (.infinity s)).run Try.prog w).andThen _ = _
    rw [e2]
    rfl
  | nan s t =>
    rcases e3 s t with ⟨_, e4⟩ | ⟨_, q, hq, e4⟩
    · refine ⟨x, ⟨0, ?_⟩, bad_nan hd, hx⟩
      show ((f1 s t).run Try.prog w).andThen _ = _
      rw [e4]
      rfl
    · have hr : (f1 s t).run Try.prog w = .ok (.float .f64 (if (q.cut (w.tape w.drawn q) == 1) then x else FloatKind.f64.encode (.nan s (FloatKind.f64.format.quiet t)))) w.drew := by
        rw [e4]
        simp only [Sem.run_bind, run_choose, hq, Bool.false_eq_true, if_false, Result.andThen, Sem.run_pure]
        rfl
      refine ⟨(if (q.cut (w.tape w.drawn q) == 1) then x else FloatKind.f64.encode (.nan s (FloatKind.f64.format.quiet t))), ⟨1, ?_⟩, ?_, ?_⟩
      · show ((f1 s t).run Try.prog w).andThen _ = _
        rw [hr]
        rfl
      · split
        · exact bad_nan hd
        · exact quiet_bad s t
      · split
        · exact hx
        · exact enc_lt _

set_option maxRecDepth 100000 in
theorem ceil_any {x : Nat} {s : Bool} {m : Nat} {i : Int} (h : FloatKind.f64.decode x = .number s m i) (w : World) : Calls Try.prog 46 #[.float .f64 x] w fun e w' => e = .returned (.float .f64 (cl x)) ∧ w' = w := by
  have ht := ceil_run h
  clear h
  go_enter Try.func46, Try.ntmps46
  go_wp2
  go_ret
  exact ⟨rfl, rfl⟩
def CeilBad (w : World) (e : Ending) (w' : World) : Prop := ∃ r, e = .returned (.float .f64 r) ∧ Bad r ∧ r < 18446744073709551616 ∧ ∃ k, w' = w.drewN k
set_option maxRecDepth 100000 in
theorem ceil_none {x : Nat} (h : ∀ s m i, FloatKind.f64.decode x ≠ .number s m i) (hx : x < 18446744073709551616) (w : World) : Calls Try.prog 46 #[.float .f64 x] w (CeilBad w) := by
  obtain ⟨r, ⟨k, hr⟩, hb, hl⟩ := ceil_bad h hx w
  have HB := Lib.hid hb
  have HL := Lib.hid hl
  clear h hx hb hl
  go_enter Try.func46, Try.ntmps46
  go_wp2
  go_ret
  exact ⟨_, rfl, HB.out, HL.out, _, rfl⟩

/-! ### the closure -/
theorem interp_held {w : World} {ip px pf x : Nat} (h : w.cell? ⟨px, 0, none⟩ = some (.float .f64 x) ∧ w.cell? ⟨pf, 0, none⟩ = some (.func (.func 46) #[] #[]) ∧ w.cell? ⟨ip, 5, none⟩ = some (.pointer none) ∧ w.cell? ⟨ip, 7, none⟩ = some (.slice none 0 0)) : Interp w ip :=
  ⟨World.block_lt_of_cell? _ _ h.2.2.1, h.2.2.1, h.2.2.2⟩
set_option maxHeartbeats 2000000 in
set_option maxRecDepth 100000 in
theorem lift_num (ip px pf x : Nat) (w : World) {s : Bool} {m : Nat} {i : Int} (h : FloatKind.f64.decode x = .number s m i) (hf : Fin (cl x)) (hcx : w.cell? ⟨px, 0, none⟩ = some (.float .f64 x)) (hcf : w.cell? ⟨pf, 0, none⟩ = some (.func (.func 46) #[] #[])) :
    Calls Try.prog 64 #[.pointer (some ⟨ip, 0, none⟩), .iface 92 (.pointer (some ⟨px, 0, none⟩)), .pointer (some ⟨pf, 0, none⟩)] w (Gave (cl x) w) := by
  have HH := Lib.hid h
  have HF := Lib.hid hf
  clear h hf
  go_enter Try.func64, Try.ntmps64
  go_wp2_with (first | (go_at_call 60; refine (getNum_any _ _ _).mono ?_; rintro e w' ⟨rfl, rfl⟩))
  go_region_held3 (fun w' => w'.cell? ⟨px, 0, none⟩ = some (.float .f64 x) ∧ w'.cell? ⟨pf, 0, none⟩ = some (.func (.func 46) #[] #[]))
    (first | exact ⟨by assumption, by assumption⟩ | exact ⟨cell_keepz hb (by assumption), cell_keepz hb (by assumption)⟩)
    (first | (go_at_call 46; refine (ceil_any HH.out _).mono ?_; rintro e w' ⟨rfl, rfl⟩) | (go_at_call 63; refine (check_any _ _ (enc_lt _) HF.out _).mono ?_; rintro e w' ⟨v, rfl, hn, hb⟩))
  all_goals
    go_wp2
    go_ret2
    exact ⟨v, rfl, hn, hb.os, hb.tape, hb.output, hb.size, hb.block⟩
set_option maxHeartbeats 2000000 in
set_option maxRecDepth 100000 in
theorem lift_none (ip px pf x : Nat) (w : World) (h : ∀ s m i, FloatKind.f64.decode x ≠ .number s m i) (hx : x < 18446744073709551616) (hi : Interp w ip) (hcx : w.cell? ⟨px, 0, none⟩ = some (.float .f64 x)) (hcf : w.cell? ⟨pf, 0, none⟩ = some (.func (.func 46) #[] #[])) :
    Calls Try.prog 64 #[.pointer (some ⟨ip, 0, none⟩), .iface 92 (.pointer (some ⟨px, 0, none⟩)), .pointer (some ⟨pf, 0, none⟩)] w (Failed w) := by
  have HH := Lib.hid h
  have HX := Lib.hid hx
  obtain ⟨_, hi5, hi7⟩ := hi
  clear h hx
  go_enter Try.func64, Try.ntmps64
  go_wp2_with (first | (go_at_call 60; refine (getNum_any _ _ _).mono ?_; rintro e w' ⟨rfl, rfl⟩))
  go_region_held3 (fun w' => w'.cell? ⟨px, 0, none⟩ = some (.float .f64 x) ∧ w'.cell? ⟨pf, 0, none⟩ = some (.func (.func 46) #[] #[]) ∧ w'.cell? ⟨ip, 5, none⟩ = some (.pointer none) ∧ w'.cell? ⟨ip, 7, none⟩ = some (.slice none 0 0))
    (first | exact ⟨by assumption, by assumption, by assumption, by assumption⟩ | exact ⟨cell_keepz hb (by assumption), cell_keepz hb (by assumption), cell_keepz hb (by assumption), cell_keepz hb (by assumption)⟩ | (simp [*]; done))
    (first | (go_at_call 46; refine (ceil_none HH.out HX.out _).mono ?_; rintro e w' ⟨r, rfl, hbad, hr, k, rfl⟩) | (go_at_call 63; refine (check_bad ip _ hr hbad _ (interp_held (px := px) (pf := pf) (x := x) (by first | assumption | (simp [*]; done)))).mono ?_; rintro e w' ⟨⟨t, u, rfl⟩, hb⟩))
  all_goals
    go_wp2
    go_ret2
    exact ⟨⟨_, _, rfl⟩, hb.os, hb.tape, hb.output, hb.size, hb.block⟩
end Go.Proofs.Ytnnmdceppjmooaa
