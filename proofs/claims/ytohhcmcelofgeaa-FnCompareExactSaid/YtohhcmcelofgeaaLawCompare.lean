/-
  The statement FnCompareExact: strings are ordered by their letters' numbers, and equal just if these are the same. Conditions: none.
-/
import Derived.Test.YtohhcmcelofgeaaCompare
import Derived.WalkKit
import Derived.ProofKit
import Derived.OpenShut
import Derived.ShutString
import Derived.ChangeOld
import Derived.Below
namespace Go.Proofs.Ytohhcmcelofgeaa
open Go.ChangeShapes Go.WideShapes Go.ChangeAt Go.RowKit
open Go.ChangeMaps (open_string shut_string)
set_option linter.unusedVariables false

theorem own_below {B : Nat} {e : TypeId} {k : Nat} {v : Value} {n : Nat} {xs : List Value} {w w' : World} (h : w.ownsRow B e k v n xs) (hb : Below w.heap.size w w') : w'.ownsRow B e k v n xs := by
  obtain ⟨hl, h | ⟨g, cap, cur, e1, e2, hg, e3⟩⟩ := h
  · exact ⟨hl, .inl h⟩
  · exact ⟨hl, .inr ⟨g, cap, cur, e1, e2, (hb.block g (Array.getElem?_eq_some_iff.1 hg).1).trans hg, e3⟩⟩
theorem holds_below {B : Nat} {w w' : World} {v : Value} {l : List Nat} (h : Holds B w v l) (hb : Below w.heap.size w w') : Holds B w' v l := by
  obtain ⟨g, cap, e, h⟩ := h
  exact ⟨g, cap, e, own_below h hb⟩
theorem below_drewN {B : Nat} {w w' : World} {n : Nat} (h : Below (w.drewN n).heap.size (w.drewN n) w') (hB : B ≤ w.heap.size) : Below B w w' :=
  ⟨h.os, h.tape, h.output, h.size, fun k hk => h.block k (Nat.lt_of_lt_of_le hk hB)⟩

theorem Told.size {s : ByteArray} (h : Told s) : s.size ≤ 2000 := h.1

set_option maxHeartbeats 1000000 in
theorem walk_both (a b : ByteArray) (ha : Told a) (hb : Told b) (w : World) : Calls Try.prog 3 #[.string a, .string b] w fun e w' => e = .returned (.bool true) ∧ Below w.heap.size w w' := by
  have h1 := ha.1
  have h2 := hb.1
  have HA := Lib.hid ha
  have HB := Lib.hid hb
  clear ha hb
  by_cases hab : a = b
  · subst hab
    go_enter Try.func3, Try.ntmps3
    go_wp2_with fail
    refine (units9_yes a HA.out _).mono ?_
    rintro e w1 ⟨x, v, hx, rfl, hv, hb1⟩
    have HX := Lib.hid hx
    have HV := Lib.hid hv
    clear hx hv
    go_wp2_with fail
    refine (units9_yes a HA.out _).mono ?_
    rintro e w2 ⟨y, u, hy, rfl, hu, hb2⟩
    have e := HX.out.unique hy
    subst e
    have HU := Lib.hid hu
    clear hu hy
    have hb3 := Below.next hb1 hb2
    have HV2 : Hid (Holds w.heap.size w2 v x) := Lib.hid (holds_below HV.out hb2)
    clear hb1 hb2 HV
    go_wp2_with fail
    refine (compare_any a a x x HX.out HX.out (by omega) (by omega) _).mono ?_
    rintro e w3 ⟨rfl, hb4⟩
    have HV3 : Hid (Holds w.heap.size w3 v x) := Lib.hid (holds_below HV2.out hb4)
    have HU3 := Lib.hid (holds_below HU.out hb4)
    clear HV2 HU
    have hb5 := Below.next hb3 hb4
    clear hb3 hb4
    have hl := HX.out.le.2
    go_wp2_with fail
    refine (units_cmp _ _ v u x x _ (by omega) (by omega) HV3.out HU3.out).mono ?_
    rintro e w4 ⟨rfl, n, rfl⟩
    go_wp2_with fail
    refine (equal_any a a x x HX.out HX.out (by omega) (by omega) _).mono ?_
    rintro e w5 ⟨rfl, hb6⟩
    have hb7 : Below w.heap.size w w5 := hb5.trans (below_drewN hb6 hb5.size)
    go_wp2_with fail
    go_ret
    exact ⟨rfl, hb7⟩
  · have hab' : (a.toList == b.toList) = false := by
      rw [beq_eq_false_iff_ne]
      intro e
      rw [Lib.toList_data, Lib.toList_data] at e
      apply hab
      cases a; cases b
      congr 1
      exact Array.ext' e
    have Hab := Lib.hid hab
    clear hab
    go_enter Try.func3, Try.ntmps3
    go_wp2_with fail
    refine (units9_yes a HA.out _).mono ?_
    rintro e w1 ⟨x, v, hx, rfl, hv, hb1⟩
    have HX := Lib.hid hx
    have HV := Lib.hid hv
    clear hx hv
    go_wp2_with fail
    refine (units9_yes b HB.out _).mono ?_
    rintro e w2 ⟨y, u, hy, rfl, hu, hb2⟩
    have HY := Lib.hid hy
    have hxy : decide (x = y) = false := decide_eq_false (fun e => Hab.out (by have := HX.out; rw [e] at this; exact this.inj HY.out))
    have HU := Lib.hid hu
    clear hu hy
    have hb3 := Below.next hb1 hb2
    have HV2 : Hid (Holds w.heap.size w2 v x) := Lib.hid (holds_below HV.out hb2)
    clear hb1 hb2 HV
    go_wp2_with fail
    refine (compare_any a b x y HX.out HY.out (by omega) (by omega) _).mono ?_
    rintro e w3 ⟨rfl, hb4⟩
    have HV3 : Hid (Holds w.heap.size w3 v x) := Lib.hid (holds_below HV2.out hb4)
    have HU3 := Lib.hid (holds_below HU.out hb4)
    clear HV2 HU
    have hb5 := Below.next hb3 hb4
    clear hb3 hb4
    have hl := HX.out.le.2
    have hl' := HY.out.le.2
    go_wp2_with fail
    refine (units_cmp _ _ v u x y _ (by omega) (by omega) HV3.out HU3.out).mono ?_
    rintro e w4 ⟨rfl, n, rfl⟩
    go_wp2_with fail
    refine (equal_any a b x y HX.out HY.out (by omega) (by omega) _).mono ?_
    rintro e w5 ⟨rfl, hb6⟩
    have hb7 : Below w.heap.size w w5 := hb5.trans (below_drewN hb6 hb5.size)
    go_wp2_with fail
    go_ret
    exact ⟨rfl, hb7⟩

theorem walk (a : ByteArray) (ha : a.size ≤ maxLen) (b : ByteArray) (hb : b.size ≤ maxLen) (w : World) : Calls Try.prog 3 #[.string a, .string b] w fun e w' => e = .returned (.bool true) ∧ Below w.heap.size w w' := by
  have f1 : a.size ≤ 9223372036854775807 := by unfold maxLen at ha; omega
  have f2 : b.size ≤ 9223372036854775807 := by unfold maxLen at hb; omega
  by_cases l1 : 2147483647 < a.size
  · clear ha hb
    go_enter Try.func3, Try.ntmps3
    go_wp2
    all_goals
      go_ret
      exact ⟨rfl, Below.refl _ _⟩
  by_cases l2 : 2147483647 < b.size
  · clear ha hb f1 f2
    go_enter Try.func3, Try.ntmps3
    go_wp2
    all_goals
      go_ret
      exact ⟨rfl, Below.refl _ _⟩
  clear f1 f2
  have HA := Lib.hid ha
  have HB := Lib.hid hb
  clear ha hb
  by_cases ta : Told a
  · by_cases tb : Told b
    · exact walk_both a b ta tb w
    · have TA := Lib.hid ta
      have TB := Lib.hid tb
      clear ta tb
      go_enter Try.func3, Try.ntmps3
      go_wp2_with fail
      refine (units9_yes a TA.out _).mono ?_
      rintro e w1 ⟨x, v, hx, rfl, hv, hb1⟩
      clear hx hv
      go_wp2_with fail
      refine (units9_no b HB.out TB.out _).mono ?_
      rintro e w2 ⟨rfl, hb2⟩
      have hb3 := Below.next hb1 hb2
      go_wp2_with fail
      go_ret
      exact ⟨rfl, hb3⟩
  · have TA := Lib.hid ta
    clear ta
    go_enter Try.func3, Try.ntmps3
    go_wp2_with fail
    refine (units9_no a HA.out TA.out _).mono ?_
    rintro e w1 ⟨rfl, hb1⟩
    go_wp2_with fail
    by_cases tb : Told b
    · have TB := Lib.hid tb
      clear tb
      refine (units9_yes b TB.out _).mono ?_
      rintro e w2 ⟨x, v, hx, rfl, hv, hb2⟩
      clear hx hv
      have hb3 := Below.next hb1 hb2
      go_wp2_with fail
      go_ret
      exact ⟨rfl, hb3⟩
    · have TB := Lib.hid tb
      clear tb
      refine (units9_no b HB.out TB.out _).mono ?_
      rintro e w2 ⟨rfl, hb2⟩
      have hb3 := Below.next hb1 hb2
      go_wp2_with fail
      go_ret
      exact ⟨rfl, hb3⟩

theorem own : ownKnob Try.prog.godebug = none := by kernel_rfl
theorem laidOut : laidOutB Try.prog = true := by kernel_rfl

set_option maxRecDepth 100000 in
theorem lifted (os : Os) (started : os.Started) (H : Type) (enc : TypeId × Value → H) :
    ReturnsInHanded {} Try.checked os 3 .any (Rows.fnCompareExactSpec.pre6 enc Try.prog Try.f3 Rows.fnCompareExactRow.domain false) (Rows.fnCompareExactSpec.post enc Try.prog Try.f3 false true false false) := by
  refine returnsInHanded_of_change (C := Try.checked) own started (by kernel_rfl) Try.func3
    (ChangeSpec.witness6 (enc := enc) (C := Try.checked) false ⟨#[], #[.string ⟨#[]⟩, .string ⟨#[]⟩], []⟩ 8 (by kernel_rfl) (by kernel_rfl) (by kernel_rfl) (by kernel_rfl)) ?_
  intro W base args ds gs before hval0 hW hcnd _
  have hval : ∀ (j : Nat) t v, Try.f3.params[j]? = some t → args[j]? = some v → Value.okWide Try.prog W .any base t v := hval0
  have hW' := hW
  obtain ⟨p, q, hA0, hV, rfl, hfz, hnd⟩ := hW
  have hA : DataW.TrodAll enc Try.prog W 0 (fun _ => true) true Try.f3.params.toList args.toList ds p := hA0
  rw [Try.params3] at hA hval
  obtain ⟨v0, vs0, d0, ds0, p0, q0, hargs, rfl, rfl, h0, r0⟩ := trodAll_cons hA
  obtain ⟨v1, vs1, d1, ds1, p1, q1, rfl, rfl, rfl, h1, r1⟩ := trodAll_cons r0
  obtain ⟨rfl, rfl, rfl⟩ := trodAll_nil r1
  obtain rfl : args = #[v0, v1] := by cases args; simp_all
  obtain ⟨rfl, rfl⟩ := trodVars_none hV
  have k0 := h0
  have lt0 : ∀ x ∈ p0, x.block < W.heap.size := by obtain ⟨m, hm⟩ := k0; exact DataW.trod_lt m _ _ _ hm
  have k1 := h1
  have lt1 : ∀ x ∈ p1, x.block < W.heap.size := by obtain ⟨m, hm⟩ := k1; exact DataW.trod_lt m _ _ _ hm
  obtain ⟨a0, rfl, rfl, rfl, w0⟩ := open_string Try.underlying9 (hval 0 9 v0 rfl rfl) h0
  obtain ⟨a1, rfl, rfl, rfl, w1⟩ := open_string Try.underlying9 (hval 1 9 v1 rfl rfl) h1
  clear hA0 hval0
  refine (walk a0 w0 a1 w1 W).mono fun e W' ⟨he, bel⟩ => ?_
  subst he
  exact ⟨_, rfl, _, _, _, [], _, [], hW', trodAll_mk1 (shut_bool Try.underlying4 _), (trodAll_cons_mk (Below.trod laidOut (by kernel_rfl) (of_decide_eq_true (by kernel_rfl)) k0 bel lt0) (trodAll_cons_mk (Below.trod laidOut (by kernel_rfl) (of_decide_eq_true (by kernel_rfl)) k1 bel lt1) trodAll_mk0)), rfl, bel.frame _, fun h => by cases h⟩

theorem over : Rows.fnCompareExactRow.holds Try.pinned (OpenSpec.ofChange Rows.fnCompareExactSpec) :=
  OpenClaim.holds_of_wide 3 Try.f3 rfl rfl rfl rfl rfl rfl rfl ⟨rfl, rfl, rfl, rfl, rfl⟩ rfl rfl rfl rfl rfl (by kernel_rfl) Try.func3 (by kernel_rfl)
    (of_decide_eq_true (by kernel_rfl)) (by unfold Func.isWrapper; first | (rw [if_pos (by decide +kernel)]; kernel_rfl) | (rw [if_neg (by decide +kernel)]; exact ⟨rfl, rfl⟩))
    (fun os started H enc _ => lifted os started H enc)

theorem proved : Rows.FnCompareExactSaid := over
#print axioms proved
end Go.Proofs.Ytohhcmcelofgeaa
