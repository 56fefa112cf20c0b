/-
  TextCompare and TextEqual go by the letters' numbers. Conditions: texts that are read strictly.
-/
import Derived.Test.YtohhcmcelofgeaaText
import Derived.WalkKit
import Derived.WalkSpells
import Derived.Lib.Hide
import Derived.Outline
namespace Go.Proofs.Ytohhcmcelofgeaa
open Go.RowKit
set_option linter.unusedVariables false

theorem compare_any_in (a b : ByteArray) (x y : List Nat) (ha : Read a a.size x) (hb : Read b b.size y) (h1 : a.size ≤ 10000) (h2 : b.size ≤ 10000) (w : World) :
    Calls Try.prog 13 #[.string a, .string b] w fun e w' => e = .returned (.int .i64 (cmpL x y)) ∧ Below w.heap.size w w' := by
  have hx := ha.le.2
  have hy := hb.le.2
  have HA := Lib.hid ha
  have HB := Lib.hid hb
  clear ha hb
  go_enter Try.func13, Try.ntmps13
  go_wp2_with fail
  refine (made a x HA.out h1 _).mono ?_
  rintro e w1 ⟨v, rfl, hf1, hb1⟩
  have HF1 := Lib.hid hf1
  clear hf1
  go_wp2_with fail
  refine (made b y HB.out h2 _).mono ?_
  rintro e w2 ⟨u, rfl, hf2, hb2⟩
  have HF2 := Lib.hid hf2
  have HF3 := Lib.hid (HF1.out.below hb2)
  clear hf2 HF1
  have hb3 := Below.next hb1 hb2
  clear hb1 hb2
  go_wp2_with fail
  refine (cmp_any v u x y _ (by omega) (by omega) HF3.out HF2.out).mono ?_
  rintro e w3 ⟨rfl, n, rfl⟩
  go_wp2_with fail
  go_ret
  exact ⟨rfl, hb3.os, hb3.tape, hb3.output, hb3.size, hb3.block⟩
theorem compare_any (a b : ByteArray) (x y : List Nat) (ha : Read a a.size x) (hb : Read b b.size y) (h1 : a.size ≤ 10000) (h2 : b.size ≤ 10000) (w : World) :
    Calls Try.prog 6 #[.string a, .string b] w fun e w' => e = .returned (.int .i64 (cmpL x y)) ∧ Below w.heap.size w w' := by
  have HA := Lib.hid ha
  have HB := Lib.hid hb
  clear ha hb
  go_enter Try.func6, Try.ntmps6
  go_wp2_with fail
  refine (compare_any_in a b x y HA.out HB.out h1 h2 _).mono ?_
  rintro e w1 ⟨rfl, hb1⟩
  go_wp2_with fail
  go_ret
  exact ⟨rfl, hb1⟩

theorem equal_any_in (a b : ByteArray) (x y : List Nat) (ha : Read a a.size x) (hb : Read b b.size y) (h1 : a.size ≤ 10000) (h2 : b.size ≤ 10000) (w : World) :
    Calls Try.prog 14 #[.string a, .string b] w fun e w' => e = .returned (.bool (decide (x = y))) ∧ Below w.heap.size w w' := by
  have hx := ha.le.2
  have hy := hb.le.2
  have HA := Lib.hid ha
  have HB := Lib.hid hb
  clear ha hb
  go_enter Try.func14, Try.ntmps14
  go_wp2_with fail
  refine (made a x HA.out h1 _).mono ?_
  rintro e w1 ⟨v, rfl, hf1, hb1⟩
  have HF1 := Lib.hid hf1
  clear hf1
  go_wp2_with fail
  refine (made b y HB.out h2 _).mono ?_
  rintro e w2 ⟨u, rfl, hf2, hb2⟩
  have HF2 := Lib.hid hf2
  have HF3 := Lib.hid (HF1.out.below hb2)
  clear hf2 HF1
  have hb3 := Below.next hb1 hb2
  clear hb1 hb2
  go_wp2_with fail
  refine (eq_any v u x y _ (by omega) (by omega) HF3.out HF2.out).mono ?_
  rintro e w3 ⟨rfl, n, rfl⟩
  go_wp2_with fail
  go_ret
  exact ⟨rfl, hb3.os, hb3.tape, hb3.output, hb3.size, hb3.block⟩
theorem equal_any (a b : ByteArray) (x y : List Nat) (ha : Read a a.size x) (hb : Read b b.size y) (h1 : a.size ≤ 10000) (h2 : b.size ≤ 10000) (w : World) :
    Calls Try.prog 8 #[.string a, .string b] w fun e w' => e = .returned (.bool (decide (x = y))) ∧ Below w.heap.size w w' := by
  have HA := Lib.hid ha
  have HB := Lib.hid hb
  clear ha hb
  go_enter Try.func8, Try.ntmps8
  go_wp2_with fail
  refine (equal_any_in a b x y HA.out HB.out h1 h2 _).mono ?_
  rintro e w1 ⟨rfl, hb1⟩
  go_wp2_with fail
  go_ret
  exact ⟨rfl, hb1⟩
end Go.Proofs.Ytohhcmcelofgeaa
