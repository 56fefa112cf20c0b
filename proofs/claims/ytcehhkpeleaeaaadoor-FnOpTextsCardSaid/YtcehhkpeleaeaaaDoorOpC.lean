/-
  The statement FnOpTexts. Conditions: the variable of the operators' texts holds them, as the program's text lays it.
-/
import Derived.Test.YtcehhkpeleaeaaaDoorOpB
import Derived.WalkKit
import Derived.WalkSpells
import Derived.Lib.Hide
import Derived.Outline
namespace Go.Proofs.YtcehhkpeleaeaaaDoor
open Go.RowKit

theorem place_sg (k : Nat) (hk : k < 20) : place (sg k) = k := place_yes hk (by simp)
theorem sg_ne (k : Nat) (h1 : 1 ≤ k) (hk : k < 20) : ¬ (sg k).toList = [] := by
  rw [sg_list]
  have h : ∀ k, k < 20 → 1 ≤ k → ¬ signL.getD k [] = [] := by decide
  exact h k hk h1
theorem place_nil : place ⟨#[]⟩ = 0 := place_sg 0 (by omega)

theorem opText_one (w : World) (hl : Laid w) : Calls Tryd.prog 5 #[.int .i64 1] w fun e w' => e = .returned (.string ⟨#[42]⟩) ∧ Below w.heap.size w w' := opText_yes 1 (by omega) (by omega) w hl
theorem Below.next {a b c : World} (h : Below a.heap.size a b) (k : Below b.heap.size b c) : Below a.heap.size a c := h.trans (k.mono h.size)

theorem walk_inside (k : Nat) (h1 : 1 ≤ k) (hk : k < 20) (s : ByteArray) (hs : s.size ≤ 2147483647) (w : World) (hl : Laid w) :
    Calls Tryd.prog 3 #[.int .i64 k, .string s] w fun e w' => e = .returned (.bool true) ∧ Below w.heap.size w w' := by
  have HL := Lib.hid hl
  have HP := Lib.hid (place_sg k hk)
  have HP1 : 1 ≤ place (sg k) := by rw [HP.out]; exact h1
  have hne := sg_ne k h1 hk
  have hne' : (sg k).toList.isEmpty = false := by cases h : (sg k).toList <;> simp_all
  clear hl
  by_cases hp : place s = 0
  · have Hp := Lib.hid hp
    clear hp
    go_enter Tryd.func3, Tryd.ntmps3
    go_wp2_with fail
    refine (signs_any k hk _).mono ?_
    rintro e w1 ⟨rfl, hb1⟩
    go_wp2_with fail
    refine (opText_yes k h1 hk _ (HL.out.below hb1)).mono ?_
    rintro e w2 ⟨rfl, hb2⟩
    have hb2 := Below.next hb1 hb2
    clear hb1
    go_wp2_with fail
    refine (opText_one _ (HL.out.below hb2)).mono ?_
    rintro e w3 ⟨rfl, hb3⟩
    have hb3 := Below.next hb2 hb3
    clear hb2
    go_wp2_with fail
    refine (opOf_yes _ _ HP1).mono ?_
    rintro e w4 ⟨rfl, hb4⟩
    rw [HP.out]
    have hb4 := Below.next hb3 hb4
    clear hb3
    go_wp2_with fail
    refine (binds_any _ _).mono ?_
    rintro e w5 ⟨l, rfl, hb5⟩
    have hb5 := Below.next hb4 hb5
    clear hb4
    rw [Hp.out]
    go_wp2_with fail
    refine (opOf_no _ _ Hp.out).mono ?_
    rintro e w6 ⟨rfl, rfl⟩
    go_wp2_with fail
    go_ret
    exact ⟨rfl, hb5⟩
  · have hp1 : 1 ≤ place s := by omega
    clear hp
    go_enter Tryd.func3, Tryd.ntmps3
    go_wp2_with fail
    refine (signs_any k hk _).mono ?_
    rintro e w1 ⟨rfl, hb1⟩
    go_wp2_with fail
    refine (opText_yes k h1 hk _ (HL.out.below hb1)).mono ?_
    rintro e w2 ⟨rfl, hb2⟩
    have hb2 := Below.next hb1 hb2
    clear hb1
    go_wp2_with fail
    refine (opText_one _ (HL.out.below hb2)).mono ?_
    rintro e w3 ⟨rfl, hb3⟩
    have hb3 := Below.next hb2 hb3
    clear hb2
    go_wp2_with fail
    refine (opOf_yes _ _ HP1).mono ?_
    rintro e w4 ⟨rfl, hb4⟩
    rw [HP.out]
    have hb4 := Below.next hb3 hb4
    clear hb3
    go_wp2_with fail
    refine (binds_any _ _).mono ?_
    rintro e w5 ⟨l, rfl, hb5⟩
    have hb5 := Below.next hb4 hb5
    clear hb4
    go_wp2_with fail
    refine (opOf_yes _ _ hp1).mono ?_
    rintro e w6 ⟨rfl, hb6⟩
    have hb6 := Below.next hb5 hb6
    clear hb5
    go_wp2_with fail
    go_ret
    exact ⟨rfl, hb6⟩

theorem walk_out (k : Int) (hk : k < 1 ∨ 20 ≤ k) (s : ByteArray) (hs : s.size ≤ 2147483647) (w : World) (hl : Laid w) :
    Calls Tryd.prog 3 #[.int .i64 k, .string s] w fun e w' => e = .returned (.bool true) ∧ Below w.heap.size w w' := by
  have HL := Lib.hid hl
  have HK := Lib.hid hk
  clear hl
  by_cases hp : place s = 0
  all_goals rcases hk with hk | hk
  · have Hp := Lib.hid hp
    clear hp
    go_enter Tryd.func3, Tryd.ntmps3
    go_wp2_with fail
    refine (opText_no k HK.out _).mono ?_
    rintro e w2 ⟨rfl, hb2⟩
    go_wp2_with fail
    refine (opText_one _ (HL.out.below hb2)).mono ?_
    rintro e w3 ⟨rfl, hb3⟩
    have hb3 := Below.next hb2 hb3
    clear hb2
    go_wp2_with fail
    refine (opOf_no _ _ place_nil).mono ?_
    rintro e w4 ⟨rfl, rfl⟩
    go_wp2_with fail
    refine (binds_any _ _).mono ?_
    rintro e w5 ⟨l, rfl, hb5⟩
    have hb5 := Below.next hb3 hb5
    clear hb3
    rw [Hp.out]
    go_wp2_with fail
    refine (opOf_no _ _ Hp.out).mono ?_
    rintro e w6 ⟨rfl, rfl⟩
    go_wp2_with fail
    go_ret
    exact ⟨rfl, hb5⟩
  · have Hp := Lib.hid hp
    clear hp
    go_enter Tryd.func3, Tryd.ntmps3
    go_wp2_with fail
    refine (opText_no k HK.out _).mono ?_
    rintro e w2 ⟨rfl, hb2⟩
    go_wp2_with fail
    refine (opText_one _ (HL.out.below hb2)).mono ?_
    rintro e w3 ⟨rfl, hb3⟩
    have hb3 := Below.next hb2 hb3
    clear hb2
    go_wp2_with fail
    refine (opOf_no _ _ place_nil).mono ?_
    rintro e w4 ⟨rfl, rfl⟩
    go_wp2_with fail
    refine (binds_any _ _).mono ?_
    rintro e w5 ⟨l, rfl, hb5⟩
    have hb5 := Below.next hb3 hb5
    clear hb3
    rw [Hp.out]
    go_wp2_with fail
    refine (opOf_no _ _ Hp.out).mono ?_
    rintro e w6 ⟨rfl, rfl⟩
    go_wp2_with fail
    go_ret
    exact ⟨rfl, hb5⟩
  · have hp1 : 1 ≤ place s := by omega
    clear hp
    go_enter Tryd.func3, Tryd.ntmps3
    go_wp2_with fail
    refine (opText_no k HK.out _).mono ?_
    rintro e w2 ⟨rfl, hb2⟩
    go_wp2_with fail
    refine (opText_one _ (HL.out.below hb2)).mono ?_
    rintro e w3 ⟨rfl, hb3⟩
    have hb3 := Below.next hb2 hb3
    clear hb2
    go_wp2_with fail
    refine (opOf_no _ _ place_nil).mono ?_
    rintro e w4 ⟨rfl, rfl⟩
    go_wp2_with fail
    refine (binds_any _ _).mono ?_
    rintro e w5 ⟨l, rfl, hb5⟩
    have hb5 := Below.next hb3 hb5
    clear hb3
    go_wp2_with fail
    refine (opOf_yes _ _ hp1).mono ?_
    rintro e w6 ⟨rfl, hb6⟩
    have hb6 := Below.next hb5 hb6
    clear hb5
    go_wp2_with fail
    go_ret
    exact ⟨rfl, hb6⟩
  · have hp1 : 1 ≤ place s := by omega
    clear hp
    go_enter Tryd.func3, Tryd.ntmps3
    go_wp2_with fail
    refine (opText_no k HK.out _).mono ?_
    rintro e w2 ⟨rfl, hb2⟩
    go_wp2_with fail
    refine (opText_one _ (HL.out.below hb2)).mono ?_
    rintro e w3 ⟨rfl, hb3⟩
    have hb3 := Below.next hb2 hb3
    clear hb2
    go_wp2_with fail
    refine (opOf_no _ _ place_nil).mono ?_
    rintro e w4 ⟨rfl, rfl⟩
    go_wp2_with fail
    refine (binds_any _ _).mono ?_
    rintro e w5 ⟨l, rfl, hb5⟩
    have hb5 := Below.next hb3 hb5
    clear hb3
    go_wp2_with fail
    refine (opOf_yes _ _ hp1).mono ?_
    rintro e w6 ⟨rfl, hb6⟩
    have hb6 := Below.next hb5 hb6
    clear hb5
    go_wp2_with fail
    go_ret
    exact ⟨rfl, hb6⟩
end Go.Proofs.YtcehhkpeleaeaaaDoor
