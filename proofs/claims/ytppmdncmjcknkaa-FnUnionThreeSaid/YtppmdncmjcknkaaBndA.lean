/-
  What the law takes for a call: names of at most 100 bytes, all different. Conditions: none.
-/
import Derived.Test.YtppmdncmjcknkaaMem
import Derived.WalkKit
import Derived.WalkSpells
import Derived.WalkLawsBesides
import Derived.Lib.Hide
import Derived.Outline
import Derived.Deep.QuietTactic
import Derived.BigQuiet
import Derived.Lib.Strings
namespace Go.Proofs.Ytppmdncmjcknkaa
open Go.RowKit
set_option linter.unusedVariables false
set_option linter.unusedSimpArgs false

theorem ret_bool {a b : Bool} (h : a = b) : Ending.returned (.bool a) = .returned (.bool b) := by rw [h]
def SomeBool (w : World) (e : Ending) (w' : World) : Prop := ∃ b, e = .returned (.bool b) ∧ w = w'
/-- A truth with what it tells. -/
def Tells (w : World) (p : Bool → Prop) (e : Ending) (w' : World) : Prop := ∃ b, e = .returned (.bool b) ∧ p b ∧ Below w.heap.size w w'

theorem fits5 (A : Option Addr) (c : Nat) (ss : List ByteArray) (w : World) (h : Reads w w.heap.size 1 A ss.length (strs ss)) :
    Calls Try.prog 5 #[.slice A ss.length c] w (SomeBool w) := by
  by_cases hm : ss.length ≤ 2147483647
  · have hd : decide ((2147483647 : Int) < (ss.length : Nat)) = false := decide_eq_false (by omega)
    have HR := Lib.hid h
    clear h
    go_enter Try.func5, Try.ntmps5
    go_wp2
    go_loopw [10] (fun i wr => ∃ k : Nat, k ≤ ss.length ∧ i = .int .i64 k ∧ wr = w) (fun i _ => ss.length - (intOf i).toNat)
    case atStart => exact ⟨0, by omega, rfl, rfl⟩
    case round =>
      obtain ⟨k, hk, rfl, rfl⟩ := hrel
      by_cases hlt : k < ss.length
      · obtain ⟨ad, s, rfl, hb, hs, hc⟩ := HR.out.line hlt
        have Hs := Lib.hid hs
        clear hs
        by_cases hsz : s.size ≤ 2147483647
        · have hd2 : decide ((2147483647 : Int) < (s.size : Nat)) = false := decide_eq_false (by omega)
          go_wp2
          go_roundw
          case rel => exact ⟨k + 1, by omega, by go_num, by first | rfl | trivial⟩
          case measure => simp [intOf]; omega
        · have hd2 : decide ((2147483647 : Int) < (s.size : Nat)) = true := decide_eq_true (by omega)
          go_wp2
          go_ret
          exact ⟨_, rfl, by first | rfl | trivial⟩
      · go_wp2
        go_ret
        exact ⟨_, rfl, by first | rfl | trivial⟩
  · have hd : decide ((2147483647 : Int) < (ss.length : Nat)) = true := decide_eq_true (by omega)
    go_enter Try.func5, Try.ntmps5
    go_wp2
    go_ret
    exact ⟨_, rfl, by first | rfl | trivial⟩

theorem letter_some (c : Int) (w : World) : Calls Try.prog 33 #[.int .u8 c] w (SomeBool w) := by
  go_enter Try.func33, Try.ntmps33
  go_wp2
  all_goals
    go_ret
    exact ⟨_, rfl, rfl⟩
theorem digit_some (c : Int) (w : World) : Calls Try.prog 34 #[.int .u8 c] w (SomeBool w) := by
  go_enter Try.func34, Try.ntmps34
  go_wp2
  all_goals
    go_ret
    exact ⟨_, rfl, rfl⟩

theorem empty_of {s : ByteArray} (h : s.size = 0) : s.toList.isEmpty = true ∧ s.toList = [] := by
  have : s.toList.length = s.size := by rw [Lib.toList_data]; rfl
  have e : s.toList = [] := List.eq_nil_of_length_eq_zero (by omega)
  exact ⟨by rw [e]; rfl, e⟩
theorem full_of {s : ByteArray} (h : 0 < s.size) : s.toList.isEmpty = false := by
  have : s.toList.length = s.size := by rw [Lib.toList_data]; rfl
  cases h : s.toList with
  | nil => rw [h] at this; simp at this; omega
  | cons a b => rfl

set_option maxHeartbeats 800000 in
theorem word_some (s : ByteArray) (w : World) (hs : s.size ≤ 100) : Calls Try.prog 26 #[.string s] w (SomeBool w) := by
  by_cases hz : s.size = 0
  · obtain ⟨h1, h2⟩ := empty_of hz
    have Hz := Lib.hid hz
    clear hz h2
    go_enter Try.func26, Try.ntmps26
    go_wp2
    go_ret
    exact ⟨_, rfl, rfl⟩
  · have h1 := full_of (by omega : 0 < s.size)
    have hz0 : 0 < s.size := by omega
    clear hz
    go_enter Try.func26, Try.ntmps26
    go_wp2_with fail
    go_at_call 33
    refine (letter_some _ _).mono ?_
    rintro e' w' ⟨b, rfl, rfl⟩
    cases b
    · go_wp2
      go_ret
      exact ⟨_, rfl, rfl⟩
    go_wp2
    go_loop [3] (fun i => ∃ k : Nat, k ≤ s.size ∧ i = .int .i64 k) (fun i => s.size - (intOf i).toNat)
    case atStart => exact ⟨1, by omega, rfl⟩
    case round =>
      obtain ⟨k, hk, rfl⟩ := hrel
      by_cases hlt : k < s.size
      · go_wp2_with fail
        go_at_call 33
        refine (letter_some _ _).mono ?_
        rintro e' w' ⟨b, rfl, rfl⟩
        cases b
        · go_wp2_with fail
          go_at_call 34
          refine (digit_some _ _).mono ?_
          rintro e' w' ⟨b, rfl, rfl⟩
          cases b
          · go_wp2
            go_ret
            exact ⟨_, rfl, rfl⟩
          · go_wp2
            go_round
            case rel => exact ⟨k + 1, by omega, by go_num⟩
            case measure => simp [intOf]; omega
        · go_wp2
          go_round
          case rel => exact ⟨k + 1, by omega, by go_num⟩
          case measure => simp [intOf]; omega
      · go_wp2
        go_ret
        exact ⟨_, rfl, rfl⟩

def SomeB (w : World) (e : Ending) (w' : World) : Prop := ∃ b, e = .returned (.bool b) ∧ Below w.heap.size w w'
set_option maxHeartbeats 800000 in
theorem keyword_some (s : ByteArray) (w : World) : Calls Try.prog 27 #[.string s] w (SomeB w) := by
  go_enter Try.func27, Try.ntmps27
  go_wp2
  go_loopw [4] (fun i wr => ∃ k : Nat, k ≤ 18 ∧ i = .int .i64 k ∧ (∀ j, j < 18 → ∃ t, wr.cell? ⟨w.heap.size, j, none⟩ = some (.string t)) ∧ Below w.heap.size w wr) (fun i _ => 18 - (intOf i).toNat)
  case atStart =>
    refine ⟨0, by omega, rfl, fun k hk => ?_, (Below.refl _ _).alloc (Nat.le_refl _) _⟩
    match k, hk with
    | 0, _ => exact ⟨_, by simp [go_sem]; rfl⟩
    | 1, _ => exact ⟨_, by simp [go_sem]; rfl⟩
    | 2, _ => exact ⟨_, by simp [go_sem]; rfl⟩
    | 3, _ => exact ⟨_, by simp [go_sem]; rfl⟩
    | 4, _ => exact ⟨_, by simp [go_sem]; rfl⟩
    | 5, _ => exact ⟨_, by simp [go_sem]; rfl⟩
    | 6, _ => exact ⟨_, by simp [go_sem]; rfl⟩
    | 7, _ => exact ⟨_, by simp [go_sem]; rfl⟩
    | 8, _ => exact ⟨_, by simp [go_sem]; rfl⟩
    | 9, _ => exact ⟨_, by simp [go_sem]; rfl⟩
    | 10, _ => exact ⟨_, by simp [go_sem]; rfl⟩
    | 11, _ => exact ⟨_, by simp [go_sem]; rfl⟩
    | 12, _ => exact ⟨_, by simp [go_sem]; rfl⟩
    | 13, _ => exact ⟨_, by simp [go_sem]; rfl⟩
    | 14, _ => exact ⟨_, by simp [go_sem]; rfl⟩
    | 15, _ => exact ⟨_, by simp [go_sem]; rfl⟩
    | 16, _ => exact ⟨_, by simp [go_sem]; rfl⟩
    | 17, _ => exact ⟨_, by simp [go_sem]; rfl⟩
    | n + 18, h => omega
  case round =>
    obtain ⟨k, hk, rfl, hw, hb⟩ := hrel
    have HW := Lib.hid hw
    clear hw
    by_cases hlt : k < 18
    · obtain ⟨t, hc⟩ := HW.out k hlt
      cases ht : (t.toList == s.toList)
      · go_wp2
        go_roundw
        case rel => exact ⟨k + 1, by omega, by go_num, HW.out, hb⟩
        case measure => simp [intOf]; omega
      · go_wp2
        go_ret
        exact ⟨_, rfl, hb⟩
    · go_wp2
      go_ret
      exact ⟨_, rfl, hb⟩

theorem ident_some (s : ByteArray) (w : World) (hs : s.size ≤ 100) : Calls Try.prog 18 #[.string s] w (SomeB w) := by
  go_enter Try.func18, Try.ntmps18
  go_wp2_with fail
  go_at_call 26
  refine (word_some s _ hs).mono ?_
  rintro e' w' ⟨b, rfl, rfl⟩
  cases b
  · go_wp2
    go_ret
    exact ⟨_, rfl, Below.refl _ _⟩
  go_wp2_with fail
  go_at_call 27
  refine (keyword_some s _).mono ?_
  rintro e' w1 ⟨b, rfl, hb⟩
  have HB := Lib.hid hb
  clear hb
  cases b
  all_goals
    go_wp2
    go_ret
    exact ⟨_, rfl, HB.out⟩
end Go.Proofs.Ytppmdncmjcknkaa
