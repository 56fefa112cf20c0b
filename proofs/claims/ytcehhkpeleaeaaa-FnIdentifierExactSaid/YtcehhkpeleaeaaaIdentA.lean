/-
  IsIdentifier answers as IsName and not IsWord, on every text. Conditions: none.
-/
import Derived.Test.YtcehhkpeleaeaaaRows
import Derived.WalkKit
import Derived.WalkSpells
import Derived.Laws.RangeAny
import Derived.Lib.Hide
import Derived.Outline
import Derived.Lib.Strings
import Derived.Lib.OthersKept
namespace Go.Proofs.Ytcehhkpeleaeaaa
open Go.RowKit

theorem ret_bool {a b : Bool} (h : a = b) : Ending.returned (.bool a) = .returned (.bool b) := by rw [h]

def letterN (c : Int) : Bool := decide ((65 ≤ c ∧ c ≤ 90) ∨ (97 ≤ c ∧ c ≤ 122) ∨ c = 95)
def digitN (c : Int) : Bool := decide (48 ≤ c ∧ c ≤ 57)
def goodN (c : Int) : Bool := letterN c || digitN c
theorem letterN_t {c : Int} (h : (65 ≤ c ∧ c ≤ 90) ∨ (97 ≤ c ∧ c ≤ 122) ∨ c = 95) : letterN c = true := decide_eq_true h
theorem letterN_f {c : Int} (h : ¬ ((65 ≤ c ∧ c ≤ 90) ∨ (97 ≤ c ∧ c ≤ 122) ∨ c = 95)) : letterN c = false := decide_eq_false h
theorem digitN_t {c : Int} (h : 48 ≤ c ∧ c ≤ 57) : digitN c = true := decide_eq_true h
theorem digitN_f {c : Int} (h : ¬ (48 ≤ c ∧ c ≤ 57)) : digitN c = false := decide_eq_false h

/-! ### letters and digits -/
theorem first_any (c : Int) (w : World) : Calls Try.prog 11 #[.int .i32 c] w fun e w' => e = .returned (.bool (letterN c)) ∧ w = w' := by
  by_cases h1 : c < 65
  · go_enter Try.func11, Try.ntmps11
    go_wp2
    go_ret
    exact ⟨ret_bool ((letterN_f (by omega)).trans (by first | rfl | (symm; simp; omega))).symm, rfl⟩
  by_cases h2 : c ≤ 90
  · go_enter Try.func11, Try.ntmps11
    go_wp2
    go_ret
    exact ⟨ret_bool ((letterN_t (by omega)).trans (by first | rfl | (symm; simp; omega))).symm, rfl⟩
  by_cases h3 : c < 97
  · by_cases h5 : c = 95
    · subst h5
      go_enter Try.func11, Try.ntmps11
      go_wp2
      go_ret
      exact ⟨ret_bool rfl, rfl⟩
    · have h6 : (c == 95) = false := by simp; omega
      go_enter Try.func11, Try.ntmps11
      go_wp2
      go_ret
      exact ⟨ret_bool (letterN_f (by omega)).symm, rfl⟩
  by_cases h4 : c ≤ 122
  · go_enter Try.func11, Try.ntmps11
    go_wp2
    go_ret
    exact ⟨ret_bool ((letterN_t (by omega)).trans (by first | rfl | (symm; simp; omega))).symm, rfl⟩
  · go_enter Try.func11, Try.ntmps11
    go_wp2
    go_ret
    exact ⟨ret_bool ((letterN_f (by omega)).trans (by first | rfl | (symm; simp; omega))).symm, rfl⟩

theorem number_any (c : Int) (w : World) : Calls Try.prog 16 #[.int .i32 c] w fun e w' => e = .returned (.bool (digitN c)) ∧ w = w' := by
  by_cases h1 : c < 48
  · go_enter Try.func16, Try.ntmps16
    go_wp2
    go_ret
    exact ⟨ret_bool ((digitN_f (by omega)).trans (by first | rfl | (symm; simp; omega))).symm, rfl⟩
  by_cases h2 : c ≤ 57
  · go_enter Try.func16, Try.ntmps16
    go_wp2
    go_ret
    exact ⟨ret_bool ((digitN_t (by omega)).trans (by first | rfl | (symm; simp; omega))).symm, rfl⟩
  · go_enter Try.func16, Try.ntmps16
    go_wp2
    go_ret
    exact ⟨ret_bool ((digitN_f (by omega)).trans (by first | rfl | (symm; simp; omega))).symm, rfl⟩

theorem good_any (c : Int) (w : World) : Calls Try.prog 12 #[.int .i32 c] w fun e w' => e = .returned (.bool (goodN c)) ∧ w = w' := by
  cases hl : letterN c <;> cases hd : digitN c
  all_goals
    have Hg := Lib.hid (show goodN c = _ from by unfold goodN; rw [hl, hd])
    go_enter Try.func12, Try.ntmps12
    go_wp2_with (first | (go_at_call 11; refine (first_any _ _).mono ?_; rintro e w' ⟨rfl, rfl⟩) | (go_at_call 16; refine (number_any _ _).mono ?_; rintro e w' ⟨rfl, rfl⟩))
    go_ret
    exact ⟨ret_bool (by rw [Hg.out]; rfl), rfl⟩

theorem letter_any (c : Int) (w : World) : Calls Try.prog 8 #[.int .u8 c] w fun e w' => e = .returned (.bool (letterN c)) ∧ w = w' := by
  by_cases h1 : c < 65
  · go_enter Try.func8, Try.ntmps8
    go_wp2
    go_ret
    exact ⟨ret_bool ((letterN_f (by omega)).trans (by first | rfl | (symm; simp; omega))).symm, rfl⟩
  by_cases h2 : c ≤ 90
  · go_enter Try.func8, Try.ntmps8
    go_wp2
    go_ret
    exact ⟨ret_bool ((letterN_t (by omega)).trans (by first | rfl | (symm; simp; omega))).symm, rfl⟩
  by_cases h3 : c < 97
  · by_cases h5 : c = 95
    · subst h5
      go_enter Try.func8, Try.ntmps8
      go_wp2
      go_ret
      exact ⟨ret_bool rfl, rfl⟩
    · have h6 : (c == 95) = false := by simp; omega
      go_enter Try.func8, Try.ntmps8
      go_wp2
      go_ret
      exact ⟨ret_bool (letterN_f (by omega)).symm, rfl⟩
  by_cases h4 : c ≤ 122
  · go_enter Try.func8, Try.ntmps8
    go_wp2
    go_ret
    exact ⟨ret_bool ((letterN_t (by omega)).trans (by first | rfl | (symm; simp; omega))).symm, rfl⟩
  · go_enter Try.func8, Try.ntmps8
    go_wp2
    go_ret
    exact ⟨ret_bool ((letterN_f (by omega)).trans (by first | rfl | (symm; simp; omega))).symm, rfl⟩

theorem digit_any (c : Int) (w : World) : Calls Try.prog 9 #[.int .u8 c] w fun e w' => e = .returned (.bool (digitN c)) ∧ w = w' := by
  by_cases h1 : c < 48
  · go_enter Try.func9, Try.ntmps9
    go_wp2
    go_ret
    exact ⟨ret_bool ((digitN_f (by omega)).trans (by first | rfl | (symm; simp; omega))).symm, rfl⟩
  by_cases h2 : c ≤ 57
  · go_enter Try.func9, Try.ntmps9
    go_wp2
    go_ret
    exact ⟨ret_bool ((digitN_t (by omega)).trans (by first | rfl | (symm; simp; omega))).symm, rfl⟩
  · go_enter Try.func9, Try.ntmps9
    go_wp2
    go_ret
    exact ⟨ret_bool ((digitN_f (by omega)).trans (by first | rfl | (symm; simp; omega))).symm, rfl⟩

/-! ### keywords -/
def kws : List (List UInt8) := [[97, 115, 115, 101, 114, 116], [101, 108, 115, 101], [101, 114, 114, 111, 114], [102, 97, 108, 115, 101], [102, 111, 114], [102, 117, 110, 99, 116, 105, 111, 110], [105, 102], [105, 109, 112, 111, 114, 116], [105, 109, 112, 111, 114, 116, 98, 105, 110], [105, 109, 112, 111, 114, 116, 115, 116, 114], [105, 110], [108, 111, 99, 97, 108], [110, 117, 108, 108], [115, 101, 108, 102], [115, 117, 112, 101, 114], [116, 97, 105, 108, 115, 116, 114, 105, 99, 116], [116, 104, 101, 110], [116, 114, 117, 101]]
def isKw (s : ByteArray) : Bool := kws.contains s.toList
def SomeKind (w : World) (e : Ending) (w' : World) : Prop := ∃ n : Int, (n == 10) = false ∧ e = .returned (.int .i64 n) ∧ w = w'

theorem kind_no (s : ByteArray) (w : World) (h : isKw s = false) : Calls Try.prog 13 #[.string s] w fun e w' => e = .returned (.int .i64 10) ∧ w = w' := by
  have H := Lib.hid h
  clear h
  go_enter Try.func13, Try.ntmps13
  go_wp2
  all_goals first
    | (exfalso; have h := H.out; simp_all [isKw, kws]; done)
    | (go_ret; exact ⟨rfl, rfl⟩)

theorem kind_yes (s : ByteArray) (w : World) (h : isKw s = true) : Calls Try.prog 13 #[.string s] w fun e w' => SomeKind w e w' := by
  have H := Lib.hid h
  clear h
  go_enter Try.func13, Try.ntmps13
  go_wp2
  all_goals first
    | (exfalso; have h := H.out; simp_all [isKw, kws]; done)
    | (go_ret; exact ⟨_, by decide, rfl, rfl⟩)
/-! ### names -/
def byteAt (s : ByteArray) (j : Nat) : Int := ((s.data.toList.getD j 0).toNat : Int)
def okAt (s : ByteArray) (j : Nat) : Bool := letterN (byteAt s j) || (decide (0 < j) && digitN (byteAt s j))
def nameB (s : ByteArray) : Bool := decide (0 < s.size) && (List.range s.size).all (okAt s)
def Upto (s : ByteArray) (k : Nat) : Prop := ∀ j, j < k → okAt s j = true

theorem byteAt_eq (s : ByteArray) (k : Nat) (h : k < s.size) : byteAt s k = (s[k].toNat : Int) := by
  unfold byteAt
  have : s.data.toList.getD k 0 = s[k] := by
    rw [List.getD_eq_getElem?_getD, List.getElem?_eq_getElem (by simpa using h)]
    rfl
  rw [this]
theorem upto_zero (s : ByteArray) : Upto s 0 := fun j h => absurd h (by omega)
theorem upto_succ {s : ByteArray} {k : Nat} (h : Upto s k) (hk : okAt s k = true) : Upto s (k + 1) := fun j hj => by
  by_cases e : j = k
  · subst e; exact hk
  · exact h j (by omega)
theorem nameB_yes {s : ByteArray} (h0 : 0 < s.size) (h : Upto s s.size) : nameB s = true := by
  simp only [nameB, Bool.and_eq_true, decide_eq_true_eq, List.all_eq_true, List.mem_range]
  exact ⟨h0, h⟩
theorem nameB_no {s : ByteArray} {k : Nat} (hk : k < s.size) (h : okAt s k = false) : nameB s = false := by
  rw [Bool.eq_false_iff]
  intro hn
  simp only [nameB, Bool.and_eq_true, decide_eq_true_eq, List.all_eq_true, List.mem_range] at hn
  rw [hn.2 k hk] at h
  exact absurd h (by decide)

set_option maxHeartbeats 400000 in
theorem name_any (s : ByteArray) (w : World) (hs : s.size ≤ 2000) : Calls Try.prog 5 #[.string s] w fun e w' => e = .returned (.bool (nameB s)) ∧ w = w' := by
  go_enter Try.func5, Try.ntmps5
  go_wp2
  go_loop [3] (fun i => ∃ k : Nat, k ≤ s.size ∧ i = .int .i64 k ∧ Upto s k) (fun i => s.size - (intOf i).toNat)
  case atStart => exact ⟨0, Nat.zero_le _, rfl, upto_zero s⟩
  case round =>
    obtain ⟨k, hk, rfl, hu⟩ := hrel
    have Hu := Lib.hid hu
    clear hu
    by_cases hlt : k < s.size
    · have Hb := Lib.hid (byteAt_eq s k hlt)
      cases hl : letterN (s[k].toNat : Int)
      · by_cases h0 : k = 0
        · have hn : nameB s = false := nameB_no hlt (by unfold okAt; rw [Hb.out, hl]; simp [h0])
          have Hn := Lib.hid hn
          clear hn
          subst h0
          go_wp2_with (first | (go_at_call 8; refine (letter_any _ _).mono ?_; rintro e w' ⟨rfl, rfl⟩) | (go_at_call 9; refine (digit_any _ _).mono ?_; rintro e w' ⟨rfl, rfl⟩))
          go_ret
          exact ⟨ret_bool (by rw [Hn.out]), rfl⟩
        · have h0' : ((k : Int) == 0) = false := by simp; omega
          cases hd : digitN (s[k].toNat : Int)
          · have hn : nameB s = false := nameB_no hlt (by simp [okAt, Hb.out, hl, hd])
            have Hn := Lib.hid hn
            clear hn h0
            go_wp2_with (first | (go_at_call 8; refine (letter_any _ _).mono ?_; rintro e w' ⟨rfl, rfl⟩) | (go_at_call 9; refine (digit_any _ _).mono ?_; rintro e w' ⟨rfl, rfl⟩))
            go_ret
            exact ⟨ret_bool (by rw [Hn.out]), rfl⟩
          · have ho : okAt s k = true := by simp [okAt, Hb.out, hd]; omega
            have Ho := Lib.hid ho
            clear ho h0
            go_wp2_with (first | (go_at_call 8; refine (letter_any _ _).mono ?_; rintro e w' ⟨rfl, rfl⟩) | (go_at_call 9; refine (digit_any _ _).mono ?_; rintro e w' ⟨rfl, rfl⟩))
            go_round
            case rel => exact ⟨k + 1, by omega, by go_num, upto_succ Hu.out Ho.out⟩
            case measure => simp [intOf]; omega
      · have ho : okAt s k = true := by simp [okAt, Hb.out, hl]
        have Ho := Lib.hid ho
        clear ho
        go_wp2_with (first | (go_at_call 8; refine (letter_any _ _).mono ?_; rintro e w' ⟨rfl, rfl⟩) | (go_at_call 9; refine (digit_any _ _).mono ?_; rintro e w' ⟨rfl, rfl⟩))
        go_round
        case rel => exact ⟨k + 1, by omega, by go_num, upto_succ Hu.out Ho.out⟩
        case measure => simp [intOf]; omega
    · by_cases hz : s.size = 0
      · have hn : nameB s = false := by simp [nameB, hz]
        have Hn := Lib.hid hn
        have he : s.toList = [] := by
          have : s.toList.length = s.size := by rw [Lib.toList_data]; rfl
          exact List.eq_nil_of_length_eq_zero (by omega)
        clear hn
        go_wp2
        go_ret
        exact ⟨ret_bool (by rw [Hn.out]), rfl⟩
      · have hn : nameB s = true := nameB_yes (by omega) (by have := Hu.out; rwa [show k = s.size by omega] at this)
        have Hn := Lib.hid hn
        have he : ¬ s.toList = [] := by
          intro h
          have : s.toList.length = s.size := by rw [Lib.toList_data]; rfl
          rw [h] at this; simp at this; omega
        clear hn
        go_wp2
        go_ret
        exact ⟨ret_bool (by rw [Hn.out]; cases h : s.toList <;> simp_all), rfl⟩
end Go.Proofs.Ytcehhkpeleaeaaa
