/-
  point, Units and units9 read a text strictly, letter by letter. Conditions: a text of at most 2000 bytes, or as said.
-/
import Derived.Test.YtohhcmcelofgeaaRows
import Derived.Test.YtohhcmcelofgeaaUtf
import Derived.WalkKit
import Derived.WalkSpells
import Derived.Lib.Hide
import Derived.Outline
import Derived.Lib.Strings
namespace Go.Proofs.Ytohhcmcelofgeaa
open Go.RowKit

theorem ret_bool {a b : Bool} (h : a = b) : Ending.returned (.bool a) = .returned (.bool b) := by rw [h]
theorem ret_int {k : IntKind} {a b : Int} (h : a = b) : Ending.returned (.int k a) = .returned (.int k b) := by rw [h]
theorem ret_two {k k' : IntKind} {a b c d : Int} (h : a = b) (h' : c = d) : Ending.returned (.tuple #[.int k a, .int k' c]) = .returned (.tuple #[.int k b, .int k' d]) := by rw [h, h']
theorem Below.next {a b c : World} (h : Below a.heap.size a b) (k : Below b.heap.size b c) : Below a.heap.size a c := h.trans (k.mono h.size)

/-- What point tells. -/
def ptv (s : ByteArray) (i : Nat) : Int := if wide s i = 0 then 0 else (pnt s i : Int)
def PointTo (s : ByteArray) (i : Nat) (w : World) (e : Ending) (w' : World) : Prop := e = .returned (.tuple #[.int .i64 (ptv s i), .int .i64 (wide s i)]) ∧ w = w'
set_option maxRecDepth 100000 in
theorem point_no {s : ByteArray} {i : Nat} {w : World} (h : wide s i = 0) : PointTo s i w (.returned (.tuple #[.int .i64 0, .int .i64 0])) w := by
  refine ⟨ret_two ?_ ?_, rfl⟩
  · unfold ptv; rw [if_pos h]
  · rw [h]; rfl
set_option maxRecDepth 100000 in
theorem point_yes {s : ByteArray} {i : Nat} {w : World} {r n : Nat} {x y : Int} (hn : n ≠ 0) (h : wide s i = n ∧ pnt s i = r) (hx : x = r) (hy : y = n) : PointTo s i w (.returned (.tuple #[.int .i64 x, .int .i64 y])) w := by
  refine ⟨ret_two ?_ ?_, rfl⟩
  · unfold ptv; rw [if_neg (by rw [h.1]; exact hn), h.2, hx]
  · rw [h.1, hy]

set_option linter.unusedVariables false
/-- The number that the bytes up to a place make. -/
def acc (s : ByteArray) (i b : Nat) : Nat → Nat
  | 0 => b
  | 1 => b
  | k + 2 => acc s i b (k + 1) * 64 + (by' s (i + (k + 1)) - 128)
def Cont (s : ByteArray) (i k : Nat) : Prop := ∀ j, 1 ≤ j → j < k → 128 ≤ by' s (i + j) ∧ by' s (i + j) < 192
theorem cont_one (s : ByteArray) (i : Nat) : Cont s i 1 := fun j h1 h2 => absurd h2 (by omega)
theorem cont_succ {s : ByteArray} {i k : Nat} (h : Cont s i k) (a : 128 ≤ by' s (i + k)) (b : by' s (i + k) < 192) : Cont s i (k + 1) := fun j h1 h2 => by
  by_cases e : j = k
  · subst e; exact ⟨a, b⟩
  · exact h j h1 (by omega)
theorem acc_succ {s : ByteArray} {i b k : Nat} (hk : 1 ≤ k) : acc s i b (k + 1) = acc s i b k * 64 + (by' s (i + k) - 128) := by
  obtain ⟨j, rfl⟩ : ∃ j, k = j + 1 := ⟨k - 1, by omega⟩
  rfl
theorem acc_small {s : ByteArray} {i b k : Nat} (hb : b < 32) (h : Cont s i k) (h1 : 1 ≤ k) (h4 : k ≤ 4) : acc s i b k < 8388608 := by
  have a1 : acc s i b 1 = b := rfl
  match k, h1, h4 with
  | 1, _, _ => omega
  | 2, _, _ => have := h 1 (by omega) (by omega); have e := acc_succ (s := s) (i := i) (b := b) (k := 1) (by omega); simp only [Nat.reduceAdd] at e; omega
  | 3, _, _ => have := h 1 (by omega) (by omega); have := h 2 (by omega) (by omega); have e := acc_succ (s := s) (i := i) (b := b) (k := 1) (by omega); have e' := acc_succ (s := s) (i := i) (b := b) (k := 2) (by omega); simp only [Nat.reduceAdd] at e e'; omega
  | 4, _, _ => have := h 1 (by omega) (by omega); have := h 2 (by omega) (by omega); have := h 3 (by omega) (by omega); have e := acc_succ (s := s) (i := i) (b := b) (k := 1) (by omega); have e' := acc_succ (s := s) (i := i) (b := b) (k := 2) (by omega); have e'' := acc_succ (s := s) (i := i) (b := b) (k := 3) (by omega); simp only [Nat.reduceAdd] at e e' e''; omega

set_option maxRecDepth 100000 in
theorem point_lo (s : ByteArray) (i : Nat) (hi : i < s.size) (hs : s.size ≤ 10000) (w : World) (h : s[i].toNat < 128) :
    Calls Try.prog 19 #[.string s, .int .i64 i] w (PointTo s i w) := by
  have hc := wide_ascii (s := s) (i := i) (by rw [by_eq s i hi]; exact h)
  rw [by_eq s i hi] at hc
  have Hc := Lib.hid hc
  clear hc
  go_enter Try.func19, Try.ntmps19
  go_wp2
  go_ret2
  exact point_yes (by omega) Hc.out rfl rfl
set_option maxRecDepth 100000 in
theorem point_bad (s : ByteArray) (i : Nat) (hi : i < s.size) (hs : s.size ≤ 10000) (w : World) (h1 : 128 ≤ s[i].toNat) (h : s[i].toNat < 192 ∨ 248 ≤ s[i].toNat) :
    Calls Try.prog 19 #[.string s, .int .i64 i] w (PointTo s i w) := by
  have hc := wide_none (s := s) (i := i) (by rw [by_eq s i hi]; exact h1) (by rw [by_eq s i hi]; exact h)
  have Hc := Lib.hid hc
  clear hc
  have hb : s[i].toNat < 256 := UInt8.toNat_lt _
  rcases h with h | h
  all_goals
    go_enter Try.func19, Try.ntmps19
    go_wp2
    go_ret2
    exact point_no Hc.out
set_option maxHeartbeats 1000000 in
set_option maxHeartbeats 1000000 in
set_option maxHeartbeats 1000000 in
set_option maxHeartbeats 1000000 in
set_option maxHeartbeats 1000000 in
set_option maxHeartbeats 1000000 in
set_option maxRecDepth 100000 in
theorem point_2 (s : ByteArray) (i : Nat) (hi : i < s.size) (hs : s.size ≤ 10000) (w : World) (h1 : 192 ≤ s[i].toNat) (h : s[i].toNat < 224) :
    Calls Try.prog 19 #[.string s, .int .i64 i] w (PointTo s i w) := by
  have hy1 : 192 ≤ by' s i := by rw [by_eq s i hi]; exact h1
  have hy2 : by' s i < 224 := by rw [by_eq s i hi]; exact h
  have HNO := Lib.hid (fun hh => wide_two_no (s := s) (i := i) hy1 hy2 hh)
  have HYES := Lib.hid (fun a b => wide_two (s := s) (i := i) hy1 hy2 a b)
  have HB := Lib.hid (by_eq s i hi)
  clear hy1 hy2
  by_cases hn : s.size - i < 2
  · have hc := HNO.out (by unfold Two; omega)
    have Hc := Lib.hid hc
    clear hc
    go_enter Try.func19, Try.ntmps19
    go_wp2
    go_ret2
    exact point_no Hc.out
  · have f1 : (192 : Int) ≤ (s[i].toNat : Int) := by omega
    have f2 : (s[i].toNat : Int) < 224 := by omega
    have f3 : decide ((s[i].toNat : Int) < 128) = false := decide_eq_false (by omega)
    have f4 : decide ((s[i].toNat : Int) < 192) = false := decide_eq_false (by omega)
    have f5 : decide ((s[i].toNat : Int) < 224) = true := decide_eq_true (by omega)
    have f6 : decide ((192 : Int) ≤ (s[i].toNat : Int)) = true := decide_eq_true (by omega)
    go_enter Try.func19, Try.ntmps19
    go_wp2
    go_loop [4, 5, 8] (fun r m x => ∃ k : Nat, 1 ≤ k ∧ k ≤ 2 ∧ x = .int .i64 k ∧ m = .int .i64 2 ∧ r = .int .i64 (acc s i (s[i].toNat - 192) k) ∧ Cont s i k) (fun _ _ x => 2 - (intOf x).toNat)
    case atStart => exact ⟨1, by omega, by omega, rfl, rfl, by show _ = Value.int .i64 (((s[i].toNat - 192 : Nat)) : Int); congr 1; omega, cont_one s i⟩
    case round =>
      obtain ⟨k, hk1, hk2, rfl, rfl, rfl, hu⟩ := hrel
      have hsm := acc_small (b := s[i].toNat - 192) (by omega) hu hk1 (by omega)
      have Hu := Lib.hid hu
      clear hu
      by_cases hlt : k < 2
      · have hik : i + k < s.size := by omega
        have HBk := Lib.hid (by_eq s (i + k) hik)
        have hbk : s[i + k].toNat < 256 := UInt8.toNat_lt _
        have HA := Lib.hid (acc_succ (s := s) (i := i) (b := s[i].toNat - 192) hk1)
        obtain ⟨A, hA⟩ : ∃ A, A = acc s i (s[i].toNat - 192) k := ⟨_, rfl⟩
        rw [← hA]
        rw [← hA] at hsm
        have HA2 := Lib.hid hA
        clear hA
        by_cases hd : s[i + k].toNat < 128 ∨ 192 ≤ s[i + k].toNat
        · have hc := HNO.out (fun hh => by
            obtain ⟨hh, _⟩ := hh
            have e := HBk.out
            have hk0 : k = 1 ∨ k = 2 ∨ k = 3 := by omega
            unfold Two at hh
            rcases hk0 with rfl | rfl | rfl <;> omega)
          have Hc := Lib.hid hc
          clear hc
          rcases hd with hd | hd
          all_goals
            go_wp2
            go_ret2
            exact point_no Hc.out
        · have hd1 : 128 ≤ s[i + k].toNat := by omega
          have hd2 : s[i + k].toNat < 192 := by omega
          clear hd
          go_wp2
          go_round
          case rel => exact ⟨k + 1, by omega, by omega, by go_num, rfl, by rw [HA.out, ← HA2.out, HBk.out]; congr 1; omega, cont_succ Hu.out (by rw [HBk.out]; exact hd1) (by rw [HBk.out]; exact hd2)⟩
          case measure => simp [intOf]; omega
      · have hkn : k = 2 := by omega
        subst hkn
        have hV : acc s i (s[i].toNat - 192) 2 = val2 s i := by
          unfold val2
          rw [HB.out]
          rfl
        have hbd : val2 s i < 2048 := by
          have h1' := Hu.out 1 (by omega) (by omega)
          unfold val2
          rw [HB.out]
          omega
        have hT : Two s i := by
          have h1' := Hu.out 1 (by omega) (by omega)
          unfold Two
          omega
        rw [hV] at hsm ⊢
        clear hV
        have HT := Lib.hid hT
        clear hT
        obtain ⟨V, hV⟩ : ∃ V, V = val2 s i := ⟨_, rfl⟩
        rw [← hV] at hsm hbd ⊢
        have HV := Lib.hid hV
        clear hV
        by_cases hv : V < 128
        · have hc := HNO.out (fun hh => by have := HV.out; obtain ⟨_, hh⟩ := hh; omega)
          have Hc := Lib.hid hc
          clear hc
          go_wp2
          go_ret2
          exact point_no Hc.out
        · have hc := HYES.out HT.out (by rw [← HV.out]; omega)
          rw [← HV.out] at hc
          have Hc := Lib.hid hc
          clear hc
          go_wp2
          go_ret2
          exact point_yes (by omega) Hc.out rfl rfl

set_option maxHeartbeats 1000000 in
set_option maxRecDepth 100000 in
theorem point_3 (s : ByteArray) (i : Nat) (hi : i < s.size) (hs : s.size ≤ 10000) (w : World) (h1 : 224 ≤ s[i].toNat) (h : s[i].toNat < 240) :
    Calls Try.prog 19 #[.string s, .int .i64 i] w (PointTo s i w) := by
  have hy1 : 224 ≤ by' s i := by rw [by_eq s i hi]; exact h1
  have hy2 : by' s i < 240 := by rw [by_eq s i hi]; exact h
  have HNO := Lib.hid (fun hh => wide_three_no (s := s) (i := i) hy1 hy2 hh)
  have HYES := Lib.hid (fun a b c => wide_three (s := s) (i := i) hy1 hy2 a b c)
  have HB := Lib.hid (by_eq s i hi)
  clear hy1 hy2
  by_cases hn : s.size - i < 3
  · have hc := HNO.out (by unfold Three; omega)
    have Hc := Lib.hid hc
    clear hc
    go_enter Try.func19, Try.ntmps19
    go_wp2
    go_ret2
    exact point_no Hc.out
  · have f1 : (224 : Int) ≤ (s[i].toNat : Int) := by omega
    have f2 : (s[i].toNat : Int) < 240 := by omega
    have f3 : decide ((s[i].toNat : Int) < 128) = false := decide_eq_false (by omega)
    have f4 : decide ((s[i].toNat : Int) < 224) = false := decide_eq_false (by omega)
    have f5 : decide ((s[i].toNat : Int) < 240) = true := decide_eq_true (by omega)
    have f6 : decide ((224 : Int) ≤ (s[i].toNat : Int)) = true := decide_eq_true (by omega)
    go_enter Try.func19, Try.ntmps19
    go_wp2
    go_loop [4, 5, 8] (fun r m x => ∃ k : Nat, 1 ≤ k ∧ k ≤ 3 ∧ x = .int .i64 k ∧ m = .int .i64 3 ∧ r = .int .i64 (acc s i (s[i].toNat - 224) k) ∧ Cont s i k) (fun _ _ x => 3 - (intOf x).toNat)
    case atStart => exact ⟨1, by omega, by omega, rfl, rfl, by show _ = Value.int .i64 (((s[i].toNat - 224 : Nat)) : Int); congr 1; omega, cont_one s i⟩
    case round =>
      obtain ⟨k, hk1, hk2, rfl, rfl, rfl, hu⟩ := hrel
      have hsm := acc_small (b := s[i].toNat - 224) (by omega) hu hk1 (by omega)
      have Hu := Lib.hid hu
      clear hu
      by_cases hlt : k < 3
      · have hik : i + k < s.size := by omega
        have HBk := Lib.hid (by_eq s (i + k) hik)
        have hbk : s[i + k].toNat < 256 := UInt8.toNat_lt _
        have HA := Lib.hid (acc_succ (s := s) (i := i) (b := s[i].toNat - 224) hk1)
        obtain ⟨A, hA⟩ : ∃ A, A = acc s i (s[i].toNat - 224) k := ⟨_, rfl⟩
        rw [← hA]
        rw [← hA] at hsm
        have HA2 := Lib.hid hA
        clear hA
        by_cases hd : s[i + k].toNat < 128 ∨ 192 ≤ s[i + k].toNat
        · have hc := HNO.out (fun hh => by
            obtain ⟨hh, _⟩ := hh
            have e := HBk.out
            have hk0 : k = 1 ∨ k = 2 ∨ k = 3 := by omega
            unfold Three at hh
            rcases hk0 with rfl | rfl | rfl <;> omega)
          have Hc := Lib.hid hc
          clear hc
          rcases hd with hd | hd
          all_goals
            go_wp2
            go_ret2
            exact point_no Hc.out
        · have hd1 : 128 ≤ s[i + k].toNat := by omega
          have hd2 : s[i + k].toNat < 192 := by omega
          clear hd
          go_wp2
          go_round
          case rel => exact ⟨k + 1, by omega, by omega, by go_num, rfl, by rw [HA.out, ← HA2.out, HBk.out]; congr 1; omega, cont_succ Hu.out (by rw [HBk.out]; exact hd1) (by rw [HBk.out]; exact hd2)⟩
          case measure => simp [intOf]; omega
      · have hkn : k = 3 := by omega
        subst hkn
        have hV : acc s i (s[i].toNat - 224) 3 = val3 s i := by
          unfold val3
          rw [HB.out]
          rfl
        have hbd : val3 s i < 65536 := by
          have h1' := Hu.out 1 (by omega) (by omega)
          have h2' := Hu.out 2 (by omega) (by omega)
          unfold val3
          rw [HB.out]
          omega
        have hT : Three s i := by
          have h1' := Hu.out 1 (by omega) (by omega)
          have h2' := Hu.out 2 (by omega) (by omega)
          unfold Three
          omega
        rw [hV] at hsm ⊢
        clear hV
        have HT := Lib.hid hT
        clear hT
        obtain ⟨V, hV⟩ : ∃ V, V = val3 s i := ⟨_, rfl⟩
        rw [← hV] at hsm hbd ⊢
        have HV := Lib.hid hV
        clear hV
        by_cases hv : V < 2048
        · have hc := HNO.out (fun hh => by have := HV.out; obtain ⟨_, hh⟩ := hh; omega)
          have Hc := Lib.hid hc
          clear hc
          go_wp2
          go_ret2
          exact point_no Hc.out
        by_cases hv2 : V < 55296
        · have hc := HYES.out HT.out (by rw [← HV.out]; omega) (by rw [← HV.out]; omega)
          rw [← HV.out] at hc
          have Hc := Lib.hid hc
          clear hc
          go_wp2
          go_ret2
          exact point_yes (by omega) Hc.out rfl rfl
        by_cases hv3 : V < 57344
        · have hc := HNO.out (fun hh => by have := HV.out; obtain ⟨_, hh⟩ := hh; omega)
          have Hc := Lib.hid hc
          clear hc
          go_wp2
          go_ret2
          exact point_no Hc.out
        · have hc := HYES.out HT.out (by rw [← HV.out]; omega) (by rw [← HV.out]; omega)
          rw [← HV.out] at hc
          have Hc := Lib.hid hc
          clear hc
          go_wp2
          go_ret2
          exact point_yes (by omega) Hc.out rfl rfl

set_option maxHeartbeats 1000000 in
set_option maxRecDepth 100000 in
theorem point_4 (s : ByteArray) (i : Nat) (hi : i < s.size) (hs : s.size ≤ 10000) (w : World) (h1 : 240 ≤ s[i].toNat) (h : s[i].toNat < 248) :
    Calls Try.prog 19 #[.string s, .int .i64 i] w (PointTo s i w) := by
  have hy1 : 240 ≤ by' s i := by rw [by_eq s i hi]; exact h1
  have hy2 : by' s i < 248 := by rw [by_eq s i hi]; exact h
  have HNO := Lib.hid (fun hh => wide_four_no (s := s) (i := i) hy1 hy2 hh)
  have HYES := Lib.hid (fun a b c => wide_four (s := s) (i := i) hy1 hy2 a b c)
  have HB := Lib.hid (by_eq s i hi)
  clear hy1 hy2
  by_cases hn : s.size - i < 4
  · have hc := HNO.out (by unfold Four; omega)
    have Hc := Lib.hid hc
    clear hc
    go_enter Try.func19, Try.ntmps19
    go_wp2
    go_ret2
    exact point_no Hc.out
  · have f1 : (240 : Int) ≤ (s[i].toNat : Int) := by omega
    have f2 : (s[i].toNat : Int) < 248 := by omega
    have f3 : decide ((s[i].toNat : Int) < 128) = false := decide_eq_false (by omega)
    have f4 : decide ((s[i].toNat : Int) < 240) = false := decide_eq_false (by omega)
    have f5 : decide ((s[i].toNat : Int) < 248) = true := decide_eq_true (by omega)
    have f6 : decide ((240 : Int) ≤ (s[i].toNat : Int)) = true := decide_eq_true (by omega)
    go_enter Try.func19, Try.ntmps19
    go_wp2
    go_loop [4, 5, 8] (fun r m x => ∃ k : Nat, 1 ≤ k ∧ k ≤ 4 ∧ x = .int .i64 k ∧ m = .int .i64 4 ∧ r = .int .i64 (acc s i (s[i].toNat - 240) k) ∧ Cont s i k) (fun _ _ x => 4 - (intOf x).toNat)
    case atStart => exact ⟨1, by omega, by omega, rfl, rfl, by show _ = Value.int .i64 (((s[i].toNat - 240 : Nat)) : Int); congr 1; omega, cont_one s i⟩
    case round =>
      obtain ⟨k, hk1, hk2, rfl, rfl, rfl, hu⟩ := hrel
      have hsm := acc_small (b := s[i].toNat - 240) (by omega) hu hk1 (by omega)
      have Hu := Lib.hid hu
      clear hu
      by_cases hlt : k < 4
      · have hik : i + k < s.size := by omega
        have HBk := Lib.hid (by_eq s (i + k) hik)
        have hbk : s[i + k].toNat < 256 := UInt8.toNat_lt _
        have HA := Lib.hid (acc_succ (s := s) (i := i) (b := s[i].toNat - 240) hk1)
        obtain ⟨A, hA⟩ : ∃ A, A = acc s i (s[i].toNat - 240) k := ⟨_, rfl⟩
        rw [← hA]
        rw [← hA] at hsm
        have HA2 := Lib.hid hA
        clear hA
        by_cases hd : s[i + k].toNat < 128 ∨ 192 ≤ s[i + k].toNat
        · have hc := HNO.out (fun hh => by
            obtain ⟨hh, _⟩ := hh
            have e := HBk.out
            have hk0 : k = 1 ∨ k = 2 ∨ k = 3 := by omega
            unfold Four at hh
            rcases hk0 with rfl | rfl | rfl <;> omega)
          have Hc := Lib.hid hc
          clear hc
          rcases hd with hd | hd
          all_goals
            go_wp2
            go_ret2
            exact point_no Hc.out
        · have hd1 : 128 ≤ s[i + k].toNat := by omega
          have hd2 : s[i + k].toNat < 192 := by omega
          clear hd
          go_wp2
          go_round
          case rel => exact ⟨k + 1, by omega, by omega, by go_num, rfl, by rw [HA.out, ← HA2.out, HBk.out]; congr 1; omega, cont_succ Hu.out (by rw [HBk.out]; exact hd1) (by rw [HBk.out]; exact hd2)⟩
          case measure => simp [intOf]; omega
      · have hkn : k = 4 := by omega
        subst hkn
        have hV : acc s i (s[i].toNat - 240) 4 = val4 s i := by
          unfold val4
          rw [HB.out]
          rfl
        have hbd : val4 s i < 2097152 := by
          have h1' := Hu.out 1 (by omega) (by omega)
          have h2' := Hu.out 2 (by omega) (by omega)
          have h3' := Hu.out 3 (by omega) (by omega)
          unfold val4
          rw [HB.out]
          omega
        have hT : Four s i := by
          have h1' := Hu.out 1 (by omega) (by omega)
          have h2' := Hu.out 2 (by omega) (by omega)
          have h3' := Hu.out 3 (by omega) (by omega)
          unfold Four
          omega
        rw [hV] at hsm ⊢
        clear hV
        have HT := Lib.hid hT
        clear hT
        obtain ⟨V, hV⟩ : ∃ V, V = val4 s i := ⟨_, rfl⟩
        rw [← hV] at hsm hbd ⊢
        have HV := Lib.hid hV
        clear hV
        by_cases hv : V < 65536
        · have hc := HNO.out (fun hh => by have := HV.out; obtain ⟨_, hh⟩ := hh; omega)
          have Hc := Lib.hid hc
          clear hc
          go_wp2
          go_ret2
          exact point_no Hc.out
        by_cases hv2 : 1114111 < V
        · have hc := HNO.out (fun hh => by have := HV.out; obtain ⟨_, hh⟩ := hh; omega)
          have Hc := Lib.hid hc
          clear hc
          go_wp2
          go_ret2
          exact point_no Hc.out
        · have hc := HYES.out HT.out (by rw [← HV.out]; omega) (by rw [← HV.out]; omega)
          rw [← HV.out] at hc
          have Hc := Lib.hid hc
          clear hc
          go_wp2
          go_ret2
          exact point_yes (by omega) Hc.out rfl rfl

theorem point_any (s : ByteArray) (i : Nat) (hi : i < s.size) (hs : s.size ≤ 10000) (w : World) : Calls Try.prog 19 #[.string s, .int .i64 i] w (PointTo s i w) := by
  by_cases a : s[i].toNat < 128
  · exact point_lo s i hi hs w a
  by_cases b : s[i].toNat < 192 ∨ 248 ≤ s[i].toNat
  · exact point_bad s i hi hs w (by omega) b
  by_cases c : s[i].toNat < 224
  · exact point_2 s i hi hs w (by omega) c
  by_cases d : s[i].toNat < 240
  · exact point_3 s i hi hs w (by omega) d
  · exact point_4 s i hi hs w (by omega) (by omega)
end Go.Proofs.Ytohhcmcelofgeaa
