/-
  makeValueString, and how strings' runes are compared. Conditions: the strings are read strictly.
-/
import Derived.Test.YtohhcmcelofgeaaUnits
import Derived.WalkKit
import Derived.WalkSpells
import Derived.Lib.Hide
import Derived.Outline
import Derived.Laws.IdiomStrings
import Derived.Deep.QuietTactic
import Derived.BigQuiet
namespace Go.Proofs.Ytohhcmcelofgeaa
open Go.RowKit
set_option linter.unusedVariables false

def rune (l : List Nat) (j : Nat) : Int := (l.getD j 0 : Nat)
/-- A flat string of these numbers lies there. -/
def Flat (w : World) (v : Value) (l : List Nat) : Prop := ∃ p g cap : Nat, v = .iface 86 (.pointer (some ⟨p, 0, none⟩)) ∧ p < w.heap.size ∧ g < w.heap.size ∧
  w.cell? ⟨p, 0, none⟩ = some (.slice (some ⟨g, 0, none⟩) l.length cap) ∧ l.length ≤ cap ∧ ∀ j, j < l.length → w.cell? ⟨g, j, none⟩ = some (.int .i32 (rune l j))
theorem Flat.below {w w' : World} {v : Value} {l : List Nat} (h : Flat w v l) (hb : Below w.heap.size w w') : Flat w' v l := by
  obtain ⟨p, g, cap, e, hp, hg, hc, hl, hr⟩ := h
  have hs := hb.size
  exact ⟨p, g, cap, e, by omega, by omega, (hb.cell (p := ⟨p, 0, none⟩) hp).trans hc, hl, fun j hj => (hb.cell (p := ⟨g, j, none⟩) hg).trans (hr j hj)⟩

theorem conv_runes {s : ByteArray} {l : List Nat} (h : Read s s.size l) (hs : s.size ≤ 10000) (w : World) : ∃ (A : Array Value) (C : Nat), l.length ≤ C ∧
    (convert 9 82 (.string s)).run Try.prog w = .ok (.slice (some ⟨w.heap.size, 0, none⟩) l.length C) (w.drew.alloc (.cells A 21)) ∧
    ∀ j, j < l.length → A[j]? = some (.int .i32 (rune l j)) := by
  have hr := run_runes_of_string (P := Try.prog) w 9 82 21 s Try.underlying9 Try.underlying82 Try.underlying21 (by
    have := size_runesFrom s s.size 0 #[]
    simp only [List.size_toArray, List.length_nil, Nat.zero_add] at this
    omega)
  rw [runes_of h] at hr
  simp only [List.size_toArray, List.length_map] at hr
  refine ⟨_, _, ?_, hr, fun j hj => ?_⟩
  · exact grownCap_ge _ _ _ _
  · rw [Array.getElem?_append_left (by simpa using hj)]
    simp [rune, hj]

theorem made (s : ByteArray) (l : List Nat) (h : Read s s.size l) (hs : s.size ≤ 10000) (w : World) :
    Calls Try.prog 21 #[.string s] w fun e w' => ∃ v, e = .returned v ∧ Flat w' v l ∧ Below w.heap.size w w' := by
  obtain ⟨A, C, hC, hconv, hA⟩ := conv_runes h hs w
  have HA := Lib.hid hA
  have HC := Lib.hid hC
  clear hA hC
  go_enter Try.func21, Try.ntmps21
  go_wp2
  go_ret
  refine ⟨_, rfl, ⟨w.heap.size + 1, w.heap.size, C, rfl, by simp, by simp; omega, by simp [go_sem], HC.out, fun j hj => ?_⟩, (((Below.refl _ _).alloc (Nat.le_refl _) _).alloc (by simp) _).drew⟩
  have := HA.out j hj
  simp [go_sem, this]

/-- The name of the method that tells a string's runes. -/
def runesName : String := String.ofList (List.map Char.ofNat [103, 105, 118, 101, 110, 46, 101, 120, 97, 109, 112, 108, 101, 47, 112, 117, 98, 45, 114, 111, 110, 100, 101, 108, 47, 112, 117, 98, 47, 106, 115, 111, 110, 110, 101, 116, 46, 103, 101, 116, 82, 117, 110, 101, 115])
theorem runes_meth (p : Nat) (w : World) (nm : String) (h : nm = runesName) : (method 314 86 (.pointer (some ⟨p, 0, none⟩)) nm).run Try.prog w = .ok (65, .pointer (some ⟨p, 0, none⟩)) w := by
  subst h
  kernel_rfl

theorem runes_any (p g : Nat) (n cap : Nat) (w : World) (hc : w.cell? ⟨p, 0, none⟩ = some (.slice (some ⟨g, 0, none⟩) n cap)) :
    Calls Try.prog 65 #[.pointer (some ⟨p, 0, none⟩)] w fun e w' => e = .returned (.slice (some ⟨g, 0, none⟩) n cap) ∧ w = w' := by
  go_enter Try.func65, Try.ntmps65
  go_wp2
  go_ret
  exact ⟨rfl, rfl⟩

theorem quiet_add_same {P : Program} {f : FuncId} {args : Array Value} {w : World} {a n : Nat} {v : Value}
    (h : Calls P f args (w.drewN (a + n)) fun e w' => e = .returned v ∧ w' = w.drewN (a + n)) :
    Calls P f args (w.drewN (a + n)) fun e w'' => e = .returned v ∧ ∃ m, w'' = w.drewN (a + m) :=
  h.mono fun _ _ ⟨he, hm⟩ => ⟨he, n, hm⟩

/-! ### how numbers, and lists of them, are compared -/
def c3 (a b : Int) : Int := if a < b then -1 else if b < a then 1 else 0
theorem c3_lt {a b : Int} (h : a < b) : c3 a b = -1 := if_pos h
theorem c3_gt {a b : Int} (h : b < a) : c3 a b = 1 := by unfold c3; rw [if_neg (by omega), if_pos h]
theorem c3_eq {a b : Int} (h : a = b) : c3 a b = 0 := by unfold c3; rw [if_neg (by omega), if_neg (by omega)]
theorem rcmp_any (a b : Int) (w : World) : Calls Try.prog 28 #[.int .i32 a, .int .i32 b] w fun e w' => e = .returned (.int .i64 (c3 a b)) ∧ w' = w := by
  rcases Int.lt_trichotomy a b with h | h | h
  · go_enter Try.func28, Try.ntmps28
    go_wp2
    go_ret
    exact ⟨ret_int (c3_lt h).symm, rfl⟩
  · subst h
    go_enter Try.func28, Try.ntmps28
    go_wp2
    go_ret
    exact ⟨ret_int (c3_eq rfl).symm, rfl⟩
  · go_enter Try.func28, Try.ntmps28
    go_wp2
    go_ret
    exact ⟨ret_int (c3_gt h).symm, rfl⟩
theorem icmp_any (a b : Int) (w : World) : Calls Try.prog 29 #[.int .i64 a, .int .i64 b] w fun e w' => e = .returned (.int .i64 (c3 a b)) ∧ w = w' := by
  rcases Int.lt_trichotomy a b with h | h | h
  · go_enter Try.func29, Try.ntmps29
    go_wp2
    go_ret
    exact ⟨ret_int (c3_lt h).symm, rfl⟩
  · subst h
    go_enter Try.func29, Try.ntmps29
    go_wp2
    go_ret
    exact ⟨ret_int (c3_eq rfl).symm, rfl⟩
  · go_enter Try.func29, Try.ntmps29
    go_wp2
    go_ret
    exact ⟨ret_int (c3_gt h).symm, rfl⟩

def cmpL : List Nat → List Nat → Int
  | [], [] => 0
  | [], _ :: _ => -1
  | _ :: _, [] => 1
  | a :: x, b :: y => if a < b then -1 else if b < a then 1 else cmpL x y
/-- The first numbers are the same. -/
def Pre (x y : List Nat) (k : Nat) : Prop := ∀ j, j < k → rune x j = rune y j
theorem pre_zero (x y : List Nat) : Pre x y 0 := fun j h => absurd h (by omega)
theorem pre_succ {x y : List Nat} {k : Nat} (h : Pre x y k) (e : rune x k = rune y k) : Pre x y (k + 1) := fun j hj => by
  by_cases ej : j = k
  · subst ej; exact e
  · exact h j (by omega)
theorem rune_cons (a : Nat) (x : List Nat) (j : Nat) : rune (a :: x) (j + 1) = rune x j := rfl
theorem cmp_diff : ∀ {x y : List Nat} {k : Nat}, k < x.length → k < y.length → Pre x y k → rune x k ≠ rune y k → cmpL x y = c3 (rune x k) (rune y k)
  | [], _, _, h, _, _, _ => absurd h (by simp)
  | _ :: _, [], _, _, h, _, _ => absurd h (by simp)
  | a :: x, b :: y, 0, _, _, _, hne => by
    have ha : rune (a :: x) 0 = (a : Int) := rfl
    have hb : rune (b :: y) 0 = (b : Int) := rfl
    rw [ha, hb] at hne ⊢
    unfold cmpL c3
    by_cases h : a < b
    · rw [if_pos h, if_pos (by omega)]
    · rw [if_neg h, if_pos (by omega), if_neg (by omega), if_pos (by omega)]
  | a :: x, b :: y, k + 1, h1, h2, hp, hne => by
    have h0 : (a : Int) = b := hp 0 (by omega)
    unfold cmpL
    rw [if_neg (by omega), if_neg (by omega)]
    exact cmp_diff (x := x) (y := y) (k := k) (by simpa using h1) (by simpa using h2) (fun j hj => hp (j + 1) (by omega)) hne
theorem cmp_short : ∀ {x y : List Nat}, Pre x y (min x.length y.length) → cmpL x y = c3 x.length y.length
  | [], [], _ => rfl
  | [], b :: y, _ => by unfold cmpL; rw [c3_lt (by simp only [List.length_nil, List.length_cons]; omega)]
  | a :: x, [], _ => by unfold cmpL; rw [c3_gt (by simp only [List.length_nil, List.length_cons]; omega)]
  | a :: x, b :: y, hp => by
    have h0 : (a : Int) = b := hp 0 (by simp only [List.length_cons]; omega)
    unfold cmpL
    rw [if_neg (show ¬ a < b by omega), if_neg (show ¬ b < a by omega), cmp_short (x := x) (y := y) (fun j hj => hp (j + 1) (by simp only [List.length_cons]; omega))]
    unfold c3
    simp only [List.length_cons]
    repeat' split
    all_goals omega
theorem same_of_pre {x y : List Nat} (hl : x.length = y.length) (h : Pre x y x.length) : x = y := by
  apply List.ext_getElem hl
  intro j h1 h2
  have := h j h1
  simp only [rune, List.getD_eq_getElem?_getD, List.getElem?_eq_getElem h1, List.getElem?_eq_getElem h2, Option.getD_some] at this
  omega

set_option maxHeartbeats 1000000 in
set_option maxRecDepth 100000 in
theorem cmp_any (a b : Value) (x y : List Nat) (w : World) (hx : x.length ≤ 10000) (hy : y.length ≤ 10000) (ha : Flat w a x) (hb : Flat w b y) :
    Calls Try.prog 20 #[a, b] w fun e w' => e = .returned (.int .i64 (cmpL x y)) ∧ ∃ n, w' = w.drewN n := by
  obtain ⟨p, g, cap, rfl, hp, hg, hc, hl, hr⟩ := ha
  obtain ⟨p', g', cap', rfl, hp', hg', hc', hl', hr'⟩ := hb
  have HR := Lib.hid hr
  have HR' := Lib.hid hr'
  clear hr hr'
  by_cases hlen : x.length < y.length
  · have hd : decide (x.length < y.length) = true := decide_eq_true hlen
    go_enter Try.func20, Try.ntmps20
    go_wp2_with fail
    rw [runes_meth _ _ _ (by kernel_rfl)]
    go_wp2_with (go_at_call 65; refine (runes_any _ _ _ _ _ hc).mono ?_; rintro e w' ⟨rfl, rfl⟩)
    rw [runes_meth _ _ _ (by kernel_rfl)]
    go_wp2_with (go_at_call 65; refine (runes_any _ _ _ _ _ hc').mono ?_; rintro e w' ⟨rfl, rfl⟩)
    clear hc hc'
    go_loopw [8] (fun i wr => ∃ k n : Nat, k ≤ x.length ∧ i = .int .i64 k ∧ Pre x y k ∧ wr = w.drewN n) (fun i _ => x.length - (intOf i).toNat)
    case atStart => exact ⟨0, 0, by omega, rfl, pre_zero x y, rfl⟩
    case round =>
      obtain ⟨k, n, hk, rfl, hu, rfl⟩ := hrel
      have Hu := Lib.hid hu
      clear hu
      by_cases hlt : k < x.length
      · have hc1 := HR.out k hlt
        have hc2 := HR'.out k (by omega)
        have hk2 : k < y.length := by omega
        by_cases he : rune x k = rune y k
        · have hq : (rune x k != rune y k) = false := by simp [he]
          have He := Lib.hid he
          clear he
          go_wp2
          go_quiet (fail)
          go_wp2
          go_roundw
          case rel => exact ⟨k + 1, _, by omega, by go_num, pre_succ Hu.out He.out, rfl⟩
          case measure => simp [intOf]; omega
        · have hq : (rune x k != rune y k) = true := by simp [he]
          have He := Lib.hid he
          have Hd := Lib.hid (cmp_diff hlt hk2 Hu.out he)
          clear he
          go_wp2
          go_quiet (fail)
          go_wp2
          go_quiet ((go_at_call 28; first | exact quiet_add_same (rcmp_any _ _ _) | exact Calls.quiet_of_same (rcmp_any _ _ _)))
          go_wp2
          go_ret
          refine ⟨ret_int Hd.out.symm, ?_⟩
          simp only [World.drewN_drewN]
          exact ⟨_, rfl⟩
      · have hke : k = x.length := by omega
        have Hd := Lib.hid (cmp_short (x := x) (y := y) (by have := Hu.out; rw [hke] at this; rwa [show min x.length y.length = x.length by omega]))
        clear hke
        go_wp2_with (go_at_call 29; refine (icmp_any _ _ _).mono ?_; rintro e w' ⟨rfl, rfl⟩)
        go_ret
        exact ⟨ret_int Hd.out.symm, _, rfl⟩
  · have hd : decide (x.length < y.length) = false := decide_eq_false hlen
    go_enter Try.func20, Try.ntmps20
    go_wp2_with fail
    rw [runes_meth _ _ _ (by kernel_rfl)]
    go_wp2_with (go_at_call 65; refine (runes_any _ _ _ _ _ hc).mono ?_; rintro e w' ⟨rfl, rfl⟩)
    rw [runes_meth _ _ _ (by kernel_rfl)]
    go_wp2_with (go_at_call 65; refine (runes_any _ _ _ _ _ hc').mono ?_; rintro e w' ⟨rfl, rfl⟩)
    clear hc hc'
    go_loopw [8] (fun i wr => ∃ k n : Nat, k ≤ y.length ∧ i = .int .i64 k ∧ Pre x y k ∧ wr = w.drewN n) (fun i _ => y.length - (intOf i).toNat)
    case atStart => exact ⟨0, 0, by omega, rfl, pre_zero x y, rfl⟩
    case round =>
      obtain ⟨k, n, hk, rfl, hu, rfl⟩ := hrel
      have Hu := Lib.hid hu
      clear hu
      by_cases hlt' : k < y.length
      · have hlt : k < x.length := by omega
        have hc1 := HR.out k hlt
        have hc2 := HR'.out k (by omega)
        have hk2 : k < y.length := by omega
        by_cases he : rune x k = rune y k
        · have hq : (rune x k != rune y k) = false := by simp [he]
          have He := Lib.hid he
          clear he
          go_wp2
          go_quiet (fail)
          go_wp2
          go_roundw
          case rel => exact ⟨k + 1, _, by omega, by go_num, pre_succ Hu.out He.out, rfl⟩
          case measure => simp [intOf]; omega
        · have hq : (rune x k != rune y k) = true := by simp [he]
          have He := Lib.hid he
          have Hd := Lib.hid (cmp_diff hlt hk2 Hu.out he)
          clear he
          go_wp2
          go_quiet (fail)
          go_wp2
          go_quiet ((go_at_call 28; first | exact quiet_add_same (rcmp_any _ _ _) | exact Calls.quiet_of_same (rcmp_any _ _ _)))
          go_wp2
          go_ret
          refine ⟨ret_int Hd.out.symm, ?_⟩
          simp only [World.drewN_drewN]
          exact ⟨_, rfl⟩
      · have hke : k = y.length := by omega
        have Hd := Lib.hid (cmp_short (x := x) (y := y) (by have := Hu.out; rw [hke] at this; rwa [show min x.length y.length = y.length by omega]))
        clear hke
        go_wp2_with (go_at_call 29; refine (icmp_any _ _ _).mono ?_; rintro e w' ⟨rfl, rfl⟩)
        go_ret
        exact ⟨ret_int Hd.out.symm, _, rfl⟩

set_option maxHeartbeats 1000000 in
set_option maxRecDepth 100000 in
theorem eq_any (a b : Value) (x y : List Nat) (w : World) (hx : x.length ≤ 10000) (hy : y.length ≤ 10000) (ha : Flat w a x) (hb : Flat w b y) :
    Calls Try.prog 22 #[a, b] w fun e w' => e = .returned (.bool (decide (x = y))) ∧ ∃ n, w' = w.drewN n := by
  obtain ⟨p, g, cap, rfl, hp, hg, hc, hl, hr⟩ := ha
  obtain ⟨p', g', cap', rfl, hp', hg', hc', hl', hr'⟩ := hb
  have HR := Lib.hid hr
  have HR' := Lib.hid hr'
  clear hr hr'
  by_cases hlen : x.length = y.length
  · have hd : ((x.length : Int) != (y.length : Int)) = false := by rw [hlen]; simp
    have Hl := Lib.hid hlen
    have hle1 : x.length ≤ y.length := by omega
    clear hlen
    go_enter Try.func22, Try.ntmps22
    go_wp2_with fail
    rw [runes_meth _ _ _ (by kernel_rfl)]
    go_wp2_with (go_at_call 65; refine (runes_any _ _ _ _ _ hc).mono ?_; rintro e w' ⟨rfl, rfl⟩)
    rw [runes_meth _ _ _ (by kernel_rfl)]
    go_wp2_with (go_at_call 65; refine (runes_any _ _ _ _ _ hc').mono ?_; rintro e w' ⟨rfl, rfl⟩)
    clear hc hc'
    go_loopw [7] (fun i wr => ∃ k n : Nat, k ≤ x.length ∧ i = .int .i64 k ∧ Pre x y k ∧ wr = w.drewN n) (fun i _ => x.length - (intOf i).toNat)
    case atStart => exact ⟨0, 0, by omega, rfl, pre_zero x y, rfl⟩
    case round =>
      obtain ⟨k, n, hk, rfl, hu, rfl⟩ := hrel
      have Hu := Lib.hid hu
      clear hu
      by_cases hlt : k < x.length
      · have hc1 := HR.out k hlt
        have hc2 := HR'.out k (by omega)
        have hk2 : k < y.length := by omega
        by_cases he : rune x k = rune y k
        · have hq : (rune x k != rune y k) = false := by simp [he]
          have He := Lib.hid he
          clear he
          go_wp2
          go_quiet (fail)
          go_wp2
          go_roundw
          case rel => exact ⟨k + 1, _, by omega, by go_num, pre_succ Hu.out He.out, rfl⟩
          case measure => simp [intOf]; omega
        · have hq : (rune x k != rune y k) = true := by simp [he]
          have Hd : Hid (decide (x = y) = false) := Lib.hid (decide_eq_false (fun e => he (by rw [e])))
          clear he
          go_wp2
          go_quiet (fail)
          go_wp2
          go_ret
          refine ⟨ret_bool Hd.out.symm, ?_⟩
          simp only [World.drewN_drewN]
          exact ⟨_, rfl⟩
      · have hke : k = x.length := by omega
        have Hd : Hid (decide (x = y) = true) := Lib.hid (decide_eq_true (same_of_pre Hl.out (by have := Hu.out; rwa [hke] at this)))
        clear hke
        go_wp2
        go_ret
        exact ⟨ret_bool Hd.out.symm, _, rfl⟩
  · have hd : ((x.length : Int) != (y.length : Int)) = true := bne_iff_ne.2 (by omega)
    have Hd : Hid (decide (x = y) = false) := Lib.hid (decide_eq_false (fun e => hlen (by rw [e])))
    clear hlen
    go_enter Try.func22, Try.ntmps22
    go_wp2_with fail
    rw [runes_meth _ _ _ (by kernel_rfl)]
    go_wp2_with (go_at_call 65; refine (runes_any _ _ _ _ _ hc).mono ?_; rintro e w' ⟨rfl, rfl⟩)
    rw [runes_meth _ _ _ (by kernel_rfl)]
    go_wp2_with (go_at_call 65; refine (runes_any _ _ _ _ _ hc').mono ?_; rintro e w' ⟨rfl, rfl⟩)
    go_ret
    exact ⟨ret_bool Hd.out.symm, 0, rfl⟩

set_option maxHeartbeats 1000000 in
set_option maxRecDepth 100000 in
theorem units_cmp (B B' : Nat) (a b : Value) (x y : List Nat) (w : World) (hx : x.length ≤ 10000) (hy : y.length ≤ 10000) (ha : Holds B w a x) (hb : Holds B' w b y) :
    Calls Try.prog 7 #[a, b] w fun e w' => e = .returned (.int .i64 (cmpL x y)) ∧ ∃ n, w' = w.drewN n := by
  obtain ⟨g, cap, rfl, ha⟩ := ha
  obtain ⟨g', cap', rfl, hb⟩ := hb
  have hr : ∀ j, j < x.length → w.cell? ⟨g, j, none⟩ = some (.int .i64 (rune x j)) := fun j hj => by
    rw [ha.cellAt j (by omega)]
    simp [ints, rune, hj]
  have hr' : ∀ j, j < y.length → w.cell? ⟨g', j, none⟩ = some (.int .i64 (rune y j)) := fun j hj => by
    rw [hb.cellAt j (by omega)]
    simp [ints, rune, hj]
  have HR := Lib.hid hr
  have HR' := Lib.hid hr'
  clear hr hr' ha hb
  go_enter Try.func7, Try.ntmps7
  go_wp2
  go_loopw [5] (fun i wr => ∃ k n : Nat, k ≤ x.length ∧ k ≤ y.length ∧ i = .int .i64 k ∧ Pre x y k ∧ wr = w.drewN n) (fun i _ => x.length - (intOf i).toNat)
  case atStart => exact ⟨0, 0, by omega, by omega, rfl, pre_zero x y, rfl⟩
  case round =>
    obtain ⟨k, n, hk, hk', rfl, hu, rfl⟩ := hrel
    have Hu := Lib.hid hu
    clear hu
    by_cases hlt : k < x.length
    · by_cases hlt' : k < y.length
      · have hc1 := HR.out k hlt
        have hc2 := HR'.out k hlt'
        by_cases h1 : rune x k < rune y k
        · have Hd := Lib.hid ((cmp_diff hlt hlt' Hu.out (by omega)).trans (c3_lt h1))
          go_wp2
          go_quiet (fail)
          go_wp2
          go_ret
          refine ⟨ret_int Hd.out.symm, ?_⟩
          simp only [World.drewN_drewN]
          exact ⟨_, rfl⟩
        · by_cases h2 : rune y k < rune x k
          · have Hd := Lib.hid ((cmp_diff hlt hlt' Hu.out (by omega)).trans (c3_gt h2))
            go_wp2
            go_quiet (fail)
            go_wp2
            go_quiet (fail)
            go_wp2
            go_ret
            refine ⟨ret_int Hd.out.symm, ?_⟩
            simp only [World.drewN_drewN]
            exact ⟨_, rfl⟩
          · have He : Hid (rune x k = rune y k) := Lib.hid (by omega)
            go_wp2
            go_quiet (fail)
            go_wp2
            go_quiet (fail)
            go_wp2
            go_roundw
            case rel =>
              refine ⟨k + 1, ?_⟩
              exact ⟨_, by omega, by omega, by go_num, pre_succ Hu.out He.out, rfl⟩
            case measure => simp [intOf]; omega
      · have Hd := Lib.hid ((cmp_short (x := x) (y := y) (by have := Hu.out; rwa [show k = min x.length y.length by omega] at this)).trans (c3_gt (by omega)))
        go_wp2
        go_ret
        exact ⟨ret_int Hd.out.symm, _, rfl⟩
    · by_cases hlt' : x.length < y.length
      · have Hd := Lib.hid ((cmp_short (x := x) (y := y) (by have := Hu.out; rwa [show k = min x.length y.length by omega] at this)).trans (c3_lt (by omega)))
        go_wp2
        go_ret
        exact ⟨ret_int Hd.out.symm, _, rfl⟩
      · have Hd := Lib.hid ((cmp_short (x := x) (y := y) (by have := Hu.out; rwa [show k = min x.length y.length by omega] at this)).trans (c3_eq (by omega)))
        go_wp2
        go_ret
        exact ⟨ret_int Hd.out.symm, _, rfl⟩
end Go.Proofs.Ytohhcmcelofgeaa
