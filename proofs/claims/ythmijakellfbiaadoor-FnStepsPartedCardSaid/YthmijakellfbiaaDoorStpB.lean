/-
  Steps: how the law looks at what comes in (sizes; none takes out a field). Conditions: none.
-/
import Derived.Test.YthmijakellfbiaaDoorStpA
import Derived.WalkKit
import Derived.WalkSpells
import Derived.Lib.Hide
import Derived.Outline
import Derived.Deep.QuietTactic
import Derived.BigQuiet
import Derived.Deep.RegionHeld3
namespace Go.Proofs.YthmijakellfbiaaDoor
open Go.RowKit
set_option linter.unusedVariables false

theorem ret_bool {a b : Bool} (h : a = b) : Ending.returned (.bool a) = .returned (.bool b) := by rw [h]
theorem fits5 (A : Option Addr) (c : Nat) (ss : List ByteArray) (w : World) (h : Reads w w.heap.size 1 A ss.length (strs ss)) :
    Calls Tryd.prog 13 #[.slice A ss.length c] w fun e w' => (∃ b, e = .returned (.bool b)) ∧ w = w' := by
  by_cases hm : ss.length ≤ 2147483647
  · have hd : decide ((2147483647 : Int) < (ss.length : Nat)) = false := decide_eq_false (by omega)
    have HR := Lib.hid h
    clear h
    go_enter Tryd.func13, Tryd.ntmps13
    go_wp2
    go_loopw [10] (fun i wr => ∃ k : Nat, k ≤ ss.length ∧ i = .int .i64 k ∧ wr = w) (fun i _ => ss.length - (intOf i).toNat)
    case atStart => exact ⟨0, by omega, rfl, rfl⟩
    case round =>
      obtain ⟨k, hk, rfl, rfl⟩ := hrel
      by_cases hlt : k < ss.length
      · obtain ⟨ad, s, rfl, hb, hs, hc⟩ := HR.out.line hlt
        have Hs := Lib.hid hs
        clear hs
        by_cases hsz : s.size ≤ 2147483647
        · have hd2 : decide ((2147483647 : Int) < (s.size : Nat)) = false := decide_eq_false (by omega)
          go_wp2
          go_roundw
          case rel => exact ⟨k + 1, by omega, by go_num, by first | rfl | trivial⟩
          case measure => simp [intOf]; omega
        · have hd2 : decide ((2147483647 : Int) < (s.size : Nat)) = true := decide_eq_true (by omega)
          go_wp2
          go_ret
          exact ⟨⟨_, rfl⟩, by first | rfl | trivial⟩
      · go_wp2
        go_ret
        exact ⟨⟨_, rfl⟩, by first | rfl | trivial⟩
  · have hd : decide ((2147483647 : Int) < (ss.length : Nat)) = true := decide_eq_true (by omega)
    go_enter Tryd.func13, Tryd.ntmps13
    go_wp2
    go_ret
    exact ⟨⟨_, rfl⟩, by first | rfl | trivial⟩

def aggS (e : St) (u v : Value) : Value := .agg #[.bool e.is_, .string e.rem, u, v]

theorem fits12 (e : St) (u v : Value) (w : World) (h : Lines w u e.names) (hv : Ints w v e.hides) :
    Calls Tryd.prog 6 #[aggS e u v] w fun e w' => (∃ b, e = .returned (.bool b)) ∧ Below w.heap.size w w' := by
  obtain ⟨A, c, rfl, hl, hr⟩ := h
  obtain ⟨A2, c2, rfl, hl2, hr2⟩ := hv
  have HR := Lib.hid hr
  clear hr hr2
  unfold aggS
  by_cases h1 : e.rem.size ≤ 2147483647
  · have d1 : decide ((2147483647 : Int) < (e.rem.size : Nat)) = false := decide_eq_false (by omega)
    have h2 : ∃ d, d = decide ((2147483647 : Int) < (e.hides.length : Nat)) := ⟨_, rfl⟩
    obtain ⟨d2, h2⟩ := h2
    have h3 := h2.symm
    clear h2
    go_enter Tryd.func6, Tryd.ntmps6
    go_wp2_with fail
    go_at_call 13
    refine (fits5 A c e.names _ ?_).mono ?_
    · exact (HR.out.below ((Below.refl _ _).alloc (Nat.le_refl _) _)).more (by simp)
    rintro e' w' ⟨⟨b, rfl⟩, rfl⟩
    cases b
    · go_wp2
      go_ret
      exact ⟨⟨_, rfl⟩, (Below.refl _ _).alloc (Nat.le_refl _) _⟩
    · cases d2
      all_goals
        go_wp2
        go_ret
        exact ⟨⟨_, rfl⟩, (Below.refl _ _).alloc (Nat.le_refl _) _⟩
  · have d1 : decide ((2147483647 : Int) < (e.rem.size : Nat)) = true := decide_eq_true (by omega)
    go_enter Tryd.func6, Tryd.ntmps6
    go_wp2
    go_ret
    exact ⟨⟨_, rfl⟩, (Below.refl _ _).alloc (Nat.le_refl _) _⟩

theorem fits11 (A : Option Addr) (c : Nat) (E : List St) (w : World) (h : Sts cellsS w A E) :
    Calls Tryd.prog 5 #[.slice A E.length c] w fun e w' => (∃ b, e = .returned (.bool b)) ∧ Below w.heap.size w w' := by
  by_cases hm : E.length ≤ 2147483647
  · have hd : decide ((2147483647 : Int) < (E.length : Nat)) = false := decide_eq_false (by omega)
    have HR := Lib.hid h
    clear h
    go_enter Tryd.func5, Tryd.ntmps5
    go_wp2
    go_loopw [10] (fun i wr => ∃ k : Nat, k ≤ E.length ∧ i = .int .i64 k ∧ Below w.heap.size w wr) (fun i _ => E.length - (intOf i).toNat)
    case atStart => exact ⟨0, by omega, rfl, Below.refl _ _⟩
    case round =>
      obtain ⟨k, hk, rfl, hbw⟩ := hrel
      by_cases hlt : k < E.length
      · obtain ⟨e, he⟩ : ∃ e, E[k]? = some e := ⟨_, List.getElem?_eq_getElem hlt⟩
        obtain ⟨ad, u, v, rfl, hb, hu, hv, hc⟩ := HR.out.below hbw k e he
        obtain ⟨h0, h1, h2, h3⟩ := four_of hc
        have Hu := Lib.hid hu
        have Hv := Lib.hid hv
        obtain ⟨A', c', rfl, -, -⟩ := hu
        obtain ⟨A2, c2, rfl, -, -⟩ := hv
        have hsz := hbw.size
        clear he hc
        go_wp2_with fail
        go_at_call 6
        refine (fits12 e (.slice A' e.names.length c') (.slice A2 e.hides.length c2) _ (Hu.out.below ((Below.refl _ _).alloc (Nat.le_refl _) _)) (Hv.out.below ((Below.refl _ _).alloc (Nat.le_refl _) _))).mono ?_
        rintro e' w' ⟨⟨b, rfl⟩, hb8⟩
        have hB := Lib.hid ((hbw.alloc hsz (.cells #[.bool e.is_, .string e.rem, .slice A' e.names.length c', .slice A2 e.hides.length c2] 26)).trans (hb8.mono (by simp; omega)))
        clear hb8
        cases b
        · go_wp2
          go_ret
          exact ⟨⟨_, rfl⟩, hB.out⟩
        · go_wp2
          go_roundw
          case rel => exact ⟨k + 1, by omega, by go_num, hB.out⟩
          case measure => simp [intOf]; omega
      · go_wp2
        go_ret
        exact ⟨⟨_, rfl⟩, hbw⟩
  · have hd : decide ((2147483647 : Int) < (E.length : Nat)) = true := decide_eq_true (by omega)
    go_enter Tryd.func5, Tryd.ntmps5
    go_wp2
    go_ret
    exact ⟨⟨_, rfl⟩, Below.refl _ _⟩
end Go.Proofs.YthmijakellfbiaaDoor
