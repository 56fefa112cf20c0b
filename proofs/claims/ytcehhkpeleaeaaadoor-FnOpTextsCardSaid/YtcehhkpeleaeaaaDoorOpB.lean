/-
  The operators' doors: OpText and OpOf. Conditions: the variable of the operators' texts holds them.
-/
import Derived.Test.YtcehhkpeleaeaaaDoorOpA
import Derived.WalkKit
import Derived.WalkSpells
import Derived.Lib.Hide
import Derived.Outline
import Derived.Lib.Strings
namespace Go.Proofs.YtcehhkpeleaeaaaDoor
open Go.RowKit

theorem ret_str {a b : ByteArray} (h : a = b) : Ending.returned (.string a) = .returned (.string b) := by rw [h]

/-- What BopMap tells. -/
def BopTo (s : ByteArray) (w : World) (e : Ending) (w' : World) : Prop :=
  w = w' ∧ ((place s = 0 ∧ e = .returned (.tuple #[.int .i64 0, .bool false])) ∨ (1 ≤ place s ∧ place s < 20 ∧ e = .returned (.tuple #[.int .i64 (bn (place s)), .bool true])))

def GoesTo (l : List UInt8) (c : Int) : Prop := 1 ≤ placeL l ∧ placeL l < 20 ∧ bn (placeL l) = c
theorem bop_close {s : ByteArray} {w : World} {l : List UInt8} {c : Int} (h : (s.toList == l) = true) (hl : GoesTo l c) : BopTo s w (.returned (.tuple #[.int .i64 c, .bool true])) w := by
  have e : place s = placeL l := by unfold place; rw [eq_of_beq h]
  obtain ⟨h1, h2, h3⟩ := hl
  exact ⟨rfl, .inr ⟨by omega, by omega, by rw [e, h3]⟩⟩
theorem mem_signs {s : ByteArray} (h : ¬ place s = 0) : s.toList ∈ signL := by
  unfold place placeL at h
  by_cases hm : s.toList ∈ signL
  · exact hm
  · rw [List.idxOf_eq_length hm] at h
    exact absurd rfl h

set_option maxHeartbeats 1000000 in
theorem bop_any (s : ByteArray) (w : World) : Calls Tryd.prog 10 #[.string s] w (BopTo s w) := by
  go_enter Tryd.func10, Tryd.ntmps10
  go_wp2
  all_goals go_ret2
  all_goals first
    | exact bop_close (by assumption) (by unfold GoesTo; decide)
    | skip
  refine ⟨rfl, .inl ⟨?_, rfl⟩⟩
  refine Classical.byContradiction fun h => ?_
  have hm := mem_signs h
  unfold signL at hm
  simp_all
  exact h (by unfold place; rw [hm]; decide)

theorem bop_no (s : ByteArray) (w : World) (h0 : place s = 0) : Calls Tryd.prog 10 #[.string s] w fun e w' => e = .returned (.tuple #[.int .i64 0, .bool false]) ∧ w = w' :=
  (bop_any s w).mono fun e w' ⟨hw, h⟩ => by
    rcases h with ⟨_, he⟩ | ⟨h1, _, _⟩
    · exact ⟨he, hw⟩
    · omega
theorem bop_yes (s : ByteArray) (w : World) (h0 : 1 ≤ place s) : Calls Tryd.prog 10 #[.string s] w fun e w' => e = .returned (.tuple #[.int .i64 (bn (place s)), .bool true]) ∧ place s < 20 ∧ w = w' :=
  (bop_any s w).mono fun e w' ⟨hw, h⟩ => by
    rcases h with ⟨h1, _⟩ | ⟨_, h2, he⟩
    · omega
    · exact ⟨he, h2, hw⟩

theorem opOf_no (s : ByteArray) (w : World) (h0 : place s = 0) : Calls Tryd.prog 6 #[.string s] w fun e w' => e = .returned (.tuple #[.int .i64 0, .bool false]) ∧ w = w' := by
  have H0 := Lib.hid h0
  clear h0
  go_enter Tryd.func6, Tryd.ntmps6
  go_wp2_with (go_at_call 10; refine (bop_no _ _ H0.out).mono ?_; rintro e w' ⟨rfl, rfl⟩)
  go_ret2
  exact ⟨rfl, rfl⟩
theorem opOf_yes (s : ByteArray) (w : World) (h0 : 1 ≤ place s) : Calls Tryd.prog 6 #[.string s] w fun e w' => e = .returned (.tuple #[.int .i64 (place s), .bool true]) ∧ Below w.heap.size w w' := by
  have H0 := Lib.hid h0
  clear h0
  go_enter Tryd.func6, Tryd.ntmps6
  go_wp2_with (first | (go_at_call 10; refine (bop_yes _ _ H0.out).mono ?_; rintro e w' ⟨rfl, h2, rfl⟩) | (go_at_call 11; refine (number_any _ H0.out h2 _).mono ?_; rintro e w' ⟨rfl, hb⟩))
  go_ret2
  exact ⟨rfl, hb⟩

/-! ### OpText -/
theorem bs_bn : ∀ k, 1 ≤ k → k < 20 → ∃ j : Nat, j < 19 ∧ bn k = (j : Int) ∧ bs j = sg k := by
  intro k h1 hk
  have h : ∀ k, k < 20 → 1 ≤ k → (bn k).toNat < 19 ∧ bn k = ((bn k).toNat : Int) ∧ bopL.getD (bn k).toNat [] = signL.getD k [] := by decide
  obtain ⟨a, b, c⟩ := h k hk h1
  exact ⟨_, a, b, by unfold bs sg; rw [c]⟩

/-- The variable of the operators' texts holds them. -/
def Laid (w : World) : Prop := ∃ b o : Nat, b < w.heap.size ∧ w.cell? ⟨0, 0, none⟩ = some (.slice (some ⟨b, o, none⟩) 19 19) ∧ ∀ k, k < 19 → w.cell? ⟨b, o + k, none⟩ = some (.string (bs k))
theorem Laid.below {w w' : World} (h : Laid w) (hb : Below w.heap.size w w') : Laid w' := by
  obtain ⟨b, o, h0, h1, h2⟩ := h
  exact ⟨b, o, Nat.lt_of_lt_of_le h0 hb.size, (hb.cell (p := ⟨0, 0, none⟩) (by show 0 < w.heap.size; omega)).trans h1, fun k hk => (hb.cell (p := ⟨b, o + k, none⟩) h0).trans (h2 k hk)⟩

theorem opText_yes (k : Nat) (h1 : 1 ≤ k) (hk : k < 20) (w : World) (hl : Laid w) : Calls Tryd.prog 5 #[.int .i64 k] w fun e w' => e = .returned (.string (sg k)) ∧ Below w.heap.size w w' := by
  obtain ⟨j, hj, e1, e2⟩ := bs_bn k h1 hk
  have E2 := Lib.hid e2
  have E1 := Lib.hid e1
  have HL := Lib.hid hl
  clear e1 e2 hl
  go_enter Tryd.func5, Tryd.ntmps5
  go_wp2_with (first | (go_at_call 8; refine (bin_yes k h1 hk _).mono ?_; rintro e w1 ⟨rfl, hb⟩; rw [E1.out]) | (go_at_call 9; obtain ⟨b, o, g0, g1, g2⟩ := HL.out.below hb; refine (text_any j hj _ ⟨b, o, none⟩ g1 (g2 j hj)).mono ?_; rintro e w2 ⟨rfl, rfl⟩; clear g1 g2))
  go_ret
  exact ⟨ret_str E2.out, hb⟩
theorem opText_no (k : Int) (h : k < 1 ∨ 20 ≤ k) (w : World) : Calls Tryd.prog 5 #[.int .i64 k] w fun e w' => e = .returned (.string ⟨#[]⟩) ∧ Below w.heap.size w w' := by
  have H := Lib.hid h
  clear h
  go_enter Tryd.func5, Tryd.ntmps5
  go_wp2_with (go_at_call 8; refine (bin_no k H.out _).mono ?_; rintro e w1 ⟨rfl, hb⟩)
  go_ret
  exact ⟨rfl, hb⟩
end Go.Proofs.YtcehhkpeleaeaaaDoor
