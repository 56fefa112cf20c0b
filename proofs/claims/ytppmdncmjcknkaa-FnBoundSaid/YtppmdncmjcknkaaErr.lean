/-
  Errors of an interpreter that is zero. Conditions: none.
-/
import Derived.Test.YtppmdncmjcknkaaBlk
import Derived.WalkKit
import Derived.WalkSpells
import Derived.WalkLawsBesides
import Derived.Lib.Hide
import Derived.Outline
namespace Go.Proofs.Ytppmdncmjcknkaa
open Go.RowKit
set_option linter.unusedVariables false
set_option linter.unusedSimpArgs false

/-- The zero interpreter lies there. -/
def Interp (w : World) (p : Nat) : Prop := p < w.heap.size ∧ w.cell? ⟨p, 5, none⟩ = some (.pointer none) ∧ w.cell? ⟨p, 7, none⟩ = some (.slice none 0 0)
theorem Interp.below {w w' : World} {p : Nat} (h : Interp w p) (hb : Below w.heap.size w w') : Interp w' p :=
  ⟨Nat.lt_of_lt_of_le h.1 hb.size, (hb.cell (p := ⟨p, 5, none⟩) h.1).trans h.2.1, (hb.cell (p := ⟨p, 7, none⟩) h.1).trans h.2.2⟩
set_option maxRecDepth 100000 in
theorem trace_any (p : Nat) (w : World) (h : Interp w p) : Calls Try.prog 49 #[.pointer (some ⟨p, 0, none⟩)] w fun e w' => e = .returned (.slice none 0 0) ∧ w = w' := by
  obtain ⟨hp, h5, h7⟩ := h
  go_enter Try.func49, Try.ntmps49
  go_wp2
  refine wp_loop_rounds 1 ?_
  rw [rounds_succ]
  go_wp2
  go_ret
  exact ⟨rfl, rfl⟩
set_option maxRecDepth 100000 in
theorem rterr_any (s : ByteArray) (w : World) : Calls Try.prog 48 #[.string s, .slice none 0 0] w fun e w' => e = .returned (.agg #[.string s, .slice none 0 0]) ∧ Below w.heap.size w w' := by
  go_enter Try.func48, Try.ntmps48
  go_wp2
  exact bodyPost_ret (v := .agg #[.string s, .slice none 0 0]) (by simp [results, Try.results48, go_sem]) rfl ⟨rfl, (Below.refl _ _).alloc (Nat.le_refl _) _⟩
set_option maxRecDepth 100000 in
theorem err_any (p : Nat) (s : ByteArray) (w : World) (h : Interp w p) : Calls Try.prog 35 #[.pointer (some ⟨p, 0, none⟩), .string s] w fun e w' => (∃ t u, e = .returned (.iface t u)) ∧ Below w.heap.size w w' := by
  go_enter Try.func35, Try.ntmps35
  go_wp2_with (first | (go_at_call 49; refine (trace_any _ _ h).mono ?_; rintro e w' ⟨rfl, rfl⟩) | (go_at_call 48; refine (rterr_any _ _).mono ?_; rintro e w' ⟨rfl, hb⟩))
  go_ret
  exact ⟨⟨_, _, rfl⟩, hb.alloc hb.size _⟩
end Go.Proofs.Ytppmdncmjcknkaa
