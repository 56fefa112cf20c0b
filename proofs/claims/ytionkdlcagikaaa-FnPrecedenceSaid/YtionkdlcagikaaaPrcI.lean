/-
  How close binary nodes bind. Conditions: none.
-/
import Derived.Test.YtionkdlcagikaaaPrcH
namespace Go.Proofs.Ytionkdlcagikaaa
open Go.RowKit
set_option linter.unusedVariables false
set_option linter.unusedSimpArgs false
set_option maxRecDepth 100000 in
theorem prec_bin (g : Nat) (i : Fin 19) (w : World) (h : w.cell? ⟨g, 12, none⟩ = some (.int .i64 (i.val : Int))) : Calls Try.prog 10 #[.iface 53 (.pointer (some ⟨g, 0, none⟩))] w fun e w' => e = .returned (.int .i64 ((bopTab[i.val]! : Nat) : Int)) ∧ w = w' := by
  have hApply : ∀ w, (Instr.typeAssert (.iface 53 (.pointer (some ⟨g, 0, none⟩))) 34 47 true).run Try.prog w = .ok (.tuple #[.pointer none, .bool false]) w := fun _ => by kernel_rfl
  have hApplyBrace : ∀ w, (Instr.typeAssert (.iface 53 (.pointer (some ⟨g, 0, none⟩))) 34 48 true).run Try.prog w = .ok (.tuple #[.pointer none, .bool false]) w := fun _ => by kernel_rfl
  have hIndex : ∀ w, (Instr.typeAssert (.iface 53 (.pointer (some ⟨g, 0, none⟩))) 34 49 true).run Try.prog w = .ok (.tuple #[.pointer none, .bool false]) w := fun _ => by kernel_rfl
  have hSuperIndex : ∀ w, (Instr.typeAssert (.iface 53 (.pointer (some ⟨g, 0, none⟩))) 34 50 true).run Try.prog w = .ok (.tuple #[.pointer none, .bool false]) w := fun _ => by kernel_rfl
  have hSlice : ∀ w, (Instr.typeAssert (.iface 53 (.pointer (some ⟨g, 0, none⟩))) 34 51 true).run Try.prog w = .ok (.tuple #[.pointer none, .bool false]) w := fun _ => by kernel_rfl
  have hUnary : ∀ w, (Instr.typeAssert (.iface 53 (.pointer (some ⟨g, 0, none⟩))) 34 52 true).run Try.prog w = .ok (.tuple #[.pointer none, .bool false]) w := fun _ => by kernel_rfl
  have hBinary : ∀ w, (Instr.typeAssert (.iface 53 (.pointer (some ⟨g, 0, none⟩))) 34 53 true).run Try.prog w = .ok (.tuple #[.pointer (some ⟨g, 0, none⟩), .bool true]) w := fun _ => by kernel_rfl
  have HI := Lib.hid (bop_any i w)
  generalize ((bopTab[i.val]! : Nat) : Int) = v at HI ⊢
  go_enter Try.func10, Try.ntmps10
  go_wp2_with fail
  go_at_call 13
  refine HI.out.mono ?_
  rintro e w' ⟨rfl, rfl⟩
  go_wp2
  go_ret
  exact ⟨rfl, rfl⟩
end Go.Proofs.Ytionkdlcagikaaa
