/-
  How close nodes bind. Conditions: none.
-/
import Derived.Test.YtionkdlcagikaaaPrcG
namespace Go.Proofs.Ytionkdlcagikaaa
open Go.RowKit
set_option linter.unusedVariables false
set_option linter.unusedSimpArgs false

def bopTab : List Nat := [5, 5, 5, 6, 6, 7, 7, 8, 8, 8, 8, 8, 9, 9, 10, 11, 12, 13, 14]
set_option maxRecDepth 100000 in
theorem bop_any (i : Fin 19) (w : World) : Calls Try.prog 13 #[.int .i64 (i.val : Int)] w fun e w' => e = .returned (.int .i64 ((bopTab[i.val]! : Nat) : Int)) ∧ w = w' := by
  obtain ⟨i, hi⟩ := i
  match i, hi with
  | 0, _ =>
    show Calls Try.prog 13 #[.int .i64 0] w _
    go_enter Try.func13, Try.ntmps13
    go_wp2
    go_ret
    exact ⟨rfl, rfl⟩
  | 1, _ =>
    show Calls Try.prog 13 #[.int .i64 1] w _
    go_enter Try.func13, Try.ntmps13
    go_wp2
    go_ret
    exact ⟨rfl, rfl⟩
  | 2, _ =>
    show Calls Try.prog 13 #[.int .i64 2] w _
    go_enter Try.func13, Try.ntmps13
    go_wp2
    go_ret
    exact ⟨rfl, rfl⟩
  | 3, _ =>
    show Calls Try.prog 13 #[.int .i64 3] w _
    go_enter Try.func13, Try.ntmps13
    go_wp2
    go_ret
    exact ⟨rfl, rfl⟩
  | 4, _ =>
    show Calls Try.prog 13 #[.int .i64 4] w _
    go_enter Try.func13, Try.ntmps13
    go_wp2
    go_ret
    exact ⟨rfl, rfl⟩
  | 5, _ =>
    show Calls Try.prog 13 #[.int .i64 5] w _
    go_enter Try.func13, Try.ntmps13
    go_wp2
    go_ret
    exact ⟨rfl, rfl⟩
  | 6, _ =>
    show Calls Try.prog 13 #[.int .i64 6] w _
    go_enter Try.func13, Try.ntmps13
    go_wp2
    go_ret
    exact ⟨rfl, rfl⟩
  | 7, _ =>
    show Calls Try.prog 13 #[.int .i64 7] w _
    go_enter Try.func13, Try.ntmps13
    go_wp2
    go_ret
    exact ⟨rfl, rfl⟩
  | 8, _ =>
    show Calls Try.prog 13 #[.int .i64 8] w _
    go_enter Try.func13, Try.ntmps13
    go_wp2
    go_ret
    exact ⟨rfl, rfl⟩
  | 9, _ =>
    show Calls Try.prog 13 #[.int .i64 9] w _
    go_enter Try.func13, Try.ntmps13
    go_wp2
    go_ret
    exact ⟨rfl, rfl⟩
  | 10, _ =>
    show Calls Try.prog 13 #[.int .i64 10] w _
    go_enter Try.func13, Try.ntmps13
    go_wp2
    go_ret
    exact ⟨rfl, rfl⟩
  | 11, _ =>
    show Calls Try.prog 13 #[.int .i64 11] w _
    go_enter Try.func13, Try.ntmps13
    go_wp2
    go_ret
    exact ⟨rfl, rfl⟩
  | 12, _ =>
    show Calls Try.prog 13 #[.int .i64 12] w _
    go_enter Try.func13, Try.ntmps13
    go_wp2
    go_ret
    exact ⟨rfl, rfl⟩
  | 13, _ =>
    show Calls Try.prog 13 #[.int .i64 13] w _
    go_enter Try.func13, Try.ntmps13
    go_wp2
    go_ret
    exact ⟨rfl, rfl⟩
  | 14, _ =>
    show Calls Try.prog 13 #[.int .i64 14] w _
    go_enter Try.func13, Try.ntmps13
    go_wp2
    go_ret
    exact ⟨rfl, rfl⟩
  | 15, _ =>
    show Calls Try.prog 13 #[.int .i64 15] w _
    go_enter Try.func13, Try.ntmps13
    go_wp2
    go_ret
    exact ⟨rfl, rfl⟩
  | 16, _ =>
    show Calls Try.prog 13 #[.int .i64 16] w _
    go_enter Try.func13, Try.ntmps13
    go_wp2
    go_ret
    exact ⟨rfl, rfl⟩
  | 17, _ =>
    show Calls Try.prog 13 #[.int .i64 17] w _
    go_enter Try.func13, Try.ntmps13
    go_wp2
    go_ret
    exact ⟨rfl, rfl⟩
  | 18, _ =>
    show Calls Try.prog 13 #[.int .i64 18] w _
    go_enter Try.func13, Try.ntmps13
    go_wp2
    go_ret
    exact ⟨rfl, rfl⟩
  | n + 19, h => exact absurd h (by omega)
set_option maxRecDepth 100000 in
theorem prec_num (g : Nat) (w : World) : Calls Try.prog 10 #[.iface 90 (.pointer (some ⟨g, 0, none⟩))] w fun e w' => e = .returned (.int .i64 1) ∧ w = w' := by
  have hApply : ∀ w, (Instr.typeAssert (.iface 90 (.pointer (some ⟨g, 0, none⟩))) 34 47 true).run Try.prog w = .ok (.tuple #[.pointer none, .bool false]) w := fun _ => by kernel_rfl
  have hApplyBrace : ∀ w, (Instr.typeAssert (.iface 90 (.pointer (some ⟨g, 0, none⟩))) 34 48 true).run Try.prog w = .ok (.tuple #[.pointer none, .bool false]) w := fun _ => by kernel_rfl
  have hIndex : ∀ w, (Instr.typeAssert (.iface 90 (.pointer (some ⟨g, 0, none⟩))) 34 49 true).run Try.prog w = .ok (.tuple #[.pointer none, .bool false]) w := fun _ => by kernel_rfl
  have hSuperIndex : ∀ w, (Instr.typeAssert (.iface 90 (.pointer (some ⟨g, 0, none⟩))) 34 50 true).run Try.prog w = .ok (.tuple #[.pointer none, .bool false]) w := fun _ => by kernel_rfl
  have hSlice : ∀ w, (Instr.typeAssert (.iface 90 (.pointer (some ⟨g, 0, none⟩))) 34 51 true).run Try.prog w = .ok (.tuple #[.pointer none, .bool false]) w := fun _ => by kernel_rfl
  have hUnary : ∀ w, (Instr.typeAssert (.iface 90 (.pointer (some ⟨g, 0, none⟩))) 34 52 true).run Try.prog w = .ok (.tuple #[.pointer none, .bool false]) w := fun _ => by kernel_rfl
  have hBinary : ∀ w, (Instr.typeAssert (.iface 90 (.pointer (some ⟨g, 0, none⟩))) 34 53 true).run Try.prog w = .ok (.tuple #[.pointer none, .bool false]) w := fun _ => by kernel_rfl
  have hInSuper : ∀ w, (Instr.typeAssert (.iface 90 (.pointer (some ⟨g, 0, none⟩))) 34 71 true).run Try.prog w = .ok (.tuple #[.pointer none, .bool false]) w := fun _ => by kernel_rfl
  have hLocal : ∀ w, (Instr.typeAssert (.iface 90 (.pointer (some ⟨g, 0, none⟩))) 34 72 true).run Try.prog w = .ok (.tuple #[.pointer none, .bool false]) w := fun _ => by kernel_rfl
  have hAssert : ∀ w, (Instr.typeAssert (.iface 90 (.pointer (some ⟨g, 0, none⟩))) 34 73 true).run Try.prog w = .ok (.tuple #[.pointer none, .bool false]) w := fun _ => by kernel_rfl
  have hError : ∀ w, (Instr.typeAssert (.iface 90 (.pointer (some ⟨g, 0, none⟩))) 34 74 true).run Try.prog w = .ok (.tuple #[.pointer none, .bool false]) w := fun _ => by kernel_rfl
  have hImport : ∀ w, (Instr.typeAssert (.iface 90 (.pointer (some ⟨g, 0, none⟩))) 34 75 true).run Try.prog w = .ok (.tuple #[.pointer none, .bool false]) w := fun _ => by kernel_rfl
  have hImportStr : ∀ w, (Instr.typeAssert (.iface 90 (.pointer (some ⟨g, 0, none⟩))) 34 76 true).run Try.prog w = .ok (.tuple #[.pointer none, .bool false]) w := fun _ => by kernel_rfl
  have hImportBin : ∀ w, (Instr.typeAssert (.iface 90 (.pointer (some ⟨g, 0, none⟩))) 34 77 true).run Try.prog w = .ok (.tuple #[.pointer none, .bool false]) w := fun _ => by kernel_rfl
  have hConditional : ∀ w, (Instr.typeAssert (.iface 90 (.pointer (some ⟨g, 0, none⟩))) 34 78 true).run Try.prog w = .ok (.tuple #[.pointer none, .bool false]) w := fun _ => by kernel_rfl
  go_enter Try.func10, Try.ntmps10
  go_wp2
  go_ret
  exact ⟨rfl, rfl⟩
set_option maxRecDepth 100000 in
theorem prec_var (g : Nat) (w : World) : Calls Try.prog 10 #[.iface 99 (.pointer (some ⟨g, 0, none⟩))] w fun e w' => e = .returned (.int .i64 1) ∧ w = w' := by
  have hApply : ∀ w, (Instr.typeAssert (.iface 99 (.pointer (some ⟨g, 0, none⟩))) 34 47 true).run Try.prog w = .ok (.tuple #[.pointer none, .bool false]) w := fun _ => by kernel_rfl
  have hApplyBrace : ∀ w, (Instr.typeAssert (.iface 99 (.pointer (some ⟨g, 0, none⟩))) 34 48 true).run Try.prog w = .ok (.tuple #[.pointer none, .bool false]) w := fun _ => by kernel_rfl
  have hIndex : ∀ w, (Instr.typeAssert (.iface 99 (.pointer (some ⟨g, 0, none⟩))) 34 49 true).run Try.prog w = .ok (.tuple #[.pointer none, .bool false]) w := fun _ => by kernel_rfl
  have hSuperIndex : ∀ w, (Instr.typeAssert (.iface 99 (.pointer (some ⟨g, 0, none⟩))) 34 50 true).run Try.prog w = .ok (.tuple #[.pointer none, .bool false]) w := fun _ => by kernel_rfl
  have hSlice : ∀ w, (Instr.typeAssert (.iface 99 (.pointer (some ⟨g, 0, none⟩))) 34 51 true).run Try.prog w = .ok (.tuple #[.pointer none, .bool false]) w := fun _ => by kernel_rfl
  have hUnary : ∀ w, (Instr.typeAssert (.iface 99 (.pointer (some ⟨g, 0, none⟩))) 34 52 true).run Try.prog w = .ok (.tuple #[.pointer none, .bool false]) w := fun _ => by kernel_rfl
  have hBinary : ∀ w, (Instr.typeAssert (.iface 99 (.pointer (some ⟨g, 0, none⟩))) 34 53 true).run Try.prog w = .ok (.tuple #[.pointer none, .bool false]) w := fun _ => by kernel_rfl
  have hInSuper : ∀ w, (Instr.typeAssert (.iface 99 (.pointer (some ⟨g, 0, none⟩))) 34 71 true).run Try.prog w = .ok (.tuple #[.pointer none, .bool false]) w := fun _ => by kernel_rfl
  have hLocal : ∀ w, (Instr.typeAssert (.iface 99 (.pointer (some ⟨g, 0, none⟩))) 34 72 true).run Try.prog w = .ok (.tuple #[.pointer none, .bool false]) w := fun _ => by kernel_rfl
  have hAssert : ∀ w, (Instr.typeAssert (.iface 99 (.pointer (some ⟨g, 0, none⟩))) 34 73 true).run Try.prog w = .ok (.tuple #[.pointer none, .bool false]) w := fun _ => by kernel_rfl
  have hError : ∀ w, (Instr.typeAssert (.iface 99 (.pointer (some ⟨g, 0, none⟩))) 34 74 true).run Try.prog w = .ok (.tuple #[.pointer none, .bool false]) w := fun _ => by kernel_rfl
  have hImport : ∀ w, (Instr.typeAssert (.iface 99 (.pointer (some ⟨g, 0, none⟩))) 34 75 true).run Try.prog w = .ok (.tuple #[.pointer none, .bool false]) w := fun _ => by kernel_rfl
  have hImportStr : ∀ w, (Instr.typeAssert (.iface 99 (.pointer (some ⟨g, 0, none⟩))) 34 76 true).run Try.prog w = .ok (.tuple #[.pointer none, .bool false]) w := fun _ => by kernel_rfl
  have hImportBin : ∀ w, (Instr.typeAssert (.iface 99 (.pointer (some ⟨g, 0, none⟩))) 34 77 true).run Try.prog w = .ok (.tuple #[.pointer none, .bool false]) w := fun _ => by kernel_rfl
  have hConditional : ∀ w, (Instr.typeAssert (.iface 99 (.pointer (some ⟨g, 0, none⟩))) 34 78 true).run Try.prog w = .ok (.tuple #[.pointer none, .bool false]) w := fun _ => by kernel_rfl
  go_enter Try.func10, Try.ntmps10
  go_wp2
  go_ret
  exact ⟨rfl, rfl⟩
set_option maxRecDepth 100000 in
theorem prec_str (g : Nat) (w : World) : Calls Try.prog 10 #[.iface 93 (.pointer (some ⟨g, 0, none⟩))] w fun e w' => e = .returned (.int .i64 1) ∧ w = w' := by
  have hApply : ∀ w, (Instr.typeAssert (.iface 93 (.pointer (some ⟨g, 0, none⟩))) 34 47 true).run Try.prog w = .ok (.tuple #[.pointer none, .bool false]) w := fun _ => by kernel_rfl
  have hApplyBrace : ∀ w, (Instr.typeAssert (.iface 93 (.pointer (some ⟨g, 0, none⟩))) 34 48 true).run Try.prog w = .ok (.tuple #[.pointer none, .bool false]) w := fun _ => by kernel_rfl
  have hIndex : ∀ w, (Instr.typeAssert (.iface 93 (.pointer (some ⟨g, 0, none⟩))) 34 49 true).run Try.prog w = .ok (.tuple #[.pointer none, .bool false]) w := fun _ => by kernel_rfl
  have hSuperIndex : ∀ w, (Instr.typeAssert (.iface 93 (.pointer (some ⟨g, 0, none⟩))) 34 50 true).run Try.prog w = .ok (.tuple #[.pointer none, .bool false]) w := fun _ => by kernel_rfl
  have hSlice : ∀ w, (Instr.typeAssert (.iface 93 (.pointer (some ⟨g, 0, none⟩))) 34 51 true).run Try.prog w = .ok (.tuple #[.pointer none, .bool false]) w := fun _ => by kernel_rfl
  have hUnary : ∀ w, (Instr.typeAssert (.iface 93 (.pointer (some ⟨g, 0, none⟩))) 34 52 true).run Try.prog w = .ok (.tuple #[.pointer none, .bool false]) w := fun _ => by kernel_rfl
  have hBinary : ∀ w, (Instr.typeAssert (.iface 93 (.pointer (some ⟨g, 0, none⟩))) 34 53 true).run Try.prog w = .ok (.tuple #[.pointer none, .bool false]) w := fun _ => by kernel_rfl
  have hInSuper : ∀ w, (Instr.typeAssert (.iface 93 (.pointer (some ⟨g, 0, none⟩))) 34 71 true).run Try.prog w = .ok (.tuple #[.pointer none, .bool false]) w := fun _ => by kernel_rfl
  have hLocal : ∀ w, (Instr.typeAssert (.iface 93 (.pointer (some ⟨g, 0, none⟩))) 34 72 true).run Try.prog w = .ok (.tuple #[.pointer none, .bool false]) w := fun _ => by kernel_rfl
  have hAssert : ∀ w, (Instr.typeAssert (.iface 93 (.pointer (some ⟨g, 0, none⟩))) 34 73 true).run Try.prog w = .ok (.tuple #[.pointer none, .bool false]) w := fun _ => by kernel_rfl
  have hError : ∀ w, (Instr.typeAssert (.iface 93 (.pointer (some ⟨g, 0, none⟩))) 34 74 true).run Try.prog w = .ok (.tuple #[.pointer none, .bool false]) w := fun _ => by kernel_rfl
  have hImport : ∀ w, (Instr.typeAssert (.iface 93 (.pointer (some ⟨g, 0, none⟩))) 34 75 true).run Try.prog w = .ok (.tuple #[.pointer none, .bool false]) w := fun _ => by kernel_rfl
  have hImportStr : ∀ w, (Instr.typeAssert (.iface 93 (.pointer (some ⟨g, 0, none⟩))) 34 76 true).run Try.prog w = .ok (.tuple #[.pointer none, .bool false]) w := fun _ => by kernel_rfl
  have hImportBin : ∀ w, (Instr.typeAssert (.iface 93 (.pointer (some ⟨g, 0, none⟩))) 34 77 true).run Try.prog w = .ok (.tuple #[.pointer none, .bool false]) w := fun _ => by kernel_rfl
  have hConditional : ∀ w, (Instr.typeAssert (.iface 93 (.pointer (some ⟨g, 0, none⟩))) 34 78 true).run Try.prog w = .ok (.tuple #[.pointer none, .bool false]) w := fun _ => by kernel_rfl
  go_enter Try.func10, Try.ntmps10
  go_wp2
  go_ret
  exact ⟨rfl, rfl⟩
set_option maxRecDepth 100000 in
theorem prec_self (g : Nat) (w : World) : Calls Try.prog 10 #[.iface 95 (.pointer (some ⟨g, 0, none⟩))] w fun e w' => e = .returned (.int .i64 1) ∧ w = w' := by
  have hApply : ∀ w, (Instr.typeAssert (.iface 95 (.pointer (some ⟨g, 0, none⟩))) 34 47 true).run Try.prog w = .ok (.tuple #[.pointer none, .bool false]) w := fun _ => by kernel_rfl
  have hApplyBrace : ∀ w, (Instr.typeAssert (.iface 95 (.pointer (some ⟨g, 0, none⟩))) 34 48 true).run Try.prog w = .ok (.tuple #[.pointer none, .bool false]) w := fun _ => by kernel_rfl
  have hIndex : ∀ w, (Instr.typeAssert (.iface 95 (.pointer (some ⟨g, 0, none⟩))) 34 49 true).run Try.prog w = .ok (.tuple #[.pointer none, .bool false]) w := fun _ => by kernel_rfl
  have hSuperIndex : ∀ w, (Instr.typeAssert (.iface 95 (.pointer (some ⟨g, 0, none⟩))) 34 50 true).run Try.prog w = .ok (.tuple #[.pointer none, .bool false]) w := fun _ => by kernel_rfl
  have hSlice : ∀ w, (Instr.typeAssert (.iface 95 (.pointer (some ⟨g, 0, none⟩))) 34 51 true).run Try.prog w = .ok (.tuple #[.pointer none, .bool false]) w := fun _ => by kernel_rfl
  have hUnary : ∀ w, (Instr.typeAssert (.iface 95 (.pointer (some ⟨g, 0, none⟩))) 34 52 true).run Try.prog w = .ok (.tuple #[.pointer none, .bool false]) w := fun _ => by kernel_rfl
  have hBinary : ∀ w, (Instr.typeAssert (.iface 95 (.pointer (some ⟨g, 0, none⟩))) 34 53 true).run Try.prog w = .ok (.tuple #[.pointer none, .bool false]) w := fun _ => by kernel_rfl
  have hInSuper : ∀ w, (Instr.typeAssert (.iface 95 (.pointer (some ⟨g, 0, none⟩))) 34 71 true).run Try.prog w = .ok (.tuple #[.pointer none, .bool false]) w := fun _ => by kernel_rfl
  have hLocal : ∀ w, (Instr.typeAssert (.iface 95 (.pointer (some ⟨g, 0, none⟩))) 34 72 true).run Try.prog w = .ok (.tuple #[.pointer none, .bool false]) w := fun _ => by kernel_rfl
  have hAssert : ∀ w, (Instr.typeAssert (.iface 95 (.pointer (some ⟨g, 0, none⟩))) 34 73 true).run Try.prog w = .ok (.tuple #[.pointer none, .bool false]) w := fun _ => by kernel_rfl
  have hError : ∀ w, (Instr.typeAssert (.iface 95 (.pointer (some ⟨g, 0, none⟩))) 34 74 true).run Try.prog w = .ok (.tuple #[.pointer none, .bool false]) w := fun _ => by kernel_rfl
  have hImport : ∀ w, (Instr.typeAssert (.iface 95 (.pointer (some ⟨g, 0, none⟩))) 34 75 true).run Try.prog w = .ok (.tuple #[.pointer none, .bool false]) w := fun _ => by kernel_rfl
  have hImportStr : ∀ w, (Instr.typeAssert (.iface 95 (.pointer (some ⟨g, 0, none⟩))) 34 76 true).run Try.prog w = .ok (.tuple #[.pointer none, .bool false]) w := fun _ => by kernel_rfl
  have hImportBin : ∀ w, (Instr.typeAssert (.iface 95 (.pointer (some ⟨g, 0, none⟩))) 34 77 true).run Try.prog w = .ok (.tuple #[.pointer none, .bool false]) w := fun _ => by kernel_rfl
  have hConditional : ∀ w, (Instr.typeAssert (.iface 95 (.pointer (some ⟨g, 0, none⟩))) 34 78 true).run Try.prog w = .ok (.tuple #[.pointer none, .bool false]) w := fun _ => by kernel_rfl
  go_enter Try.func10, Try.ntmps10
  go_wp2
  go_ret
  exact ⟨rfl, rfl⟩
set_option maxRecDepth 100000 in
theorem prec_parens (g : Nat) (w : World) : Calls Try.prog 10 #[.iface 156 (.pointer (some ⟨g, 0, none⟩))] w fun e w' => e = .returned (.int .i64 1) ∧ w = w' := by
  have hApply : ∀ w, (Instr.typeAssert (.iface 156 (.pointer (some ⟨g, 0, none⟩))) 34 47 true).run Try.prog w = .ok (.tuple #[.pointer none, .bool false]) w := fun _ => by kernel_rfl
  have hApplyBrace : ∀ w, (Instr.typeAssert (.iface 156 (.pointer (some ⟨g, 0, none⟩))) 34 48 true).run Try.prog w = .ok (.tuple #[.pointer none, .bool false]) w := fun _ => by kernel_rfl
  have hIndex : ∀ w, (Instr.typeAssert (.iface 156 (.pointer (some ⟨g, 0, none⟩))) 34 49 true).run Try.prog w = .ok (.tuple #[.pointer none, .bool false]) w := fun _ => by kernel_rfl
  have hSuperIndex : ∀ w, (Instr.typeAssert (.iface 156 (.pointer (some ⟨g, 0, none⟩))) 34 50 true).run Try.prog w = .ok (.tuple #[.pointer none, .bool false]) w := fun _ => by kernel_rfl
  have hSlice : ∀ w, (Instr.typeAssert (.iface 156 (.pointer (some ⟨g, 0, none⟩))) 34 51 true).run Try.prog w = .ok (.tuple #[.pointer none, .bool false]) w := fun _ => by kernel_rfl
  have hUnary : ∀ w, (Instr.typeAssert (.iface 156 (.pointer (some ⟨g, 0, none⟩))) 34 52 true).run Try.prog w = .ok (.tuple #[.pointer none, .bool false]) w := fun _ => by kernel_rfl
  have hBinary : ∀ w, (Instr.typeAssert (.iface 156 (.pointer (some ⟨g, 0, none⟩))) 34 53 true).run Try.prog w = .ok (.tuple #[.pointer none, .bool false]) w := fun _ => by kernel_rfl
  have hInSuper : ∀ w, (Instr.typeAssert (.iface 156 (.pointer (some ⟨g, 0, none⟩))) 34 71 true).run Try.prog w = .ok (.tuple #[.pointer none, .bool false]) w := fun _ => by kernel_rfl
  have hLocal : ∀ w, (Instr.typeAssert (.iface 156 (.pointer (some ⟨g, 0, none⟩))) 34 72 true).run Try.prog w = .ok (.tuple #[.pointer none, .bool false]) w := fun _ => by kernel_rfl
  have hAssert : ∀ w, (Instr.typeAssert (.iface 156 (.pointer (some ⟨g, 0, none⟩))) 34 73 true).run Try.prog w = .ok (.tuple #[.pointer none, .bool false]) w := fun _ => by kernel_rfl
  have hError : ∀ w, (Instr.typeAssert (.iface 156 (.pointer (some ⟨g, 0, none⟩))) 34 74 true).run Try.prog w = .ok (.tuple #[.pointer none, .bool false]) w := fun _ => by kernel_rfl
  have hImport : ∀ w, (Instr.typeAssert (.iface 156 (.pointer (some ⟨g, 0, none⟩))) 34 75 true).run Try.prog w = .ok (.tuple #[.pointer none, .bool false]) w := fun _ => by kernel_rfl
  have hImportStr : ∀ w, (Instr.typeAssert (.iface 156 (.pointer (some ⟨g, 0, none⟩))) 34 76 true).run Try.prog w = .ok (.tuple #[.pointer none, .bool false]) w := fun _ => by kernel_rfl
  have hImportBin : ∀ w, (Instr.typeAssert (.iface 156 (.pointer (some ⟨g, 0, none⟩))) 34 77 true).run Try.prog w = .ok (.tuple #[.pointer none, .bool false]) w := fun _ => by kernel_rfl
  have hConditional : ∀ w, (Instr.typeAssert (.iface 156 (.pointer (some ⟨g, 0, none⟩))) 34 78 true).run Try.prog w = .ok (.tuple #[.pointer none, .bool false]) w := fun _ => by kernel_rfl
  go_enter Try.func10, Try.ntmps10
  go_wp2
  go_ret
  exact ⟨rfl, rfl⟩
set_option maxRecDepth 100000 in
theorem prec_apply (g : Nat) (w : World) : Calls Try.prog 10 #[.iface 47 (.pointer (some ⟨g, 0, none⟩))] w fun e w' => e = .returned (.int .i64 2) ∧ w = w' := by
  have hApply : ∀ w, (Instr.typeAssert (.iface 47 (.pointer (some ⟨g, 0, none⟩))) 34 47 true).run Try.prog w = .ok (.tuple #[.pointer (some ⟨g, 0, none⟩), .bool true]) w := fun _ => by kernel_rfl
  have hApplyBrace : ∀ w, (Instr.typeAssert (.iface 47 (.pointer (some ⟨g, 0, none⟩))) 34 48 true).run Try.prog w = .ok (.tuple #[.pointer none, .bool false]) w := fun _ => by kernel_rfl
  have hIndex : ∀ w, (Instr.typeAssert (.iface 47 (.pointer (some ⟨g, 0, none⟩))) 34 49 true).run Try.prog w = .ok (.tuple #[.pointer none, .bool false]) w := fun _ => by kernel_rfl
  have hSuperIndex : ∀ w, (Instr.typeAssert (.iface 47 (.pointer (some ⟨g, 0, none⟩))) 34 50 true).run Try.prog w = .ok (.tuple #[.pointer none, .bool false]) w := fun _ => by kernel_rfl
  have hSlice : ∀ w, (Instr.typeAssert (.iface 47 (.pointer (some ⟨g, 0, none⟩))) 34 51 true).run Try.prog w = .ok (.tuple #[.pointer none, .bool false]) w := fun _ => by kernel_rfl
  have hUnary : ∀ w, (Instr.typeAssert (.iface 47 (.pointer (some ⟨g, 0, none⟩))) 34 52 true).run Try.prog w = .ok (.tuple #[.pointer none, .bool false]) w := fun _ => by kernel_rfl
  have hBinary : ∀ w, (Instr.typeAssert (.iface 47 (.pointer (some ⟨g, 0, none⟩))) 34 53 true).run Try.prog w = .ok (.tuple #[.pointer none, .bool false]) w := fun _ => by kernel_rfl
  have hInSuper : ∀ w, (Instr.typeAssert (.iface 47 (.pointer (some ⟨g, 0, none⟩))) 34 71 true).run Try.prog w = .ok (.tuple #[.pointer none, .bool false]) w := fun _ => by kernel_rfl
  have hLocal : ∀ w, (Instr.typeAssert (.iface 47 (.pointer (some ⟨g, 0, none⟩))) 34 72 true).run Try.prog w = .ok (.tuple #[.pointer none, .bool false]) w := fun _ => by kernel_rfl
  have hAssert : ∀ w, (Instr.typeAssert (.iface 47 (.pointer (some ⟨g, 0, none⟩))) 34 73 true).run Try.prog w = .ok (.tuple #[.pointer none, .bool false]) w := fun _ => by kernel_rfl
  have hError : ∀ w, (Instr.typeAssert (.iface 47 (.pointer (some ⟨g, 0, none⟩))) 34 74 true).run Try.prog w = .ok (.tuple #[.pointer none, .bool false]) w := fun _ => by kernel_rfl
  have hImport : ∀ w, (Instr.typeAssert (.iface 47 (.pointer (some ⟨g, 0, none⟩))) 34 75 true).run Try.prog w = .ok (.tuple #[.pointer none, .bool false]) w := fun _ => by kernel_rfl
  have hImportStr : ∀ w, (Instr.typeAssert (.iface 47 (.pointer (some ⟨g, 0, none⟩))) 34 76 true).run Try.prog w = .ok (.tuple #[.pointer none, .bool false]) w := fun _ => by kernel_rfl
  have hImportBin : ∀ w, (Instr.typeAssert (.iface 47 (.pointer (some ⟨g, 0, none⟩))) 34 77 true).run Try.prog w = .ok (.tuple #[.pointer none, .bool false]) w := fun _ => by kernel_rfl
  have hConditional : ∀ w, (Instr.typeAssert (.iface 47 (.pointer (some ⟨g, 0, none⟩))) 34 78 true).run Try.prog w = .ok (.tuple #[.pointer none, .bool false]) w := fun _ => by kernel_rfl
  go_enter Try.func10, Try.ntmps10
  go_wp2
  go_ret
  exact ⟨rfl, rfl⟩
set_option maxRecDepth 100000 in
theorem prec_index (g : Nat) (w : World) : Calls Try.prog 10 #[.iface 49 (.pointer (some ⟨g, 0, none⟩))] w fun e w' => e = .returned (.int .i64 2) ∧ w = w' := by
  have hApply : ∀ w, (Instr.typeAssert (.iface 49 (.pointer (some ⟨g, 0, none⟩))) 34 47 true).run Try.prog w = .ok (.tuple #[.pointer none, .bool false]) w := fun _ => by kernel_rfl
  have hApplyBrace : ∀ w, (Instr.typeAssert (.iface 49 (.pointer (some ⟨g, 0, none⟩))) 34 48 true).run Try.prog w = .ok (.tuple #[.pointer none, .bool false]) w := fun _ => by kernel_rfl
  have hIndex : ∀ w, (Instr.typeAssert (.iface 49 (.pointer (some ⟨g, 0, none⟩))) 34 49 true).run Try.prog w = .ok (.tuple #[.pointer (some ⟨g, 0, none⟩), .bool true]) w := fun _ => by kernel_rfl
  have hSuperIndex : ∀ w, (Instr.typeAssert (.iface 49 (.pointer (some ⟨g, 0, none⟩))) 34 50 true).run Try.prog w = .ok (.tuple #[.pointer none, .bool false]) w := fun _ => by kernel_rfl
  have hSlice : ∀ w, (Instr.typeAssert (.iface 49 (.pointer (some ⟨g, 0, none⟩))) 34 51 true).run Try.prog w = .ok (.tuple #[.pointer none, .bool false]) w := fun _ => by kernel_rfl
  have hUnary : ∀ w, (Instr.typeAssert (.iface 49 (.pointer (some ⟨g, 0, none⟩))) 34 52 true).run Try.prog w = .ok (.tuple #[.pointer none, .bool false]) w := fun _ => by kernel_rfl
  have hBinary : ∀ w, (Instr.typeAssert (.iface 49 (.pointer (some ⟨g, 0, none⟩))) 34 53 true).run Try.prog w = .ok (.tuple #[.pointer none, .bool false]) w := fun _ => by kernel_rfl
  have hInSuper : ∀ w, (Instr.typeAssert (.iface 49 (.pointer (some ⟨g, 0, none⟩))) 34 71 true).run Try.prog w = .ok (.tuple #[.pointer none, .bool false]) w := fun _ => by kernel_rfl
  have hLocal : ∀ w, (Instr.typeAssert (.iface 49 (.pointer (some ⟨g, 0, none⟩))) 34 72 true).run Try.prog w = .ok (.tuple #[.pointer none, .bool false]) w := fun _ => by kernel_rfl
  have hAssert : ∀ w, (Instr.typeAssert (.iface 49 (.pointer (some ⟨g, 0, none⟩))) 34 73 true).run Try.prog w = .ok (.tuple #[.pointer none, .bool false]) w := fun _ => by kernel_rfl
  have hError : ∀ w, (Instr.typeAssert (.iface 49 (.pointer (some ⟨g, 0, none⟩))) 34 74 true).run Try.prog w = .ok (.tuple #[.pointer none, .bool false]) w := fun _ => by kernel_rfl
  have hImport : ∀ w, (Instr.typeAssert (.iface 49 (.pointer (some ⟨g, 0, none⟩))) 34 75 true).run Try.prog w = .ok (.tuple #[.pointer none, .bool false]) w := fun _ => by kernel_rfl
  have hImportStr : ∀ w, (Instr.typeAssert (.iface 49 (.pointer (some ⟨g, 0, none⟩))) 34 76 true).run Try.prog w = .ok (.tuple #[.pointer none, .bool false]) w := fun _ => by kernel_rfl
  have hImportBin : ∀ w, (Instr.typeAssert (.iface 49 (.pointer (some ⟨g, 0, none⟩))) 34 77 true).run Try.prog w = .ok (.tuple #[.pointer none, .bool false]) w := fun _ => by kernel_rfl
  have hConditional : ∀ w, (Instr.typeAssert (.iface 49 (.pointer (some ⟨g, 0, none⟩))) 34 78 true).run Try.prog w = .ok (.tuple #[.pointer none, .bool false]) w := fun _ => by kernel_rfl
  go_enter Try.func10, Try.ntmps10
  go_wp2
  go_ret
  exact ⟨rfl, rfl⟩
set_option maxRecDepth 100000 in
theorem prec_unary (g : Nat) (w : World) : Calls Try.prog 10 #[.iface 52 (.pointer (some ⟨g, 0, none⟩))] w fun e w' => e = .returned (.int .i64 4) ∧ w = w' := by
  have hApply : ∀ w, (Instr.typeAssert (.iface 52 (.pointer (some ⟨g, 0, none⟩))) 34 47 true).run Try.prog w = .ok (.tuple #[.pointer none, .bool false]) w := fun _ => by kernel_rfl
  have hApplyBrace : ∀ w, (Instr.typeAssert (.iface 52 (.pointer (some ⟨g, 0, none⟩))) 34 48 true).run Try.prog w = .ok (.tuple #[.pointer none, .bool false]) w := fun _ => by kernel_rfl
  have hIndex : ∀ w, (Instr.typeAssert (.iface 52 (.pointer (some ⟨g, 0, none⟩))) 34 49 true).run Try.prog w = .ok (.tuple #[.pointer none, .bool false]) w := fun _ => by kernel_rfl
  have hSuperIndex : ∀ w, (Instr.typeAssert (.iface 52 (.pointer (some ⟨g, 0, none⟩))) 34 50 true).run Try.prog w = .ok (.tuple #[.pointer none, .bool false]) w := fun _ => by kernel_rfl
  have hSlice : ∀ w, (Instr.typeAssert (.iface 52 (.pointer (some ⟨g, 0, none⟩))) 34 51 true).run Try.prog w = .ok (.tuple #[.pointer none, .bool false]) w := fun _ => by kernel_rfl
  have hUnary : ∀ w, (Instr.typeAssert (.iface 52 (.pointer (some ⟨g, 0, none⟩))) 34 52 true).run Try.prog w = .ok (.tuple #[.pointer (some ⟨g, 0, none⟩), .bool true]) w := fun _ => by kernel_rfl
  have hBinary : ∀ w, (Instr.typeAssert (.iface 52 (.pointer (some ⟨g, 0, none⟩))) 34 53 true).run Try.prog w = .ok (.tuple #[.pointer none, .bool false]) w := fun _ => by kernel_rfl
  have hInSuper : ∀ w, (Instr.typeAssert (.iface 52 (.pointer (some ⟨g, 0, none⟩))) 34 71 true).run Try.prog w = .ok (.tuple #[.pointer none, .bool false]) w := fun _ => by kernel_rfl
  have hLocal : ∀ w, (Instr.typeAssert (.iface 52 (.pointer (some ⟨g, 0, none⟩))) 34 72 true).run Try.prog w = .ok (.tuple #[.pointer none, .bool false]) w := fun _ => by kernel_rfl
  have hAssert : ∀ w, (Instr.typeAssert (.iface 52 (.pointer (some ⟨g, 0, none⟩))) 34 73 true).run Try.prog w = .ok (.tuple #[.pointer none, .bool false]) w := fun _ => by kernel_rfl
  have hError : ∀ w, (Instr.typeAssert (.iface 52 (.pointer (some ⟨g, 0, none⟩))) 34 74 true).run Try.prog w = .ok (.tuple #[.pointer none, .bool false]) w := fun _ => by kernel_rfl
  have hImport : ∀ w, (Instr.typeAssert (.iface 52 (.pointer (some ⟨g, 0, none⟩))) 34 75 true).run Try.prog w = .ok (.tuple #[.pointer none, .bool false]) w := fun _ => by kernel_rfl
  have hImportStr : ∀ w, (Instr.typeAssert (.iface 52 (.pointer (some ⟨g, 0, none⟩))) 34 76 true).run Try.prog w = .ok (.tuple #[.pointer none, .bool false]) w := fun _ => by kernel_rfl
  have hImportBin : ∀ w, (Instr.typeAssert (.iface 52 (.pointer (some ⟨g, 0, none⟩))) 34 77 true).run Try.prog w = .ok (.tuple #[.pointer none, .bool false]) w := fun _ => by kernel_rfl
  have hConditional : ∀ w, (Instr.typeAssert (.iface 52 (.pointer (some ⟨g, 0, none⟩))) 34 78 true).run Try.prog w = .ok (.tuple #[.pointer none, .bool false]) w := fun _ => by kernel_rfl
  go_enter Try.func10, Try.ntmps10
  go_wp2
  go_ret
  exact ⟨rfl, rfl⟩
set_option maxRecDepth 100000 in
theorem prec_if (g : Nat) (w : World) : Calls Try.prog 10 #[.iface 78 (.pointer (some ⟨g, 0, none⟩))] w fun e w' => e = .returned (.int .i64 16) ∧ w = w' := by
  have hApply : ∀ w, (Instr.typeAssert (.iface 78 (.pointer (some ⟨g, 0, none⟩))) 34 47 true).run Try.prog w = .ok (.tuple #[.pointer none, .bool false]) w := fun _ => by kernel_rfl
  have hApplyBrace : ∀ w, (Instr.typeAssert (.iface 78 (.pointer (some ⟨g, 0, none⟩))) 34 48 true).run Try.prog w = .ok (.tuple #[.pointer none, .bool false]) w := fun _ => by kernel_rfl
  have hIndex : ∀ w, (Instr.typeAssert (.iface 78 (.pointer (some ⟨g, 0, none⟩))) 34 49 true).run Try.prog w = .ok (.tuple #[.pointer none, .bool false]) w := fun _ => by kernel_rfl
  have hSuperIndex : ∀ w, (Instr.typeAssert (.iface 78 (.pointer (some ⟨g, 0, none⟩))) 34 50 true).run Try.prog w = .ok (.tuple #[.pointer none, .bool false]) w := fun _ => by kernel_rfl
  have hSlice : ∀ w, (Instr.typeAssert (.iface 78 (.pointer (some ⟨g, 0, none⟩))) 34 51 true).run Try.prog w = .ok (.tuple #[.pointer none, .bool false]) w := fun _ => by kernel_rfl
  have hUnary : ∀ w, (Instr.typeAssert (.iface 78 (.pointer (some ⟨g, 0, none⟩))) 34 52 true).run Try.prog w = .ok (.tuple #[.pointer none, .bool false]) w := fun _ => by kernel_rfl
  have hBinary : ∀ w, (Instr.typeAssert (.iface 78 (.pointer (some ⟨g, 0, none⟩))) 34 53 true).run Try.prog w = .ok (.tuple #[.pointer none, .bool false]) w := fun _ => by kernel_rfl
  have hInSuper : ∀ w, (Instr.typeAssert (.iface 78 (.pointer (some ⟨g, 0, none⟩))) 34 71 true).run Try.prog w = .ok (.tuple #[.pointer none, .bool false]) w := fun _ => by kernel_rfl
  have hLocal : ∀ w, (Instr.typeAssert (.iface 78 (.pointer (some ⟨g, 0, none⟩))) 34 72 true).run Try.prog w = .ok (.tuple #[.pointer none, .bool false]) w := fun _ => by kernel_rfl
  have hAssert : ∀ w, (Instr.typeAssert (.iface 78 (.pointer (some ⟨g, 0, none⟩))) 34 73 true).run Try.prog w = .ok (.tuple #[.pointer none, .bool false]) w := fun _ => by kernel_rfl
  have hError : ∀ w, (Instr.typeAssert (.iface 78 (.pointer (some ⟨g, 0, none⟩))) 34 74 true).run Try.prog w = .ok (.tuple #[.pointer none, .bool false]) w := fun _ => by kernel_rfl
  have hImport : ∀ w, (Instr.typeAssert (.iface 78 (.pointer (some ⟨g, 0, none⟩))) 34 75 true).run Try.prog w = .ok (.tuple #[.pointer none, .bool false]) w := fun _ => by kernel_rfl
  have hImportStr : ∀ w, (Instr.typeAssert (.iface 78 (.pointer (some ⟨g, 0, none⟩))) 34 76 true).run Try.prog w = .ok (.tuple #[.pointer none, .bool false]) w := fun _ => by kernel_rfl
  have hImportBin : ∀ w, (Instr.typeAssert (.iface 78 (.pointer (some ⟨g, 0, none⟩))) 34 77 true).run Try.prog w = .ok (.tuple #[.pointer none, .bool false]) w := fun _ => by kernel_rfl
  have hConditional : ∀ w, (Instr.typeAssert (.iface 78 (.pointer (some ⟨g, 0, none⟩))) 34 78 true).run Try.prog w = .ok (.tuple #[.pointer (some ⟨g, 0, none⟩), .bool true]) w := fun _ => by kernel_rfl
  go_enter Try.func10, Try.ntmps10
  go_wp2
  go_ret
  exact ⟨rfl, rfl⟩
set_option maxRecDepth 100000 in
theorem prec_error (g : Nat) (w : World) : Calls Try.prog 10 #[.iface 74 (.pointer (some ⟨g, 0, none⟩))] w fun e w' => e = .returned (.int .i64 16) ∧ w = w' := by
  have hApply : ∀ w, (Instr.typeAssert (.iface 74 (.pointer (some ⟨g, 0, none⟩))) 34 47 true).run Try.prog w = .ok (.tuple #[.pointer none, .bool false]) w := fun _ => by kernel_rfl
  have hApplyBrace : ∀ w, (Instr.typeAssert (.iface 74 (.pointer (some ⟨g, 0, none⟩))) 34 48 true).run Try.prog w = .ok (.tuple #[.pointer none, .bool false]) w := fun _ => by kernel_rfl
  have hIndex : ∀ w, (Instr.typeAssert (.iface 74 (.pointer (some ⟨g, 0, none⟩))) 34 49 true).run Try.prog w = .ok (.tuple #[.pointer none, .bool false]) w := fun _ => by kernel_rfl
  have hSuperIndex : ∀ w, (Instr.typeAssert (.iface 74 (.pointer (some ⟨g, 0, none⟩))) 34 50 true).run Try.prog w = .ok (.tuple #[.pointer none, .bool false]) w := fun _ => by kernel_rfl
  have hSlice : ∀ w, (Instr.typeAssert (.iface 74 (.pointer (some ⟨g, 0, none⟩))) 34 51 true).run Try.prog w = .ok (.tuple #[.pointer none, .bool false]) w := fun _ => by kernel_rfl
  have hUnary : ∀ w, (Instr.typeAssert (.iface 74 (.pointer (some ⟨g, 0, none⟩))) 34 52 true).run Try.prog w = .ok (.tuple #[.pointer none, .bool false]) w := fun _ => by kernel_rfl
  have hBinary : ∀ w, (Instr.typeAssert (.iface 74 (.pointer (some ⟨g, 0, none⟩))) 34 53 true).run Try.prog w = .ok (.tuple #[.pointer none, .bool false]) w := fun _ => by kernel_rfl
  have hInSuper : ∀ w, (Instr.typeAssert (.iface 74 (.pointer (some ⟨g, 0, none⟩))) 34 71 true).run Try.prog w = .ok (.tuple #[.pointer none, .bool false]) w := fun _ => by kernel_rfl
  have hLocal : ∀ w, (Instr.typeAssert (.iface 74 (.pointer (some ⟨g, 0, none⟩))) 34 72 true).run Try.prog w = .ok (.tuple #[.pointer none, .bool false]) w := fun _ => by kernel_rfl
  have hAssert : ∀ w, (Instr.typeAssert (.iface 74 (.pointer (some ⟨g, 0, none⟩))) 34 73 true).run Try.prog w = .ok (.tuple #[.pointer none, .bool false]) w := fun _ => by kernel_rfl
  have hError : ∀ w, (Instr.typeAssert (.iface 74 (.pointer (some ⟨g, 0, none⟩))) 34 74 true).run Try.prog w = .ok (.tuple #[.pointer (some ⟨g, 0, none⟩), .bool true]) w := fun _ => by kernel_rfl
  have hImport : ∀ w, (Instr.typeAssert (.iface 74 (.pointer (some ⟨g, 0, none⟩))) 34 75 true).run Try.prog w = .ok (.tuple #[.pointer none, .bool false]) w := fun _ => by kernel_rfl
  have hImportStr : ∀ w, (Instr.typeAssert (.iface 74 (.pointer (some ⟨g, 0, none⟩))) 34 76 true).run Try.prog w = .ok (.tuple #[.pointer none, .bool false]) w := fun _ => by kernel_rfl
  have hImportBin : ∀ w, (Instr.typeAssert (.iface 74 (.pointer (some ⟨g, 0, none⟩))) 34 77 true).run Try.prog w = .ok (.tuple #[.pointer none, .bool false]) w := fun _ => by kernel_rfl
  have hConditional : ∀ w, (Instr.typeAssert (.iface 74 (.pointer (some ⟨g, 0, none⟩))) 34 78 true).run Try.prog w = .ok (.tuple #[.pointer none, .bool false]) w := fun _ => by kernel_rfl
  go_enter Try.func10, Try.ntmps10
  go_wp2
  go_ret
  exact ⟨rfl, rfl⟩
set_option maxRecDepth 100000 in
theorem prec_import (g : Nat) (w : World) : Calls Try.prog 10 #[.iface 75 (.pointer (some ⟨g, 0, none⟩))] w fun e w' => e = .returned (.int .i64 16) ∧ w = w' := by
  have hApply : ∀ w, (Instr.typeAssert (.iface 75 (.pointer (some ⟨g, 0, none⟩))) 34 47 true).run Try.prog w = .ok (.tuple #[.pointer none, .bool false]) w := fun _ => by kernel_rfl
  have hApplyBrace : ∀ w, (Instr.typeAssert (.iface 75 (.pointer (some ⟨g, 0, none⟩))) 34 48 true).run Try.prog w = .ok (.tuple #[.pointer none, .bool false]) w := fun _ => by kernel_rfl
  have hIndex : ∀ w, (Instr.typeAssert (.iface 75 (.pointer (some ⟨g, 0, none⟩))) 34 49 true).run Try.prog w = .ok (.tuple #[.pointer none, .bool false]) w := fun _ => by kernel_rfl
  have hSuperIndex : ∀ w, (Instr.typeAssert (.iface 75 (.pointer (some ⟨g, 0, none⟩))) 34 50 true).run Try.prog w = .ok (.tuple #[.pointer none, .bool false]) w := fun _ => by kernel_rfl
  have hSlice : ∀ w, (Instr.typeAssert (.iface 75 (.pointer (some ⟨g, 0, none⟩))) 34 51 true).run Try.prog w = .ok (.tuple #[.pointer none, .bool false]) w := fun _ => by kernel_rfl
  have hUnary : ∀ w, (Instr.typeAssert (.iface 75 (.pointer (some ⟨g, 0, none⟩))) 34 52 true).run Try.prog w = .ok (.tuple #[.pointer none, .bool false]) w := fun _ => by kernel_rfl
  have hBinary : ∀ w, (Instr.typeAssert (.iface 75 (.pointer (some ⟨g, 0, none⟩))) 34 53 true).run Try.prog w = .ok (.tuple #[.pointer none, .bool false]) w := fun _ => by kernel_rfl
  have hInSuper : ∀ w, (Instr.typeAssert (.iface 75 (.pointer (some ⟨g, 0, none⟩))) 34 71 true).run Try.prog w = .ok (.tuple #[.pointer none, .bool false]) w := fun _ => by kernel_rfl
  have hLocal : ∀ w, (Instr.typeAssert (.iface 75 (.pointer (some ⟨g, 0, none⟩))) 34 72 true).run Try.prog w = .ok (.tuple #[.pointer none, .bool false]) w := fun _ => by kernel_rfl
  have hAssert : ∀ w, (Instr.typeAssert (.iface 75 (.pointer (some ⟨g, 0, none⟩))) 34 73 true).run Try.prog w = .ok (.tuple #[.pointer none, .bool false]) w := fun _ => by kernel_rfl
  have hError : ∀ w, (Instr.typeAssert (.iface 75 (.pointer (some ⟨g, 0, none⟩))) 34 74 true).run Try.prog w = .ok (.tuple #[.pointer none, .bool false]) w := fun _ => by kernel_rfl
  have hImport : ∀ w, (Instr.typeAssert (.iface 75 (.pointer (some ⟨g, 0, none⟩))) 34 75 true).run Try.prog w = .ok (.tuple #[.pointer (some ⟨g, 0, none⟩), .bool true]) w := fun _ => by kernel_rfl
  have hImportStr : ∀ w, (Instr.typeAssert (.iface 75 (.pointer (some ⟨g, 0, none⟩))) 34 76 true).run Try.prog w = .ok (.tuple #[.pointer none, .bool false]) w := fun _ => by kernel_rfl
  have hImportBin : ∀ w, (Instr.typeAssert (.iface 75 (.pointer (some ⟨g, 0, none⟩))) 34 77 true).run Try.prog w = .ok (.tuple #[.pointer none, .bool false]) w := fun _ => by kernel_rfl
  have hConditional : ∀ w, (Instr.typeAssert (.iface 75 (.pointer (some ⟨g, 0, none⟩))) 34 78 true).run Try.prog w = .ok (.tuple #[.pointer none, .bool false]) w := fun _ => by kernel_rfl
  go_enter Try.func10, Try.ntmps10
  go_wp2
  go_ret
  exact ⟨rfl, rfl⟩
set_option maxRecDepth 100000 in
theorem prec_local (g : Nat) (w : World) : Calls Try.prog 10 #[.iface 72 (.pointer (some ⟨g, 0, none⟩))] w fun e w' => e = .returned (.int .i64 16) ∧ w = w' := by
  have hApply : ∀ w, (Instr.typeAssert (.iface 72 (.pointer (some ⟨g, 0, none⟩))) 34 47 true).run Try.prog w = .ok (.tuple #[.pointer none, .bool false]) w := fun _ => by kernel_rfl
  have hApplyBrace : ∀ w, (Instr.typeAssert (.iface 72 (.pointer (some ⟨g, 0, none⟩))) 34 48 true).run Try.prog w = .ok (.tuple #[.pointer none, .bool false]) w := fun _ => by kernel_rfl
  have hIndex : ∀ w, (Instr.typeAssert (.iface 72 (.pointer (some ⟨g, 0, none⟩))) 34 49 true).run Try.prog w = .ok (.tuple #[.pointer none, .bool false]) w := fun _ => by kernel_rfl
  have hSuperIndex : ∀ w, (Instr.typeAssert (.iface 72 (.pointer (some ⟨g, 0, none⟩))) 34 50 true).run Try.prog w = .ok (.tuple #[.pointer none, .bool false]) w := fun _ => by kernel_rfl
  have hSlice : ∀ w, (Instr.typeAssert (.iface 72 (.pointer (some ⟨g, 0, none⟩))) 34 51 true).run Try.prog w = .ok (.tuple #[.pointer none, .bool false]) w := fun _ => by kernel_rfl
  have hUnary : ∀ w, (Instr.typeAssert (.iface 72 (.pointer (some ⟨g, 0, none⟩))) 34 52 true).run Try.prog w = .ok (.tuple #[.pointer none, .bool false]) w := fun _ => by kernel_rfl
  have hBinary : ∀ w, (Instr.typeAssert (.iface 72 (.pointer (some ⟨g, 0, none⟩))) 34 53 true).run Try.prog w = .ok (.tuple #[.pointer none, .bool false]) w := fun _ => by kernel_rfl
  have hInSuper : ∀ w, (Instr.typeAssert (.iface 72 (.pointer (some ⟨g, 0, none⟩))) 34 71 true).run Try.prog w = .ok (.tuple #[.pointer none, .bool false]) w := fun _ => by kernel_rfl
  have hLocal : ∀ w, (Instr.typeAssert (.iface 72 (.pointer (some ⟨g, 0, none⟩))) 34 72 true).run Try.prog w = .ok (.tuple #[.pointer (some ⟨g, 0, none⟩), .bool true]) w := fun _ => by kernel_rfl
  have hAssert : ∀ w, (Instr.typeAssert (.iface 72 (.pointer (some ⟨g, 0, none⟩))) 34 73 true).run Try.prog w = .ok (.tuple #[.pointer none, .bool false]) w := fun _ => by kernel_rfl
  have hError : ∀ w, (Instr.typeAssert (.iface 72 (.pointer (some ⟨g, 0, none⟩))) 34 74 true).run Try.prog w = .ok (.tuple #[.pointer none, .bool false]) w := fun _ => by kernel_rfl
  have hImport : ∀ w, (Instr.typeAssert (.iface 72 (.pointer (some ⟨g, 0, none⟩))) 34 75 true).run Try.prog w = .ok (.tuple #[.pointer none, .bool false]) w := fun _ => by kernel_rfl
  have hImportStr : ∀ w, (Instr.typeAssert (.iface 72 (.pointer (some ⟨g, 0, none⟩))) 34 76 true).run Try.prog w = .ok (.tuple #[.pointer none, .bool false]) w := fun _ => by kernel_rfl
  have hImportBin : ∀ w, (Instr.typeAssert (.iface 72 (.pointer (some ⟨g, 0, none⟩))) 34 77 true).run Try.prog w = .ok (.tuple #[.pointer none, .bool false]) w := fun _ => by kernel_rfl
  have hConditional : ∀ w, (Instr.typeAssert (.iface 72 (.pointer (some ⟨g, 0, none⟩))) 34 78 true).run Try.prog w = .ok (.tuple #[.pointer none, .bool false]) w := fun _ => by kernel_rfl
  go_enter Try.func10, Try.ntmps10
  go_wp2
  go_ret
  exact ⟨rfl, rfl⟩
end Go.Proofs.Ytionkdlcagikaaa
