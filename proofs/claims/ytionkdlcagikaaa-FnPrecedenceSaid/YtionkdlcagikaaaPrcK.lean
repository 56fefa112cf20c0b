/-
  Counts and operators. Conditions: none.
-/
import Derived.Test.YtionkdlcagikaaaPrcI
namespace Go.Proofs.Ytionkdlcagikaaa
open Go.RowKit
set_option linter.unusedVariables false
set_option linter.unusedSimpArgs false

def YesTo (w : World) (e : Ending) (w' : World) : Prop := e = .returned (.bool true) ∧ w = w'
theorem count_any (gb : Nat) (A : Option Addr) (n c : Nat) (least most : Int) (h1 : least ≤ (n : Int)) (h2 : (n : Int) ≤ most) (w : World) :
    Calls Try.prog 22 #[.pointer (some ⟨gb, 0, none⟩), .slice A n c, .int .i64 least, .int .i64 most] w (YesTo w) := by
  have h1' : ¬ ((n : Int) < least) := by omega
  have h2' : ¬ (most < (n : Int)) := by omega
  go_enter Try.func22, Try.ntmps22
  go_wp2
  go_ret
  exact ⟨rfl, rfl⟩
theorem unary_4 (w : World) :
    Calls Try.prog 28 #[.int .i64 4] w (fun e w' => e = .returned (.tuple #[.int .i64 3, .bool true]) ∧ w = w') := by
  go_enter Try.func28, Try.ntmps28
  go_wp2
  go_ret2
  exact ⟨rfl, rfl⟩
def bxTab : List Nat := [0, 0, 1, 2, 3, 4, 5, 6, 9, 10, 7, 8, 11, 12, 13, 14, 15, 16, 17, 18]
def bxVals : Array Value := #[.int .i64 0, .int .i64 0, .int .i64 1, .int .i64 2, .int .i64 3, .int .i64 4, .int .i64 5, .int .i64 6, .int .i64 9, .int .i64 10, .int .i64 7, .int .i64 8, .int .i64 11, .int .i64 12, .int .i64 13, .int .i64 14, .int .i64 15, .int .i64 16, .int .i64 17, .int .i64 18]
theorem bx_lt : ∀ i : Fin 19, bxTab.getD (i.val + 1) 0 < 19 := by decide
def bx (i : Fin 19) : Fin 19 := ⟨bxTab.getD (i.val + 1) 0, bx_lt i⟩
theorem bx_at : ∀ i : Fin 19, bxVals[i.val + 1]? = some (.int .i64 ((bx i).val : Int)) := by
  intro i
  obtain ⟨i, hi⟩ := i
  match i, hi with
  | 0, _ | 1, _ | 2, _ | 3, _ | 4, _ | 5, _ | 6, _ | 7, _ | 8, _ | 9, _ | 10, _ | 11, _ | 12, _ | 13, _ | 14, _ | 15, _ | 16, _ | 17, _ | 18, _ => rfl
  | n + 19, h => exact absurd h (by omega)
def RowTo (w : World) (e : Ending) (w' : World) : Prop := e = .returned (.slice (some ⟨w.heap.size, 0, none⟩) 20 20) ∧ Below w.heap.size w w' ∧ Blk w' w.heap.size 68 bxVals
theorem binaries_any (w : World) :
    Calls Try.prog 37 #[] w (RowTo w) := by
  go_enter Try.func37, Try.ntmps37
  go_wp2
  go_ret
  exact ⟨rfl, (Below.refl _ _).alloc (Nat.le_refl _) _, Blk.new _ _ _⟩
def OpTo (z : Int) (w : World) (e : Ending) (w' : World) : Prop := e = .returned (.tuple #[.int .i64 z, .bool true]) ∧ Below w.heap.size w w'
theorem binop_any (i : Fin 19) (w : World) :
    Calls Try.prog 29 #[.int .i64 ((i.val : Int) + 1)] w (OpTo ((bx i).val : Int) w) := by
  have hi := i.isLt
  have hat := bx_at i
  obtain ⟨k, hk⟩ : ∃ k, k = i.val := ⟨_, rfl⟩
  rw [← hk] at hat hi ⊢
  have h1 : ¬ (((k : Int) + 1) < 1) := by omega
  have h2 : ¬ (20 ≤ ((k : Int) + 1)) := by omega
  generalize ((bx i).val : Int) = z at hat ⊢
  clear hk
  have h4 : (0 : Int) ≤ (k : Int) + 1 := by omega
  have h5 : (k : Int) + 1 < 20 := by omega
  have h6 : ((k : Int) + 1).toNat = k + 1 := by omega
  go_enter Try.func29, Try.ntmps29
  go_wp2_with (go_at_call 37; refine (binaries_any _).mono ?_; rintro e w' ⟨rfl, hb, hB⟩; have hc : w'.cell? ⟨w.heap.size, k + 1, none⟩ = some (.int .i64 z) := (hB.cell (k + 1)).trans hat; have HB := Lib.hid hb; clear hb hB hat)
  go_ret2
  exact ⟨rfl, HB.out⟩
end Go.Proofs.Ytionkdlcagikaaa
