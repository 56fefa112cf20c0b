/-
  The signs of binary operators, and how they bind. Conditions: none.
-/
import Derived.Test.YtionkdlcagikaaaPrcI
namespace Go.Proofs.Ytionkdlcagikaaa
open Go.RowKit
set_option linter.unusedVariables false
set_option linter.unusedSimpArgs false

def sgTab : List ByteArray := [⟨#[42]⟩, ⟨#[47]⟩, ⟨#[37]⟩, ⟨#[43]⟩, ⟨#[45]⟩, ⟨#[60, 60]⟩, ⟨#[62, 62]⟩, ⟨#[60]⟩, ⟨#[60, 61]⟩, ⟨#[62]⟩, ⟨#[62, 61]⟩, ⟨#[105, 110]⟩, ⟨#[61, 61]⟩, ⟨#[33, 61]⟩, ⟨#[38]⟩, ⟨#[94]⟩, ⟨#[124]⟩, ⟨#[38, 38]⟩, ⟨#[124, 124]⟩]
def lvTab : List Nat := [3, 3, 3, 4, 4, 5, 5, 6, 6, 6, 6, 6, 7, 7, 8, 9, 10, 11, 12]
def sgVals : Array Value := #[.string ⟨#[]⟩, .string ⟨#[42]⟩, .string ⟨#[47]⟩, .string ⟨#[37]⟩, .string ⟨#[43]⟩, .string ⟨#[45]⟩, .string ⟨#[60, 60]⟩, .string ⟨#[62, 62]⟩, .string ⟨#[60]⟩, .string ⟨#[60, 61]⟩, .string ⟨#[62]⟩, .string ⟨#[62, 61]⟩, .string ⟨#[105, 110]⟩, .string ⟨#[61, 61]⟩, .string ⟨#[33, 61]⟩, .string ⟨#[38]⟩, .string ⟨#[94]⟩, .string ⟨#[124]⟩, .string ⟨#[38, 38]⟩, .string ⟨#[124, 124]⟩]
def bdVals : Array Value := #[.string ⟨#[42]⟩, .string ⟨#[47]⟩, .string ⟨#[37]⟩, .string ⟨#[43]⟩, .string ⟨#[45]⟩, .string ⟨#[60, 60]⟩, .string ⟨#[62, 62]⟩, .string ⟨#[60]⟩, .string ⟨#[60, 61]⟩, .string ⟨#[62]⟩, .string ⟨#[62, 61]⟩, .string ⟨#[105, 110]⟩, .string ⟨#[61, 61]⟩, .string ⟨#[33, 61]⟩, .string ⟨#[38]⟩, .string ⟨#[94]⟩, .string ⟨#[124]⟩, .string ⟨#[38, 38]⟩, .string ⟨#[124, 124]⟩]
def lvVals : Array Value := #[.int .i64 3, .int .i64 3, .int .i64 3, .int .i64 4, .int .i64 4, .int .i64 5, .int .i64 5, .int .i64 6, .int .i64 6, .int .i64 6, .int .i64 6, .int .i64 6, .int .i64 7, .int .i64 7, .int .i64 8, .int .i64 9, .int .i64 10, .int .i64 11, .int .i64 12]
def sg (i : Nat) : ByteArray := sgTab.getD i ⟨#[]⟩
def lv (i : Nat) : Nat := lvTab.getD i 0
theorem sg_at : ∀ i : Nat, i < 19 → sgVals[i + 1]? = some (.string (sg i)) := by
  intro i hi
  match i, hi with
  | 0, _ | 1, _ | 2, _ | 3, _ | 4, _ | 5, _ | 6, _ | 7, _ | 8, _ | 9, _ | 10, _ | 11, _ | 12, _ | 13, _ | 14, _ | 15, _ | 16, _ | 17, _ | 18, _ => rfl
  | n + 19, h => exact absurd h (by omega)
theorem bd_at : ∀ i : Nat, i < 19 → bdVals[i]? = some (.string (sg i)) := by
  intro i hi
  match i, hi with
  | 0, _ | 1, _ | 2, _ | 3, _ | 4, _ | 5, _ | 6, _ | 7, _ | 8, _ | 9, _ | 10, _ | 11, _ | 12, _ | 13, _ | 14, _ | 15, _ | 16, _ | 17, _ | 18, _ => rfl
  | n + 19, h => exact absurd h (by omega)
theorem lv_at : ∀ i : Nat, i < 19 → lvVals[i]? = some (.int .i64 (lv i : Int)) := by
  intro i hi
  match i, hi with
  | 0, _ | 1, _ | 2, _ | 3, _ | 4, _ | 5, _ | 6, _ | 7, _ | 8, _ | 9, _ | 10, _ | 11, _ | 12, _ | 13, _ | 14, _ | 15, _ | 16, _ | 17, _ | 18, _ => rfl
  | n + 19, h => exact absurd h (by omega)
theorem sg_ne : ∀ i : Fin 19, ∀ k : Fin 19, k ≠ i → ((sg k.val).toList == (sg i.val).toList) = false := by decide +kernel
def SignTo (w : World) (s : ByteArray) (e : Ending) (w' : World) : Prop := e = .returned (.string s) ∧ Below w.heap.size w w'
set_option maxRecDepth 100000 in
theorem signs_any (i : Nat) (hi : i < 19) (w : World) : Calls Try.prog 7 #[.int .i64 ((i : Int) + 1)] w (SignTo w (sg i)) := by
  have hat := sg_at i hi
  have hc : (w.alloc (.cells sgVals 9)).cell? ⟨w.heap.size, i + 1, none⟩ = some (.string (sg i)) := ((Blk.new w 9 sgVals).cell (i + 1)).trans hat
  unfold sgVals at hc
  generalize sg i = s at hc hat ⊢
  have h4 : (0 : Int) ≤ (i : Int) + 1 := by omega
  have h5 : (i : Int) + 1 < 20 := by omega
  have h6 : ((i : Int) + 1).toNat = i + 1 := by omega
  clear hat
  go_enter Try.func7, Try.ntmps7
  go_wp2
  go_ret
  exact ⟨rfl, (Below.refl _ _).alloc (Nat.le_refl _) _⟩
def LevTo (w : World) (l k : Nat) (e : Ending) (w' : World) : Prop := e = .returned (.tuple #[.int .i64 (l : Int), .int .i64 ((k : Int) + 1)]) ∧ Below w.heap.size w w'
set_option maxRecDepth 100000 in
theorem bindS_any (i : Nat) (hi : i < 19) (w : World) : Calls Try.prog 6 #[.string (sg i)] w (LevTo w (lv i) i) := by
  obtain ⟨W, hW⟩ : ∃ W, W = (w.alloc (.cells bdVals 9)).alloc (.cells lvVals 3) := ⟨_, rfl⟩
  have hb : Blk W w.heap.size 9 bdVals := by rw [hW]; exact (Blk.new w _ _).alloc _
  have hl : Blk W (w.heap.size + 1) 3 lvVals := by rw [hW]; have := Blk.new (w.alloc (.cells bdVals 9)) 3 lvVals; rw [World.size_alloc] at this; exact this
  have hBe : Below w.heap.size w W := by rw [hW]; exact ((Below.refl _ _).alloc (Nat.le_refl _) _).alloc (by simp) _
  have HN : Hid (∀ k, k < i → ((sg k).toList == (sg i).toList) = false) := fun k hk => sg_ne ⟨i, hi⟩ ⟨k, by omega⟩ (by simp; omega)
  have HC : Hid (∀ k, k < 19 → W.cell? ⟨w.heap.size, k, none⟩ = some (.string (sg k))) := fun k hk => (hb.cell k).trans (bd_at k hk)
  have HD : Hid (∀ k, k < 19 → W.cell? ⟨w.heap.size + 1, k, none⟩ = some (.int .i64 (lv k : Int))) := fun k hk => (hl.cell k).trans (lv_at k hk)
  have HBe := Lib.hid hBe
  unfold bdVals lvVals at hW
  have HW := Lib.hid hW
  clear hb hl hBe hW
  go_enter Try.func6, Try.ntmps6
  go_wp2
  go_loopw [6] (fun j wr => ∃ k : Nat, k ≤ i ∧ j = .int .i64 (k : Int) ∧ wr = W) (fun j _ => 19 - (intOf j).toNat)
  case atStart => exact ⟨0, by omega, rfl, HW.out.symm⟩
  case round =>
    obtain ⟨k, hk, rfl, rfl⟩ := hrel
    have hc := HC.out k (by omega)
    have hd := HD.out k (by omega)
    have h4 : (0 : Int) ≤ (k : Int) := by omega
    have h5 : (k : Int) < 19 := by omega
    by_cases hki : k = i
    · subst hki
      go_wp2
      go_ret2
      exact ⟨rfl, HBe.out⟩
    · have hne := HN.out k (by omega)
      go_wp2
      refine ⟨⟨k + 1, by omega, by go_num, trivial⟩, ?_⟩
      simp [intOf]
      omega
end Go.Proofs.Ytionkdlcagikaaa
