/-
  FnUnionThree over its arguments. Conditions: none.
-/
import Derived.Test.YtppmdncmjcknkaaUniD
import Derived.Test.YtppmdncmjcknkaaOpen
import Derived.ChangeSlices
namespace Go.Proofs.Ytppmdncmjcknkaa
open Go.ChangeShapes Go.WideShapes Go.RowKit
set_option linter.unusedVariables false
theorem nums_arg {H : Type} {enc : TypeId × Value → H} {w : World} {a : Option Addr} {n c : Nat} {d : DataW H} {p : List MemPlace} (h0 : DataW.Trod enc Try.prog w 0 (fun _ => true) true 25 (.slice a n c) d p) : ∃ l, Nums w (.slice a n c) l := by
  obtain ⟨fuel, h⟩ := h0
  have h' : DataW.trod enc Try.prog w 0 (fun _ => true) true fuel 25 [.slice a n c] = some (d, p) := h
  rcases open_ints Try.underlying25 Try.underlying3 (by kernel_rfl) h' with ⟨h0, _⟩ | ⟨a', len, cap, zs, h0, _, hl, hm, hs, _, hcell, _⟩
  · injection h0 with h0
    rw [h0]
    exact ⟨[], ⟨none, 0, rfl, Nat.le_refl _, Reads.none_⟩⟩
  · injection h0 with h0
    rw [h0]
    have hle : len ≤ zs.length := by rw [hs]; split <;> omega
    have hlen : (zs.take len).length = len := by rw [List.length_take]; omega
    have hat : ∀ (j : Nat) (u : Value), (nums (zs.take len))[j]? = some u → w.cell? (a'.add j) = some u := by
      intro j u hu
      have hj : j < len := by have := (List.getElem?_eq_some_iff.1 hu).1; rw [nums_length] at this; omega
      have hjs : (zs.take len)[j]? = some (zs.getD j 0) := by
        rw [List.getElem?_take, if_pos hj, List.getD_eq_getElem?_getD, List.getElem?_eq_getElem (by omega)]
        rfl
      rw [nums_at hjs] at hu
      injection hu with hu
      subst hu
      exact hcell j (by omega)
    refine ⟨zs.take len, ⟨some a', cap, by rw [hlen], by omega, ⟨by rw [nums_length]; omega, fun hn => ⟨a', rfl, ?_, hat⟩⟩⟩⟩
    have h0 : w.cell? (a'.add 0) = _ := hcell 0 (by omega)
    have := World.block_lt_of_cell? w _ h0
    rwa [block_of_add] at this
theorem walkThreeArg {H : Type} {enc : TypeId × Value → H} {W : World} {d0 d1 d2 d3 d4 d5 : DataW H} {p0 p1 p2 p3 p4 p5 : List MemPlace}
    (a0 : Option Addr) (n0 c0 : Nat) (h0 : DataW.Trod enc Try.prog W 0 (fun _ => true) true 22 (.slice a0 n0 c0) d0 p0) (a1 : Option Addr) (n1 c1 : Nat) (h1 : DataW.Trod enc Try.prog W 0 (fun _ => true) true 25 (.slice a1 n1 c1) d1 p1)
    (a2 : Option Addr) (n2 c2 : Nat) (h2 : DataW.Trod enc Try.prog W 0 (fun _ => true) true 22 (.slice a2 n2 c2) d2 p2) (a3 : Option Addr) (n3 c3 : Nat) (h3 : DataW.Trod enc Try.prog W 0 (fun _ => true) true 25 (.slice a3 n3 c3) d3 p3)
    (a4 : Option Addr) (n4 c4 : Nat) (h4 : DataW.Trod enc Try.prog W 0 (fun _ => true) true 22 (.slice a4 n4 c4) d4 p4) (a5 : Option Addr) (n5 c5 : Nat) (h5 : DataW.Trod enc Try.prog W 0 (fun _ => true) true 25 (.slice a5 n5 c5) d5 p5) (W' : World) (hW : W' = W) :
    Calls Try.prog 4 #[.slice a0 n0 c0, .slice a1 n1 c1, .slice a2 n2 c2, .slice a3 n3 c3, .slice a4 n4 c4, .slice a5 n5 c5] W' fun e w' => e = .returned (.bool true) ∧ Below W'.heap.size W' w' := by
  subst hW
  obtain ⟨l0, g0, _⟩ := lines_arg h0 ⟨_, _, _, rfl⟩
  obtain ⟨l1, g1⟩ := nums_arg h1
  obtain ⟨l2, g2, _⟩ := lines_arg h2 ⟨_, _, _, rfl⟩
  obtain ⟨l3, g3⟩ := nums_arg h3
  obtain ⟨l4, g4, _⟩ := lines_arg h4 ⟨_, _, _, rfl⟩
  obtain ⟨l5, g5⟩ := nums_arg h5
  exact walk_three _ _ _ _ _ _ l0 l2 l4 l1 l3 l5 W' g0 g1 g2 g3 g4 g5
end Go.Proofs.Ytppmdncmjcknkaa
