/-
  FnStepsParted over its arguments. Conditions: the library's two tables lie there.
-/
import Derived.Test.YthmijakellfbiaaDoorVisI
import Derived.Test.YthmijakellfbiaaDoorStpP
import Derived.DataShut
namespace Go.Proofs.YthmijakellfbiaaDoor
open Go.ChangeShapes Go.WideShapes Go.RowKit
theorem u8_nat {x : Int} (h : (Lit.int .u8 x).wf = true) : ∃ n : Nat, x = n ∧ n ≤ 255 := by
  have hb := (Lit.wf_int_iff .u8 x).1 h
  have h1 : IntKind.u8.min = 0 := by decide
  have h2 : IntKind.u8.max = 255 := by decide
  rw [h1, h2] at hb
  exact ⟨x.toNat, by omega, by omega⟩
set_option maxRecDepth 100000 in
theorem walkPartedArg {H : Type} {enc : TypeId × Value → H} {W : World} (a : Option Addr) (n c : Nat) {d : DataW H} {p : List MemPlace} (h : DataW.Trod enc Tryd.prog W 0 (fun _ => true) true 22 (.slice a n c) d p)
    (x : Int) (wx : (Lit.int .u8 x).wf = true) (y : Int) (wy : (Lit.int .u8 y).wf = true) (W' : World) (hW : W' = W) (hT : Tabs W') :
    Calls Tryd.prog 4 #[.slice a n c, .int .u8 x, .int .u8 y] W' fun e w' => e = .returned (.bool true) ∧ Below W'.heap.size W' w' := by
  subst hW
  obtain ⟨E, rfl, hl, hm, hE, hZ⟩ := steps_arg h
  obtain ⟨pn, rfl, hp⟩ := u8_nat wx
  obtain ⟨cn, rfl, hc⟩ := u8_nat wy
  exact walk_parted a c E pn cn W' hE hZ hp hc hT
end Go.Proofs.YthmijakellfbiaaDoor
