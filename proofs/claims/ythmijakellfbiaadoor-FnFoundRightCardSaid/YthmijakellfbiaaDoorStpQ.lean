/-
  FnFoundRight over its arguments. Conditions: the library's two tables lie there.
-/
import Derived.Test.YthmijakellfbiaaDoorStpO
import Derived.Test.YthmijakellfbiaaDoorStpP
namespace Go.Proofs.YthmijakellfbiaaDoor
open Go.ChangeShapes Go.WideShapes Go.RowKit
set_option maxRecDepth 100000 in
theorem walkFoundArg {H : Type} {enc : TypeId × Value → H} {base : Nat} {W : World} (a : Option Addr) (n c : Nat) {d : DataW H} {p : List MemPlace} (h : DataW.Trod enc Tryd.prog W 0 (fun _ => true) true 22 (.slice a n c) d p)
    {v : Value} {d1 : DataW H} {p1 : List MemPlace} (o1 : Value.okWide Tryd.prog W .any base 26 v) (h1 : DataW.Trod enc Tryd.prog W 0 (fun _ => true) true 26 v d1 p1) (s : ByteArray) (ws : s.size ≤ maxLen) (W' : World) (hW : W' = W) (hT : Tabs W') :
    Calls Tryd.prog 3 #[.slice a n c, v, .string s] W' fun e w' => e = .returned (.bool true) ∧ Below W'.heap.size W' w' := by
  subst hW
  obtain ⟨E, rfl, hl, hm, hE, hZ⟩ := steps_arg h
  obtain ⟨x, u, u', rfl, hu, hv, hz, hn⟩ := step_arg o1 h1
  exact walk_found a c E x u u' s W' hE hl hm hZ hz hu hv hn ws hT
end Go.Proofs.YthmijakellfbiaaDoor
