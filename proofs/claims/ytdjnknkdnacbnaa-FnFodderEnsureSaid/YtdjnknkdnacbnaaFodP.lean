/-
  FnFodderEnsure over its argument. Conditions: none.
-/
import Derived.Test.YtdjnknkdnacbnaaFodH
import Derived.Test.YtdjnknkdnacbnaaFodO
namespace Go.Proofs.Ytdjnknkdnacbnaa
open Go.ChangeShapes Go.WideShapes Go.RowKit
theorem walkEnsArg {H : Type} {enc : TypeId × Value → H} {d : DataW H} {p : List MemPlace} (a : Option Addr) (n c : Nat) {W : World} (h : DataW.Trod enc Try.prog W 0 (fun _ => true) true 22 (.slice a n c) d p) (W' : World) (hW : W' = W) :
    Calls Try.prog 4 #[.slice a n c] W' fun e w' => e = .returned (.bool true) ∧ Below W'.heap.size W' w' := by
  subst hW
  obtain ⟨E, rfl, hl, hm, hels, _⟩ := els_arg h
  exact walkEns a c E W' hl hm hels
end Go.Proofs.Ytdjnknkdnacbnaa
