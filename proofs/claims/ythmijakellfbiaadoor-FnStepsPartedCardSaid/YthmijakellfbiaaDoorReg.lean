/-
  A drawn region's operation taken first, its slot told by number. Conditions: none.
-/
import Derived.Test.YthmijakellfbiaaDoorRows
import Derived.Deep.RegionHeld3
namespace Go.Proofs.YthmijakellfbiaaDoor
theorem put_at {a : Act} {o : Oper} {d : Nat} {v : Value} (h : o.dst = some d) : a.put o.dst v = { a with tmps := a.tmps.setIfInBounds d v } := by rw [h]; rfl
theorem takeH {P : Program} {ops : Array Oper} {Q : Exit → Act → World → Prop} {md : Region.Mode} {S : World → Prop} {i : Nat} {oi : Oper} {fuel : Nat} {listed : Array Bool} {a : Act} {w : World} (d : Nat) (v : Value) (hi : ops[i]? = some oi) (hd : oi.dst = some d)
    (hs : Region.noSelect ops = true) (hf : Region.free md ops listed i = true) (hr : (Region.ready md ops listed).contains i = true)
    (hQ : ∀ c a w, Q (.panic c) { a with tmps := a.tmps.setIfInBounds d v } w → Q (.panic c) a w) (hy : YieldsIf P ops S oi v a) (hS : S w)
    (h : wpAnyH P md ops Q S fuel (listed.setIfInBounds i true) { a with tmps := a.tmps.setIfInBounds d v } w) : wpAnyH P md ops Q S (fuel + 1) listed a w := by
  refine wpAnyH_take (i := i) hi hs hf hr (fun c a w h => ?_) hy hS ?_
  · rw [put_at hd] at h; exact hQ c a w h
  · rw [put_at hd]; exact h
end Go.Proofs.YthmijakellfbiaaDoor
