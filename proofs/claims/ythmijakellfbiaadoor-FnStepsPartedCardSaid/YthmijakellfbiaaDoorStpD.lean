/-
  Objects with fields and nothing else. Conditions: none.
-/
import Derived.Test.YthmijakellfbiaaDoorStpC
import Derived.Test.YthmijakellfbiaaDoorMap
namespace Go.Proofs.YthmijakellfbiaaDoor
open Go.RowKit
set_option linter.unusedVariables false
set_option linter.unusedSimpArgs false

theorem run_makeMap_none {P : Program} (t k e : TypeId) (ht : P.underlying t = some (.map k e)) (w : World) :
    (Instr.makeMap t none).run P w = .ok (.map (some w.heap.size)) (w.alloc (.map #[] 0)) := by
  simp [Instr.makeMap, run_underlying ht]
theorem make_cache (w : World) : (Instr.makeMap 56 none).run Tryd.prog w = .ok (.map (some w.heap.size)) (w.alloc (.map #[] 0)) :=
  run_makeMap_none _ 142 144 Tryd.underlying56 w
theorem make_fields (w : World) : (Instr.makeMap 96 none).run Tryd.prog w = .ok (.map (some w.heap.size)) (w.alloc (.map #[] 0)) :=
  run_makeMap_none _ 9 66 Tryd.underlying96 w
theorem Blk.new_at {w : World} {n : Nat} {t : TypeId} {cs : Array Value} (h : w.heap.size = n) : Blk (w.alloc (.cells cs t)) n t cs := by subst h; exact Blk.new w t cs
/-- An object that is flat, and what its fields are. -/
def Sim (w : World) (v : Value) (f : ByteArray → Option Value) : Prop :=
  ∃ p b : Nat, v = .iface 93 (.pointer (some ⟨p, 0, none⟩)) ∧ Blk w p 99 #[.map none, .map (some b), .slice none 0 0, .slice none 0 0] ∧ FMap w b f
theorem Sim.below {w w' : World} {v : Value} {f : ByteArray → Option Value} (h : Sim w v f) (hb : Below w.heap.size w w') : Sim w' v f := by
  obtain ⟨p, b, e, h1, h2⟩ := h
  exact ⟨p, b, e, h1.later hb, h2.below hb⟩
/-- A value that holds an object. -/
def Vob (w : World) (p : Nat) (v : Value) : Prop := ∃ c : Value, Blk w p 60 #[.nilIface, c, v]
set_option maxRecDepth 100000 in
theorem mkSim_any (b : Nat) (f : ByteArray → Option Value) (w : World) (h : FMap w b f) : Calls Tryd.prog 34 #[.map none, .map (some b), .slice none 0 0, .slice none 0 0] w fun e w' => ∃ p v, e = .returned (.pointer (some ⟨p, 0, none⟩)) ∧ Vob w' p v ∧ Sim w' v f ∧ Below w.heap.size w w' := by
  have H := Lib.hid h
  have hmc := make_cache
  clear h
  go_enter Tryd.func34, Tryd.ntmps34
  go_wp2
  go_ret
  refine ⟨_, _, rfl, ⟨_, Blk.new_at (by simp)⟩, ⟨_, b, rfl, (Blk.new_at (by simp)).alloc _, ((H.out.alloc _).alloc _).alloc _⟩, (((Below.refl _ _).alloc (Nat.le_refl _) _).alloc (by simp) _).alloc (by simp; omega) _⟩
end Go.Proofs.YthmijakellfbiaaDoor
