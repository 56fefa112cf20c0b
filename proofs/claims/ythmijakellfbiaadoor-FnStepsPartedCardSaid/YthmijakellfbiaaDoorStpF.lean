/-
  Objects added, and how large they are. Conditions: none.
-/
import Derived.Test.YthmijakellfbiaaDoorStpE
namespace Go.Proofs.YthmijakellfbiaaDoor
open Go.RowKit
set_option linter.unusedVariables false
set_option linter.unusedSimpArgs false

/-- Objects, the rightmost first, one added to the right of the others. -/
def Tree (w : World) : Value → List (ByteArray → Option Value) → Prop
  | v, [] => False
  | v, [f] => Sim w v f
  | v, f :: g :: fs => ∃ (p : Nat) (l r : Value), v = .iface 90 (.pointer (some ⟨p, 0, none⟩)) ∧ Blk w p 92 #[l, r, .int .i64 ((fs.length + 2 : Nat) : Int)] ∧ Sim w r f ∧ Tree w l (g :: fs)
theorem Tree.below {w w' : World} (hb : Below w.heap.size w w') : ∀ {fs : List (ByteArray → Option Value)} {v : Value}, Tree w v fs → Tree w' v fs
  | [], _, h => h
  | [f], _, h => Sim.below h hb
  | f :: g :: fs, _, h => by
    obtain ⟨p, l, r, e, h1, h2, h3⟩ := h
    exact ⟨p, l, r, e, h1.later hb, h2.below hb, Tree.below hb h3⟩
/-- The name of the method that tells the size. -/
def sizeName : String := String.ofList (List.map Char.ofNat [103, 105, 118, 101, 110, 46, 101, 120, 97, 109, 112, 108, 101, 47, 112, 117, 98, 45, 114, 111, 110, 100, 101, 108, 47, 112, 117, 98, 47, 106, 115, 111, 110, 110, 101, 116, 46, 105, 110, 104, 101, 114, 105, 116, 97, 110, 99, 101, 83, 105, 122, 101])
theorem sim_meth (p : Nat) (w : World) (nm : String) (h : nm = sizeName) : (method 343 93 (.pointer (some ⟨p, 0, none⟩)) nm).run Tryd.prog w = .ok (72, .pointer (some ⟨p, 0, none⟩)) w := by
  subst h
  kernel_rfl
theorem ext_meth (p : Nat) (w : World) (nm : String) (h : nm = sizeName) : (method 343 90 (.pointer (some ⟨p, 0, none⟩)) nm).run Tryd.prog w = .ok (71, .pointer (some ⟨p, 0, none⟩)) w := by
  subst h
  kernel_rfl
theorem sizeSim_any (v : Value) (w : World) : Calls Tryd.prog 72 #[v] w fun e w' => e = .returned (.int .i64 1) ∧ w = w' := by
  go_enter Tryd.func72, Tryd.ntmps72
  go_wp2
  go_ret
  exact ⟨rfl, rfl⟩
theorem sizeExt_any (p : Nat) (l r : Value) (n : Int) (w : World) (h : Blk w p 92 #[l, r, .int .i64 n]) : Calls Tryd.prog 71 #[.pointer (some ⟨p, 0, none⟩)] w fun e w' => e = .returned (.int .i64 n) ∧ w = w' := by
  have hc : w.cell? ⟨p, 2, none⟩ = some (.int .i64 n) := h.cell 2
  clear h
  go_enter Tryd.func71, Tryd.ntmps71
  go_wp2
  go_ret
  exact ⟨rfl, rfl⟩
theorem sizeExt_cell (p : Nat) (n : Int) (w : World) (hc : w.cell? ⟨p, 2, none⟩ = some (.int .i64 n)) : Calls Tryd.prog 71 #[.pointer (some ⟨p, 0, none⟩)] w fun e w' => e = .returned (.int .i64 n) ∧ w = w' := by
  go_enter Tryd.func71, Tryd.ntmps71
  go_wp2
  go_ret
  exact ⟨rfl, rfl⟩
end Go.Proofs.YthmijakellfbiaaDoor
