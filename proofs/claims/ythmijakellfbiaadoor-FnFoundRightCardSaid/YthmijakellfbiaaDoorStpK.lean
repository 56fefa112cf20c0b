/-
  A field found in a flat object. Conditions: none.
-/
import Derived.Test.YthmijakellfbiaaDoorStpJ
import Derived.Deep.RegionHeld3
import Derived.Deep.DrawnRows
namespace Go.Proofs.YthmijakellfbiaaDoor
open Go.RowKit
set_option linter.unusedVariables false
set_option linter.unusedSimpArgs false
attribute [local go_sem ↓] Go.wp_at_zero Go.wp_at_succ

/-- Each value of the map is a field's. -/
def Fv (f : ByteArray → Option Value) : Prop := ∀ s x, f s = some x → ∃ h : Int, x = fldv h
theorem Fld.fv {ns : List ByteArray} {hs : List Int} {k : Nat} {f : ByteArray → Option Value} (h : Fld ns hs k f) : Fv f := fun s x hx => by
  obtain ⟨_, n, _, _, _, e⟩ := (h s).2 x hx
  exact ⟨n, e⟩
def FoundTo (w : World) (M : Int) (o : Option Nat) (e : Ending) (w' : World) : Prop :=
  ∃ (b : Bool) (h n : Int), e = .returned (.tuple #[.bool b, .agg #[.nilIface, .int .i64 h], .map none, .slice none 0 0, .int .i64 n]) ∧ b = o.isSome ∧ (∀ k : Nat, o = some k → n = k) ∧ (0 ≤ n ∧ n ≤ M) ∧ Below w.heap.size w w'
theorem zero_field (w : World) : (zeroValue 66).run Tryd.prog w = .ok (.agg #[.nilIface, .int .i64 0]) w := by kernel_rfl
set_option maxRecDepth 100000 in
set_option maxHeartbeats 2000000 in
theorem findSim_no (v : Value) (f : ByteArray → Option Value) (s : ByteArray) (n : Int) (w : World) (hv : Sim w v f) (hn : n ≤ 0) (hf : f s = none) : Calls Tryd.prog 23 #[v, .int .i64 n, .string s] w (FoundTo w 0 none) := by
  obtain ⟨p, m, rfl, b, hm⟩ := hv
  have t1 : ∀ w, (Instr.typeAssert (.iface 93 (.pointer (some ⟨p, 0, none⟩))) 58 90 true).run Tryd.prog w = .ok (.tuple #[.pointer none, .bool false]) w := fun _ => by kernel_rfl
  have t2 : ∀ w, (Instr.typeAssert (.iface 93 (.pointer (some ⟨p, 0, none⟩))) 58 88 true).run Tryd.prog w = .ok (.tuple #[.pointer none, .bool false]) w := fun _ => by kernel_rfl
  have t3 : ∀ w, (Instr.typeAssert (.iface 93 (.pointer (some ⟨p, 0, none⟩))) 58 93 true).run Tryd.prog w = .ok (.tuple #[.pointer (some ⟨p, 0, none⟩), .bool true]) w := fun _ => by kernel_rfl
  have c1 : w.cell? ⟨p, 1, none⟩ = some (.map (some m)) := b.cell 1
  have HM := Lib.hid hm
  have HF := Lib.hid hf
  have hp := b.lt
  clear hm hf b
  go_enter Tryd.func23, Tryd.ntmps23
  go_wp2_with ((at_lookup; refine wpList_getok _ rfl (.tmp 140) (.tmp 141) 96 rfl 9 66 Tryd.underlying96 Tryd.underlying9 _ zero_field m f rfl (HM.out.alloc _) s rfl ?_); rw [HF.out]; simp only [Option.getD_none, Option.isSome_none])
  refine bodyPost_ret (v := .tuple #[.bool false, .agg #[.nilIface, .int .i64 0], .map none, .slice none 0 0, .int .i64 0]) (by simp [results, Tryd.results23, go_sem]) rfl ⟨false, 0, 0, rfl, rfl, (fun k h => by cases h), by omega, ?_⟩
  exact ((Below.refl _ _).alloc (Nat.le_refl _) _).alloc (by simp) _
set_option maxRecDepth 100000 in
set_option maxHeartbeats 2000000 in
theorem findSim_yes (v : Value) (f : ByteArray → Option Value) (s : ByteArray) (n h : Int) (w : World) (hv : Sim w v f) (hn : n ≤ 0) (hf : f s = some (fldv h)) : Calls Tryd.prog 23 #[v, .int .i64 n, .string s] w (FoundTo w 0 (some 0)) := by
  obtain ⟨p, m, rfl, b, hm⟩ := hv
  have t1 : ∀ w, (Instr.typeAssert (.iface 93 (.pointer (some ⟨p, 0, none⟩))) 58 90 true).run Tryd.prog w = .ok (.tuple #[.pointer none, .bool false]) w := fun _ => by kernel_rfl
  have t2 : ∀ w, (Instr.typeAssert (.iface 93 (.pointer (some ⟨p, 0, none⟩))) 58 88 true).run Tryd.prog w = .ok (.tuple #[.pointer none, .bool false]) w := fun _ => by kernel_rfl
  have t3 : ∀ w, (Instr.typeAssert (.iface 93 (.pointer (some ⟨p, 0, none⟩))) 58 93 true).run Tryd.prog w = .ok (.tuple #[.pointer (some ⟨p, 0, none⟩), .bool true]) w := fun _ => by kernel_rfl
  have c0 : w.cell? ⟨p, 0, none⟩ = some (.map none) := b.cell 0
  have c1 : w.cell? ⟨p, 1, none⟩ = some (.map (some m)) := b.cell 1
  have c3 : w.cell? ⟨p, 3, none⟩ = some (.slice none 0 0) := b.cell 3
  have HM := Lib.hid hm
  have HF := Lib.hid hf
  have hp := b.lt
  clear hm hf b
  go_enter Tryd.func23, Tryd.ntmps23
  go_wp2_with ((at_lookup; refine wpList_getok _ rfl (.tmp 140) (.tmp 141) 96 rfl 9 66 Tryd.underlying96 Tryd.underlying9 _ zero_field m f rfl (HM.out.alloc _) s rfl ?_); rw [HF.out]; simp only [Option.getD_some, Option.isSome_some, fldv])
  have n1 : p ≠ w.heap.size := by omega
  have n2 : p ≠ w.heap.size + 1 := by omega
  go_region_held3 (fun w' => w'.cell? ⟨w.heap.size + 1, 0, none⟩ = some .nilIface ∧ w'.cell? ⟨w.heap.size + 1, 1, none⟩ = some (.int .i64 h) ∧ w'.cell? ⟨p, 0, none⟩ = some (.map none) ∧ w'.cell? ⟨p, 3, none⟩ = some (.slice none 0 0)) (go_keep) (fail)
  all_goals
    go_wp2
    refine bodyPost_ret (v := .tuple #[.bool true, .agg #[.nilIface, .int .i64 h], .map none, .slice none 0 0, .int .i64 0]) (by simp [results, Tryd.results23, go_sem]) rfl ⟨true, h, 0, rfl, rfl, (fun k h => by cases h; rfl), by omega, ?_⟩
    exact (((Below.refl _ _).alloc (Nat.le_refl _) _).alloc (by simp) _).drew
theorem findSim_any (v : Value) (f : ByteArray → Option Value) (s : ByteArray) (n : Int) (w : World) (hv : Sim w v f) (hf : Fv f) (hn : n ≤ 0) : Calls Tryd.prog 23 #[v, .int .i64 n, .string s] w (FoundTo w 0 (if (f s).isSome then some 0 else none)) := by
  cases h : f s with
  | none => exact findSim_no v f s n w hv hn h
  | some x =>
    obtain ⟨k, rfl⟩ := hf s x h
    exact findSim_yes v f s n k w hv hn h
end Go.Proofs.YthmijakellfbiaaDoor
