/-
  The builder's leaves. Conditions: none.
-/
import Derived.Test.YtionkdlcagikaaaPrcD
namespace Go.Proofs.Ytionkdlcagikaaa
open Go.RowKit
set_option linter.unusedVariables false
set_option linter.unusedSimpArgs false

theorem Bld.core {w : World} {base gb c : Nat} {A : Option Addr} {T : List Nd} (h : Bld w base gb A c T) : w.cell? ⟨gb, 1, none⟩ = some (.bool false) := by
  obtain ⟨_, _, gp, ps, _, h4, _⟩ := h
  exact h4.cell 1
def PtrTo (w : World) (e : Ending) (w' : World) : Prop := ∃ g : Nat, e = .returned (.pointer (some ⟨g, 0, none⟩)) ∧ Below w.heap.size w w'
/-- A node of a kind. -/
def LeafTo (t : TypeId) (w : World) (e : Ending) (w' : World) : Prop := ∃ g : Nat, e = .returned (.iface t (.pointer (some ⟨g, 0, none⟩))) ∧ Below w.heap.size w w'
def NilTo (w : World) (e : Ending) (w' : World) : Prop := e = .returned Value.nilIface ∧ Below w.heap.size w w'
theorem str_any (gb : Nat) (s : ByteArray) (w : World) (h : w.cell? ⟨gb, 1, none⟩ = some (.bool false)) :
    Calls Try.prog 21 #[.pointer (some ⟨gb, 0, none⟩), .string s] w (PtrTo w) := by
  go_enter Try.func21, Try.ntmps21
  go_wp2
  go_ret
  exact ⟨_, rfl, (Below.refl _ _).alloc (Nat.le_refl _) _⟩
set_option maxRecDepth 100000 in
theorem leaf_num (gb : Nat) (op : Int) (s : ByteArray) (fl sz : Int) (w : World) :
    Calls Try.prog 16 #[.pointer (some ⟨gb, 0, none⟩), .agg #[.int .i64 4, .int .i64 op, .string s, .int .i64 fl, .int .i64 sz]] w (LeafTo 90 w) := by
  go_enter Try.func16, Try.ntmps16
  go_wp2
  go_ret
  exact ⟨_, rfl, ((Below.refl _ _).alloc (Nat.le_refl _) _).alloc (by simp) _⟩
set_option maxRecDepth 100000 in
theorem leaf_self (gb : Nat) (op : Int) (s : ByteArray) (fl sz : Int) (w : World) :
    Calls Try.prog 16 #[.pointer (some ⟨gb, 0, none⟩), .agg #[.int .i64 6, .int .i64 op, .string s, .int .i64 fl, .int .i64 sz]] w (LeafTo 95 w) := by
  go_enter Try.func16, Try.ntmps16
  go_wp2
  go_ret
  exact ⟨_, rfl, ((Below.refl _ _).alloc (Nat.le_refl _) _).alloc (by simp) _⟩
set_option maxRecDepth 100000 in
theorem leaf_var (gb : Nat) (op : Int) (s : ByteArray) (fl sz : Int) (w : World) :
    Calls Try.prog 16 #[.pointer (some ⟨gb, 0, none⟩), .agg #[.int .i64 8, .int .i64 op, .string s, .int .i64 fl, .int .i64 sz]] w (LeafTo 99 w) := by
  go_enter Try.func16, Try.ntmps16
  go_wp2
  go_ret
  exact ⟨_, rfl, ((Below.refl _ _).alloc (Nat.le_refl _) _).alloc (by simp) _⟩
set_option maxRecDepth 100000 in
theorem leaf_str (gb : Nat) (op : Int) (s : ByteArray) (fl sz : Int) (w : World) (h : w.cell? ⟨gb, 1, none⟩ = some (.bool false)) :
    Calls Try.prog 16 #[.pointer (some ⟨gb, 0, none⟩), .agg #[.int .i64 5, .int .i64 op, .string s, .int .i64 fl, .int .i64 sz]] w (LeafTo 93 w) := by
  go_enter Try.func16, Try.ntmps16
  have hc : (w.alloc (.cells #[.int .i64 5, .int .i64 op, .string s, .int .i64 fl, .int .i64 sz] 23)).cell? ⟨gb, 1, none⟩ = some (.bool false) := cell_below h ((Below.refl _ _).alloc (Nat.le_refl _) _)
  go_wp2_with fail
  go_at_call 21
  refine (str_any gb s _ hc).mono ?_
  rintro e w1 ⟨g, rfl, hb⟩
  have HB : Hid (Below w.heap.size w w1) := ((Below.refl _ _).alloc (Nat.le_refl _) _).trans (hb.mono (by simp))
  have hs := HB.out.size
  clear hb hc
  go_wp2
  go_ret
  exact ⟨_, rfl, by first | exact HB.out | exact HB.out.alloc hs _⟩
set_option maxRecDepth 100000 in
theorem leaf_imp (gb : Nat) (op : Int) (s : ByteArray) (fl sz : Int) (w : World) (h : w.cell? ⟨gb, 1, none⟩ = some (.bool false)) :
    Calls Try.prog 16 #[.pointer (some ⟨gb, 0, none⟩), .agg #[.int .i64 26, .int .i64 op, .string s, .int .i64 fl, .int .i64 sz]] w (LeafTo 75 w) := by
  go_enter Try.func16, Try.ntmps16
  have hc : (w.alloc (.cells #[.int .i64 26, .int .i64 op, .string s, .int .i64 fl, .int .i64 sz] 23)).cell? ⟨gb, 1, none⟩ = some (.bool false) := cell_below h ((Below.refl _ _).alloc (Nat.le_refl _) _)
  go_wp2_with fail
  go_at_call 21
  refine (str_any gb s _ hc).mono ?_
  rintro e w1 ⟨g, rfl, hb⟩
  have HB : Hid (Below w.heap.size w w1) := ((Below.refl _ _).alloc (Nat.le_refl _) _).trans (hb.mono (by simp))
  have hs := HB.out.size
  clear hb hc
  go_wp2
  go_ret
  exact ⟨_, rfl, by first | exact HB.out | exact HB.out.alloc hs _⟩
set_option maxRecDepth 100000 in
theorem leaf_15 (gb : Nat) (op : Int) (s : ByteArray) (fl sz : Int) (w : World) :
    Calls Try.prog 16 #[.pointer (some ⟨gb, 0, none⟩), .agg #[.int .i64 15, .int .i64 op, .string s, .int .i64 fl, .int .i64 sz]] w (NilTo w) := by
  go_enter Try.func16, Try.ntmps16
  go_wp2
  go_ret
  exact ⟨rfl, (Below.refl _ _).alloc (Nat.le_refl _) _⟩
set_option maxRecDepth 100000 in
theorem leaf_18 (gb : Nat) (op : Int) (s : ByteArray) (fl sz : Int) (w : World) :
    Calls Try.prog 16 #[.pointer (some ⟨gb, 0, none⟩), .agg #[.int .i64 18, .int .i64 op, .string s, .int .i64 fl, .int .i64 sz]] w (NilTo w) := by
  go_enter Try.func16, Try.ntmps16
  go_wp2
  go_ret
  exact ⟨rfl, (Below.refl _ _).alloc (Nat.le_refl _) _⟩
set_option maxRecDepth 100000 in
theorem leaf_20 (gb : Nat) (op : Int) (s : ByteArray) (fl sz : Int) (w : World) :
    Calls Try.prog 16 #[.pointer (some ⟨gb, 0, none⟩), .agg #[.int .i64 20, .int .i64 op, .string s, .int .i64 fl, .int .i64 sz]] w (NilTo w) := by
  go_enter Try.func16, Try.ntmps16
  go_wp2
  go_ret
  exact ⟨rfl, (Below.refl _ _).alloc (Nat.le_refl _) _⟩
set_option maxRecDepth 100000 in
theorem leaf_21 (gb : Nat) (op : Int) (s : ByteArray) (fl sz : Int) (w : World) :
    Calls Try.prog 16 #[.pointer (some ⟨gb, 0, none⟩), .agg #[.int .i64 21, .int .i64 op, .string s, .int .i64 fl, .int .i64 sz]] w (NilTo w) := by
  go_enter Try.func16, Try.ntmps16
  go_wp2
  go_ret
  exact ⟨rfl, (Below.refl _ _).alloc (Nat.le_refl _) _⟩
set_option maxRecDepth 100000 in
theorem leaf_22 (gb : Nat) (op : Int) (s : ByteArray) (fl sz : Int) (w : World) :
    Calls Try.prog 16 #[.pointer (some ⟨gb, 0, none⟩), .agg #[.int .i64 22, .int .i64 op, .string s, .int .i64 fl, .int .i64 sz]] w (NilTo w) := by
  go_enter Try.func16, Try.ntmps16
  go_wp2
  go_ret
  exact ⟨rfl, (Below.refl _ _).alloc (Nat.le_refl _) _⟩
set_option maxRecDepth 100000 in
theorem leaf_23 (gb : Nat) (op : Int) (s : ByteArray) (fl sz : Int) (w : World) :
    Calls Try.prog 16 #[.pointer (some ⟨gb, 0, none⟩), .agg #[.int .i64 23, .int .i64 op, .string s, .int .i64 fl, .int .i64 sz]] w (NilTo w) := by
  go_enter Try.func16, Try.ntmps16
  go_wp2
  go_ret
  exact ⟨rfl, (Below.refl _ _).alloc (Nat.le_refl _) _⟩
set_option maxRecDepth 100000 in
theorem leaf_24 (gb : Nat) (op : Int) (s : ByteArray) (fl sz : Int) (w : World) :
    Calls Try.prog 16 #[.pointer (some ⟨gb, 0, none⟩), .agg #[.int .i64 24, .int .i64 op, .string s, .int .i64 fl, .int .i64 sz]] w (NilTo w) := by
  go_enter Try.func16, Try.ntmps16
  go_wp2
  go_ret
  exact ⟨rfl, (Below.refl _ _).alloc (Nat.le_refl _) _⟩
set_option maxRecDepth 100000 in
theorem leaf_30 (gb : Nat) (op : Int) (s : ByteArray) (fl sz : Int) (w : World) :
    Calls Try.prog 16 #[.pointer (some ⟨gb, 0, none⟩), .agg #[.int .i64 30, .int .i64 op, .string s, .int .i64 fl, .int .i64 sz]] w (NilTo w) := by
  go_enter Try.func16, Try.ntmps16
  go_wp2
  go_ret
  exact ⟨rfl, (Below.refl _ _).alloc (Nat.le_refl _) _⟩
end Go.Proofs.Ytionkdlcagikaaa
