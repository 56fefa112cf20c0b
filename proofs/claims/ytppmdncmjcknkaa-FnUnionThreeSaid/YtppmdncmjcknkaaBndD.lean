/-
  Numbers in thunks. Conditions: none.
-/
import Derived.Test.YtppmdncmjcknkaaBndC
import Derived.Test.YtppmdncmjcknkaaBlk
import Derived.Test.YtppmdncmjcknkaaFloat
import Derived.RegionTactic
import Derived.Deep.RegionLaw
namespace Go.Proofs.Ytppmdncmjcknkaa
open Go.RowKit
set_option linter.unusedVariables false
set_option linter.unusedSimpArgs false

theorem made_any (x : Nat) (w : World) : Calls Try.prog 36 #[.float .f64 x] w fun e w' =>
    e = .returned (.pointer (some ⟨w.heap.size, 0, none⟩)) ∧ w' = w.alloc (.cells #[.float .f64 x] 58) := by
  go_enter Try.func36, Try.ntmps36
  go_wp2
  go_ret
  exact ⟨rfl, rfl⟩
theorem intval_any (n : Int) (w : World) : Calls Try.prog 30 #[.int .i64 n] w fun e w' =>
    e = .returned (.pointer (some ⟨w.heap.size, 0, none⟩)) ∧ w' = w.alloc (.cells #[.float .f64 (floatOfInt .f64 n)] 58) := by
  go_enter Try.func30, Try.ntmps30
  go_wp2_with fail
  go_at_call 36
  refine (made_any _ _).mono ?_
  rintro e' w1 ⟨rfl, rfl⟩
  go_wp2
  go_ret
  exact ⟨rfl, rfl⟩
theorem ready_any (t : TypeId) (v : Value) (w : World) : Calls Try.prog 29 #[.iface t v] w fun e w' =>
    e = .returned (.pointer (some ⟨w.heap.size, 0, none⟩)) ∧ w' = w.alloc (.cells #[.pointer none, .nilIface, .iface t v, .nilIface] 66) := by
  go_enter Try.func29, Try.ntmps29
  go_wp2
  go_ret
  exact ⟨rfl, rfl⟩

/-- A thunk that holds a whole number. -/
def Thk (w : World) (v : Value) (n : Int) : Prop := ∃ t p : Nat, v = .pointer (some ⟨t, 0, none⟩) ∧
  Blk w t 66 #[.pointer none, .nilIface, .iface 59 (.pointer (some ⟨p, 0, none⟩)), .nilIface] ∧ Blk w p 58 #[.float .f64 (floatOfInt .f64 n)]
/-- Thunks and numbers are as they were. -/
def NumKeep (w w' : World) : Prop := ∀ (g : Nat) (t : TypeId) (cs : Array Value), t = 66 ∨ t = 58 → Blk w g t cs → Blk w' g t cs
theorem Thk.keep {w w' : World} {v : Value} {n : Int} (h : Thk w v n) (hk : NumKeep w w') : Thk w' v n := by
  obtain ⟨t, p, e, h1, h2⟩ := h
  exact ⟨t, p, e, hk _ _ _ (.inl rfl) h1, hk _ _ _ (.inr rfl) h2⟩
theorem NumKeep.below {w w' : World} (h : Below w.heap.size w w') : NumKeep w w' := fun g t cs _ hb => hb.later h
theorem NumKeep.trans {a b c : World} (h : NumKeep a b) (k : NumKeep b c) : NumKeep a c := fun g t cs ht hb => k g t cs ht (h g t cs ht hb)
theorem NumKeep.grown {w w' : World} {base n size : Nat} {e : TypeId} {v : Value} {xs : List Value} (ho : w.ownsRow base e size v n xs) (hg : w.grownBy w' v.ownBlock) (h1 : e ≠ 66) (h2 : e ≠ 58) : NumKeep w w' := fun g t cs ht hb =>
  hb.grown hg (fun h => own_blk_ne ho hb (by rcases ht with rfl | rfl; exact h1; exact h2) h.symm)
theorem NumKeep.set_ {w : World} {g : Nat} {t : TypeId} {cs : Array Value} (h : Blk w g t cs) (h1 : t ≠ 66) (h2 : t ≠ 58) (i : Nat) (u : Value) : NumKeep w (w.setCell ⟨g, i, none⟩ u) := fun g' t' cs' ht hb =>
  hb.far (Blk.ne_ hb h (by rcases ht with rfl | rfl; exact Ne.symm h1; exact Ne.symm h2)) u
theorem NumKeep.mapped {w w' : World} {b : Nat} {es : Array MapEntry} {cl : Nat} (hm : w.heap[b]? = some (.map es cl)) (hg : w.grownBy w' (some b)) : NumKeep w w' := fun g t cs _ hb =>
  hb.grown hg (fun h => by injection h with h; subst h; unfold Blk at hb; rw [hm] at hb; cases hb)

theorem int_back (n : Int) (h : n.natAbs < 9007199254740992) : floatToIntVal .f64 (floatOfInt .f64 n) .i64 = some n := by
  show floatToIntVal .f64 (FloatKind.f64.nearest n) .i64 = some n
  obtain ⟨m, i, hd, hi, hs⟩ := int_read n h
  unfold floatToIntVal
  rw [toInt_word hd]
  simp only
  rw [hs, Int.mul_tdiv_cancel _ K_ne]
  rw [if_pos]
  show -9223372036854775808 ≤ n ∧ n ≤ 9223372036854775807
  omega

theorem info_ptr : (Try.prog.info? 53).map (fun i => (i.zero, i.size, i.bytes)) = some (some (.pointer none), 1, 8) := by kernel_rfl
theorem info_named : (Try.prog.info? 98).map (fun i => (i.zero, i.size, i.bytes)) = some (some (.agg #[.pointer none, .string ⟨#[]⟩]), 2, 24) := by kernel_rfl
theorem info_param : (Try.prog.info? 96).map (fun i => (i.zero, i.size, i.bytes)) = some (some (.agg #[.nilIface, .string ⟨#[]⟩]), 2, 32) := by kernel_rfl
theorem info_int : (Try.prog.info? 3).map (fun i => (i.zero, i.size, i.bytes)) = some (some (.int .i64 0), 1, 8) := by kernel_rfl
end Go.Proofs.Ytppmdncmjcknkaa
