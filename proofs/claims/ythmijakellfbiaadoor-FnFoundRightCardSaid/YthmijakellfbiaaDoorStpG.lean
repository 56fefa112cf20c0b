/-
  Objects added. Conditions: none.
-/
import Derived.Test.YthmijakellfbiaaDoorStpF
import Derived.Deep.RegionHeld3
namespace Go.Proofs.YthmijakellfbiaaDoor
open Go.RowKit
set_option linter.unusedVariables false
set_option linter.unusedSimpArgs false

def ExtTo (w : World) (fs : List (ByteArray → Option Value)) (e : Ending) (w' : World) : Prop := ∃ r x, e = .returned (.pointer (some ⟨r, 0, none⟩)) ∧ Vob w' r x ∧ Tree w' x fs ∧ Below w.heap.size w w'
theorem cell_al {w : World} {p : Addr} {v : Value} (o : Obj) (h : w.cell? p = some v) : (w.alloc o).cell? p = some v := cell_below h ((Below.refl _ _).alloc (Nat.le_refl _) _)
set_option maxRecDepth 100000 in
set_option maxHeartbeats 1000000 in
theorem mkExt_one (p q : Nat) (v u : Value) (f g : ByteArray → Option Value) (w : World) (hp : Vob w p v) (hq : Vob w q u) (hv : Sim w v g) (hu : Sim w u f) : Calls Tryd.prog 30 #[.pointer (some ⟨p, 0, none⟩), .pointer (some ⟨q, 0, none⟩)] w (ExtTo w [f, g]) := by
  obtain ⟨c1, b1⟩ := hp
  obtain ⟨c2, b2⟩ := hq
  obtain ⟨pv, mv, rfl, v1, v2⟩ := hv
  obtain ⟨pu, mu, rfl, u1, u2⟩ := hu
  have k1 : w.cell? ⟨p, 2, none⟩ = some (.iface 93 (.pointer (some ⟨pv, 0, none⟩))) := b1.cell 2
  have k2 : w.cell? ⟨q, 2, none⟩ = some (.iface 93 (.pointer (some ⟨pu, 0, none⟩))) := b2.cell 2
  have hmc := make_cache
  have lp := b1.lt
  have lq := b2.lt
  go_enter Tryd.func30, Tryd.ntmps30
  go_wp2_with fail
  go_region_held3 (fun w' => w'.cell? ⟨p, 2, none⟩ = some (.iface 93 (.pointer (some ⟨pv, 0, none⟩))) ∧ w'.cell? ⟨q, 2, none⟩ = some (.iface 93 (.pointer (some ⟨pu, 0, none⟩))))
    (first | exact ⟨by assumption, by assumption⟩ | exact ⟨cell_al _ k1, cell_al _ k2⟩ | exact ⟨cell_al _ (cell_al _ k1), cell_al _ (cell_al _ k2)⟩ | exact ⟨cell_al _ (cell_al _ (cell_al _ k1)), cell_al _ (cell_al _ (cell_al _ k2))⟩ | go_keep)
    (first | (rw [sim_meth _ _ _ (by kernel_rfl)]; go_simp; go_at_call 72; refine (sizeSim_any _ _).mono ?_; rintro e w' ⟨rfl, rfl⟩))
  all_goals
    go_wp2
    go_ret
    refine ⟨_, _, rfl, ⟨_, (Blk.new_at (by simp)).drew⟩, ⟨_, _, _, rfl, ?_, ⟨pu, mu, rfl, ?_, ?_⟩, ⟨pv, mv, rfl, ?_, ?_⟩⟩, ?_⟩
    · first | exact ((Blk.new_at (by simp)).alloc _).drew | exact (((Blk.new_at (by simp)).alloc _).alloc _).drew
    · exact (((u1.alloc _).alloc _).alloc _).drew
    · exact ((u2.alloc _).alloc _).alloc _
    · exact (((v1.alloc _).alloc _).alloc _).drew
    · exact ((v2.alloc _).alloc _).alloc _
    · exact ((((Below.refl _ _).alloc (Nat.le_refl _) _).alloc (by simp) _).alloc (by simp; omega) _).drew
set_option maxRecDepth 100000 in
set_option maxHeartbeats 1000000 in
theorem mkExt_two (p q n : Nat) (v u : Value) (f g h : ByteArray → Option Value) (fs : List (ByteArray → Option Value)) (hn : fs.length + 2 = n) (hn2 : n ≤ 1000) (w : World) (hp : Vob w p v) (hq : Vob w q u) (hv : Tree w v (g :: h :: fs)) (hu : Sim w u f) : Calls Tryd.prog 30 #[.pointer (some ⟨p, 0, none⟩), .pointer (some ⟨q, 0, none⟩)] w (ExtTo w (f :: g :: h :: fs)) := by
  obtain ⟨c1, b1⟩ := hp
  obtain ⟨c2, b2⟩ := hq
  have HV := Lib.hid hv
  obtain ⟨pe, l, r, rfl, be, v1, v2⟩ := hv
  obtain ⟨pu, mu, rfl, u1, u2⟩ := hu
  rw [hn] at be
  have k1 : w.cell? ⟨p, 2, none⟩ = some (.iface 90 (.pointer (some ⟨pe, 0, none⟩))) := b1.cell 2
  have k2 : w.cell? ⟨q, 2, none⟩ = some (.iface 93 (.pointer (some ⟨pu, 0, none⟩))) := b2.cell 2
  have k3 : w.cell? ⟨pe, 2, none⟩ = some (.int .i64 (n : Int)) := be.cell 2
  have hmc := make_cache
  have lp := b1.lt
  have lq := b2.lt
  have Hn := Lib.hid hn
  clear hn v1 v2 be
  go_enter Tryd.func30, Tryd.ntmps30
  go_wp2_with fail
  go_region_held3 (fun w' => w'.cell? ⟨p, 2, none⟩ = some (.iface 90 (.pointer (some ⟨pe, 0, none⟩))) ∧ w'.cell? ⟨q, 2, none⟩ = some (.iface 93 (.pointer (some ⟨pu, 0, none⟩))) ∧ w'.cell? ⟨pe, 2, none⟩ = some (.int .i64 (n : Int)))
    (first | exact ⟨by assumption, by assumption, by assumption⟩ | exact ⟨cell_al _ k1, cell_al _ k2, cell_al _ k3⟩ | exact ⟨cell_al _ (cell_al _ k1), cell_al _ (cell_al _ k2), cell_al _ (cell_al _ k3)⟩ | exact ⟨cell_al _ (cell_al _ (cell_al _ k1)), cell_al _ (cell_al _ (cell_al _ k2)), cell_al _ (cell_al _ (cell_al _ k3))⟩ | go_keep)
    (first
      | (rw [sim_meth _ _ _ (by kernel_rfl)]; go_simp; go_at_call 72; refine (sizeSim_any _ _).mono ?_; rintro e w' ⟨rfl, rfl⟩)
      | (rw [ext_meth _ _ _ (by kernel_rfl)]; go_simp; go_at_call 71; refine (sizeExt_cell _ (n : Int) _ (by first | assumption | exact k3 | exact cell_al _ k3 | exact cell_al _ (cell_al _ k3) | exact cell_al _ (cell_al _ (cell_al _ k3)))).mono ?_; rintro e w' ⟨rfl, rfl⟩))
  all_goals
    go_wp2
    go_ret
    refine ⟨_, _, rfl, ⟨_, (Blk.new_at (by simp)).drew⟩, ⟨_, .iface 90 (.pointer (some ⟨pe, 0, none⟩)), .iface 93 (.pointer (some ⟨pu, 0, none⟩)), rfl, ?_, ⟨pu, mu, rfl, ?_, ?_⟩, ?_⟩, ?_⟩
    · have e : IntKind.i64.wrap ((n : Int) + 1) = (((h :: fs).length + 2 : Nat) : Int) := by
        have := Hn.out
        show IntKind.i64.wrap ((n : Int) + 1) = ((fs.length + 1 + 2 : Nat) : Int)
        rw [IntKind.wrap_i64]
        omega
      rw [← e]
      first | exact ((Blk.new_at (by simp)).alloc _).drew | exact (((Blk.new_at (by simp)).alloc _).alloc _).drew
    · exact (((u1.alloc _).alloc _).alloc _).drew
    · exact ((u2.alloc _).alloc _).alloc _
    · exact Tree.below ((((Below.refl _ _).alloc (Nat.le_refl _) _).alloc (by simp) _).alloc (by simp; omega) _).drew HV.out
    · exact ((((Below.refl _ _).alloc (Nat.le_refl _) _).alloc (by simp) _).alloc (by simp; omega) _).drew
theorem mkExt_any (p q : Nat) (v u : Value) (f : ByteArray → Option Value) (fs : List (ByteArray → Option Value)) (hn : fs.length ≤ 1000) (w : World) (hp : Vob w p v) (hq : Vob w q u) (hv : Tree w v fs) (hu : Sim w u f) : Calls Tryd.prog 30 #[.pointer (some ⟨p, 0, none⟩), .pointer (some ⟨q, 0, none⟩)] w (ExtTo w (f :: fs)) := by
  match fs, hn, hv with
  | [], _, hv => exact False.elim hv
  | [g], _, hv => exact mkExt_one p q v u f g w hp hq hv hu
  | g :: h :: fs, hn, hv => exact mkExt_two p q _ v u f g h fs rfl (by simpa using hn) w hp hq hv hu
end Go.Proofs.YthmijakellfbiaaDoor
