/-
  Objects added to objects. Conditions: none. (Printed by gen_vise.py.)
-/
import Derived.Test.YthmijakellfbiaaDoorVisD
import Derived.Deep.RegionHeld3
namespace Go.Proofs.YthmijakellfbiaaDoor
open Go.RowKit
set_option linter.unusedVariables false
set_option linter.unusedSimpArgs false

theorem res_meth (p : Nat) (w : World) (nm : String) (h : nm = sizeName) : (method 343 88 (.pointer (some ⟨p, 0, none⟩)) nm).run Tryd.prog w = .ok (70, .pointer (some ⟨p, 0, none⟩)) w := by
  subst h
  kernel_rfl
def SzTo (w : World) (z : Int) (e : Ending) (w' : World) : Prop := e = .returned (.int .i64 z) ∧ w = w'
set_option maxRecDepth 100000 in
theorem sizeRes_any : ∀ (o : OT) (p b : Nat) (l : Value) (w : World), Blk w p 87 #[l, .map (some b)] → Obt w o l → sz o ≤ 900 → Calls Tryd.prog 70 #[.pointer (some ⟨p, 0, none⟩)] w (SzTo w ((sz o + 1 : Nat) : Int))
  | .simp n G, p, b, l, w, hb, ho, hz => by
    obtain ⟨q, m, rfl, _, _⟩ := ho
    have c0 : w.cell? ⟨p, 0, none⟩ = some (.iface 93 (.pointer (some ⟨q, 0, none⟩))) := hb.cell 0
    clear hb
    go_enter Tryd.func70, Tryd.ntmps70
    go_wp2_with fail
    rw [sim_meth _ _ _ (by kernel_rfl)]
    go_wp2_with (go_at_call 72; refine (sizeSim_any _ _).mono ?_; rintro e w' ⟨rfl, rfl⟩)
    go_ret
    exact ⟨rfl, rfl⟩
  | .ext o n G, p, b, l, w, hb, ho, hz => by
    obtain ⟨q, l', r', rfl, hb', _, _⟩ := ho
    have hz2 : sz o + 1 ≤ 900 := hz
    obtain ⟨z, hzz⟩ : ∃ z : Int, z = ((sz o + 1 : Nat) : Int) := ⟨_, rfl⟩
    have c0 : w.cell? ⟨p, 0, none⟩ = some (.iface 90 (.pointer (some ⟨q, 0, none⟩))) := hb.cell 0
    have c2 : w.cell? ⟨q, 2, none⟩ = some (.int .i64 z) := by rw [hzz]; exact hb'.cell 2
    have hz0 : 0 ≤ z ∧ z ≤ 900 := by omega
    obtain ⟨hz0, hz1⟩ := hz0
    have HZ := Lib.hid hzz
    clear hb hb' hzz hz hz2
    go_enter Tryd.func70, Tryd.ntmps70
    go_wp2_with fail
    rw [ext_meth _ _ _ (by kernel_rfl)]
    go_wp2_with (go_at_call 71; refine (sizeExt_cell _ z _ c2).mono ?_; rintro e w' ⟨rfl, rfl⟩)
    go_ret
    refine ⟨?_, rfl⟩
    have e : (1 : Int) + z = ((sz (.ext o n G) + 1 : Nat) : Int) := by show (1 : Int) + z = ((sz o + 1 + 1 : Nat) : Int); have := HZ.out; omega
    rw [← e]
    rfl
  | .res o n G, p, b, l, w, hb, ho, hz => by
    obtain ⟨q, b', l', rfl, hb', ho', _⟩ := ho
    have hz2 : sz o + 1 ≤ 900 := hz
    have H := Lib.hid (sizeRes_any o q b' l' w hb' ho' (by omega))
    obtain ⟨z, hzz⟩ : ∃ z : Int, z = ((sz o + 1 : Nat) : Int) := ⟨_, rfl⟩
    rw [← hzz] at H
    have c0 : w.cell? ⟨p, 0, none⟩ = some (.iface 88 (.pointer (some ⟨q, 0, none⟩))) := hb.cell 0
    have hz0 : 0 ≤ z ∧ z ≤ 900 := by omega
    obtain ⟨hz0, hz1⟩ := hz0
    have HZ := Lib.hid hzz
    clear hb hb' ho' hzz hz hz2
    go_enter Tryd.func70, Tryd.ntmps70
    go_wp2_with fail
    rw [res_meth _ _ _ (by kernel_rfl)]
    go_wp2_with (go_at_call 70; refine H.out.mono ?_; rintro e w' ⟨rfl, rfl⟩)
    go_ret
    refine ⟨?_, rfl⟩
    have e : (1 : Int) + z = ((sz (.res o n G) + 1 : Nat) : Int) := by show (1 : Int) + z = ((sz o + 1 + 1 : Nat) : Int); have := HZ.out; omega
    rw [← e]
    rfl
def ExtV (w : World) (o : OT) (n : Nat) (G : ByteArray → Option Int) (e : Ending) (w' : World) : Prop := ∃ r x, e = .returned (.pointer (some ⟨r, 0, none⟩)) ∧ Vob w' r x ∧ Obt w' (.ext o n G) x ∧ Below w.heap.size w w'
set_option maxRecDepth 100000 in
set_option maxHeartbeats 1000000 in
theorem mkV_sim (p q n : Nat) (m : Nat) (F : ByteArray → Option Int) (v u : Value) (G : ByteArray → Option Int) (w : World) (hz : sz (.simp m F) ≤ 900) (hp : Vob w p v) (hq : Vob w q u) (hv : Obt w (.simp m F) v) (hu : SimR w u n G) : Calls Tryd.prog 30 #[.pointer (some ⟨p, 0, none⟩), .pointer (some ⟨q, 0, none⟩)] w (ExtV w (.simp m F) n G) := by
  obtain ⟨c1, b1⟩ := hp
  obtain ⟨c2, b2⟩ := hq
  have HV := Lib.hid hv
  have HU := Lib.hid hu
  obtain ⟨pv, mv, rfl, -, -⟩ := hv
  obtain ⟨pu, mu, rfl, -, -⟩ := hu
  have k1 : w.cell? ⟨p, 2, none⟩ = some (.iface 93 (.pointer (some ⟨pv, 0, none⟩))) := b1.cell 2
  have k2 : w.cell? ⟨q, 2, none⟩ = some (.iface 93 (.pointer (some ⟨pu, 0, none⟩))) := b2.cell 2
  have hmc := make_cache
  have lp := b1.lt
  have lq := b2.lt
  clear b1 b2
  go_enter Tryd.func30, Tryd.ntmps30
  go_wp2_with fail
  go_region_held3 (fun w' => w'.cell? ⟨p, 2, none⟩ = some (.iface 93 (.pointer (some ⟨pv, 0, none⟩))) ∧ w'.cell? ⟨q, 2, none⟩ = some (.iface 93 (.pointer (some ⟨pu, 0, none⟩))))
    (first | exact ⟨by assumption, by assumption⟩ | exact ⟨cell_al _ k1, cell_al _ k2⟩ | exact ⟨cell_al _ (cell_al _ k1), cell_al _ (cell_al _ k2)⟩ | exact ⟨cell_al _ (cell_al _ (cell_al _ k1)), cell_al _ (cell_al _ (cell_al _ k2))⟩ | go_keep)
    (first
      | (rw [sim_meth _ _ _ (by kernel_rfl)]; go_simp; go_at_call 72; refine (sizeSim_any _ _).mono ?_; rintro e w' ⟨rfl, rfl⟩)
      | (fail))
  all_goals
    go_wp2
    go_ret
    refine ⟨_, _, rfl, ⟨_, (Blk.new_at (by simp)).drew⟩, ⟨_, .iface 93 (.pointer (some ⟨pv, 0, none⟩)), .iface 93 (.pointer (some ⟨pu, 0, none⟩)), rfl, ?_, ?_, ?_⟩, ?_⟩
    · have e : (2 : Int) = ((sz (.simp m F) + 1 : Nat) : Int) := by
        rfl
      rw [← e]
      first | exact ((Blk.new_at (by simp)).alloc _).drew | exact (((Blk.new_at (by simp)).alloc _).alloc _).drew
    · exact Obt.below ((((Below.refl _ _).alloc (Nat.le_refl _) _).alloc (by simp) _).alloc (by simp; omega) _).drew HV.out
    · exact SimR.below HU.out ((((Below.refl _ _).alloc (Nat.le_refl _) _).alloc (by simp) _).alloc (by simp; omega) _).drew
    · exact ((((Below.refl _ _).alloc (Nat.le_refl _) _).alloc (by simp) _).alloc (by simp; omega) _).drew
set_option maxRecDepth 100000 in
set_option maxHeartbeats 1000000 in
theorem mkV_ext (p q n : Nat) (o : OT) (m : Nat) (F : ByteArray → Option Int) (v u : Value) (G : ByteArray → Option Int) (w : World) (hz : sz (.ext o m F) ≤ 900) (hp : Vob w p v) (hq : Vob w q u) (hv : Obt w (.ext o m F) v) (hu : SimR w u n G) : Calls Tryd.prog 30 #[.pointer (some ⟨p, 0, none⟩), .pointer (some ⟨q, 0, none⟩)] w (ExtV w (.ext o m F) n G) := by
  obtain ⟨c1, b1⟩ := hp
  obtain ⟨c2, b2⟩ := hq
  have HV := Lib.hid hv
  have HU := Lib.hid hu
  obtain ⟨pv, l', r', rfl, be, -, -⟩ := hv
  obtain ⟨z, hzz⟩ : ∃ z : Int, z = ((sz o + 1 : Nat) : Int) := ⟨_, rfl⟩
  have hz2 : sz o + 1 ≤ 900 := hz
  have hz0 : 0 ≤ z ∧ z ≤ 900 := by omega
  obtain ⟨hz0, hz1⟩ := hz0
  have k3 : w.cell? ⟨pv, 2, none⟩ = some (.int .i64 z) := by rw [hzz]; exact be.cell 2
  have HZ := Lib.hid hzz
  clear be hzz hz hz2
  obtain ⟨pu, mu, rfl, -, -⟩ := hu
  have k1 : w.cell? ⟨p, 2, none⟩ = some (.iface 90 (.pointer (some ⟨pv, 0, none⟩))) := b1.cell 2
  have k2 : w.cell? ⟨q, 2, none⟩ = some (.iface 93 (.pointer (some ⟨pu, 0, none⟩))) := b2.cell 2
  have hmc := make_cache
  have lp := b1.lt
  have lq := b2.lt
  clear b1 b2
  go_enter Tryd.func30, Tryd.ntmps30
  go_wp2_with fail
  go_region_held3 (fun w' => w'.cell? ⟨p, 2, none⟩ = some (.iface 90 (.pointer (some ⟨pv, 0, none⟩))) ∧ w'.cell? ⟨q, 2, none⟩ = some (.iface 93 (.pointer (some ⟨pu, 0, none⟩))) ∧ w'.cell? ⟨pv, 2, none⟩ = some (.int .i64 z))
    (first | exact ⟨by assumption, by assumption, by assumption⟩ | exact ⟨cell_al _ k1, cell_al _ k2, cell_al _ k3⟩ | exact ⟨cell_al _ (cell_al _ k1), cell_al _ (cell_al _ k2), cell_al _ (cell_al _ k3)⟩ | exact ⟨cell_al _ (cell_al _ (cell_al _ k1)), cell_al _ (cell_al _ (cell_al _ k2)), cell_al _ (cell_al _ (cell_al _ k3))⟩ | go_keep)
    (first
      | (rw [sim_meth _ _ _ (by kernel_rfl)]; go_simp; go_at_call 72; refine (sizeSim_any _ _).mono ?_; rintro e w' ⟨rfl, rfl⟩)
      | (rw [ext_meth _ _ _ (by kernel_rfl)]; go_simp; go_at_call 71; refine (sizeExt_cell _ z _ (by first | assumption | exact k3 | exact cell_al _ k3 | exact cell_al _ (cell_al _ k3) | exact cell_al _ (cell_al _ (cell_al _ k3)))).mono ?_; rintro e w' ⟨rfl, rfl⟩))
  all_goals
    go_wp2
    go_ret
    refine ⟨_, _, rfl, ⟨_, (Blk.new_at (by simp)).drew⟩, ⟨_, .iface 90 (.pointer (some ⟨pv, 0, none⟩)), .iface 93 (.pointer (some ⟨pu, 0, none⟩)), rfl, ?_, ?_, ?_⟩, ?_⟩
    · have e : IntKind.i64.wrap (z + 1) = ((sz (.ext o m F) + 1 : Nat) : Int) := by
        show IntKind.i64.wrap (z + 1) = ((sz o + 1 + 1 : Nat) : Int)
        have := HZ.out
        rw [IntKind.wrap_i64]
        omega
      rw [← e]
      first | exact ((Blk.new_at (by simp)).alloc _).drew | exact (((Blk.new_at (by simp)).alloc _).alloc _).drew
    · exact Obt.below ((((Below.refl _ _).alloc (Nat.le_refl _) _).alloc (by simp) _).alloc (by simp; omega) _).drew HV.out
    · exact SimR.below HU.out ((((Below.refl _ _).alloc (Nat.le_refl _) _).alloc (by simp) _).alloc (by simp; omega) _).drew
    · exact ((((Below.refl _ _).alloc (Nat.le_refl _) _).alloc (by simp) _).alloc (by simp; omega) _).drew
set_option maxRecDepth 100000 in
set_option maxHeartbeats 1000000 in
theorem mkV_res (p q n : Nat) (o : OT) (m : Nat) (F : ByteArray → Option Int) (v u : Value) (G : ByteArray → Option Int) (w : World) (hz : sz (.res o m F) ≤ 900) (hp : Vob w p v) (hq : Vob w q u) (hv : Obt w (.res o m F) v) (hu : SimR w u n G) : Calls Tryd.prog 30 #[.pointer (some ⟨p, 0, none⟩), .pointer (some ⟨q, 0, none⟩)] w (ExtV w (.res o m F) n G) := by
  obtain ⟨c1, b1⟩ := hp
  obtain ⟨c2, b2⟩ := hq
  have HV := Lib.hid hv
  have HU := Lib.hid hu
  obtain ⟨pv, bv, l', rfl, be, hi, -⟩ := hv
  obtain ⟨z, hzz⟩ : ∃ z : Int, z = ((sz o + 1 : Nat) : Int) := ⟨_, rfl⟩
  have hz2 : sz o + 1 ≤ 900 := hz
  have hz0 : 0 ≤ z ∧ z ≤ 900 := by omega
  obtain ⟨hz0, hz1⟩ := hz0
  have HS : Hid (∀ w', Blk w' pv 87 #[l', .map (some bv)] → Obt w' o l' → Calls Tryd.prog 70 #[.pointer (some ⟨pv, 0, none⟩)] w' (SzTo w' z)) := fun w' h1 h2 => by rw [hzz]; exact sizeRes_any o pv bv l' w' h1 h2 (by omega)
  have HB := Lib.hid be
  have HI := Lib.hid hi
  have HZ := Lib.hid hzz
  clear be hi hzz hz hz2
  obtain ⟨pu, mu, rfl, -, -⟩ := hu
  have k1 : w.cell? ⟨p, 2, none⟩ = some (.iface 88 (.pointer (some ⟨pv, 0, none⟩))) := b1.cell 2
  have k2 : w.cell? ⟨q, 2, none⟩ = some (.iface 93 (.pointer (some ⟨pu, 0, none⟩))) := b2.cell 2
  have hmc := make_cache
  have lp := b1.lt
  have lq := b2.lt
  clear b1 b2
  go_enter Tryd.func30, Tryd.ntmps30
  go_wp2_with fail
  go_region_held3 (fun w' => w'.cell? ⟨p, 2, none⟩ = some (.iface 88 (.pointer (some ⟨pv, 0, none⟩))) ∧ w'.cell? ⟨q, 2, none⟩ = some (.iface 93 (.pointer (some ⟨pu, 0, none⟩))))
    (first | exact ⟨by assumption, by assumption⟩ | exact ⟨cell_al _ k1, cell_al _ k2⟩ | exact ⟨cell_al _ (cell_al _ k1), cell_al _ (cell_al _ k2)⟩ | exact ⟨cell_al _ (cell_al _ (cell_al _ k1)), cell_al _ (cell_al _ (cell_al _ k2))⟩ | go_keep)
    (first
      | (rw [sim_meth _ _ _ (by kernel_rfl)]; go_simp; go_at_call 72; refine (sizeSim_any _ _).mono ?_; rintro e w' ⟨rfl, rfl⟩)
      | (rw [res_meth _ _ _ (by kernel_rfl)]; go_simp; go_at_call 70; refine (HS.out _ (by first | exact HB.out | exact HB.out.alloc _ | exact (HB.out.alloc _).alloc _ | exact ((HB.out.alloc _).alloc _).alloc _) (by first | exact HI.out | exact HI.out.below (Below.refl _ _).drew | exact HI.out.below ((Below.refl _ _).alloc (Nat.le_refl _) _).drew | exact HI.out.below (((Below.refl _ _).alloc (Nat.le_refl _) _).alloc (by simp) _).drew | exact HI.out.below ((((Below.refl _ _).alloc (Nat.le_refl _) _).alloc (by simp) _).alloc (by simp; omega) _).drew | exact HI.out.below ((Below.refl _ _).alloc (Nat.le_refl _) _) | exact HI.out.below (((Below.refl _ _).alloc (Nat.le_refl _) _).alloc (by simp) _) | exact HI.out.below ((((Below.refl _ _).alloc (Nat.le_refl _) _).alloc (by simp) _).alloc (by simp; omega) _))).mono ?_; rintro e w' ⟨rfl, rfl⟩))
  all_goals
    go_wp2
    go_ret
    refine ⟨_, _, rfl, ⟨_, (Blk.new_at (by simp)).drew⟩, ⟨_, .iface 88 (.pointer (some ⟨pv, 0, none⟩)), .iface 93 (.pointer (some ⟨pu, 0, none⟩)), rfl, ?_, ?_, ?_⟩, ?_⟩
    · have e : IntKind.i64.wrap (z + 1) = ((sz (.res o m F) + 1 : Nat) : Int) := by
        show IntKind.i64.wrap (z + 1) = ((sz o + 1 + 1 : Nat) : Int)
        have := HZ.out
        rw [IntKind.wrap_i64]
        omega
      rw [← e]
      first | exact ((Blk.new_at (by simp)).alloc _).drew | exact (((Blk.new_at (by simp)).alloc _).alloc _).drew
    · exact Obt.below ((((Below.refl _ _).alloc (Nat.le_refl _) _).alloc (by simp) _).alloc (by simp; omega) _).drew HV.out
    · exact SimR.below HU.out ((((Below.refl _ _).alloc (Nat.le_refl _) _).alloc (by simp) _).alloc (by simp; omega) _).drew
    · exact ((((Below.refl _ _).alloc (Nat.le_refl _) _).alloc (by simp) _).alloc (by simp; omega) _).drew
theorem mkV_any (p q n : Nat) (v u : Value) (o : OT) (G : ByteArray → Option Int) (w : World) (hz : sz o ≤ 900) (hp : Vob w p v) (hq : Vob w q u) (hv : Obt w o v) (hu : SimR w u n G) : Calls Tryd.prog 30 #[.pointer (some ⟨p, 0, none⟩), .pointer (some ⟨q, 0, none⟩)] w (ExtV w o n G) := by
  match o, hz, hv with
  | .simp m F, hz, hv => exact mkV_sim p q n m F v u G w hz hp hq hv hu
  | .ext o m F, hz, hv => exact mkV_ext p q n o m F v u G w hz hp hq hv hu
  | .res o m F, hz, hv => exact mkV_res p q n o m F v u G w hz hp hq hv hu
end Go.Proofs.YthmijakellfbiaaDoor
