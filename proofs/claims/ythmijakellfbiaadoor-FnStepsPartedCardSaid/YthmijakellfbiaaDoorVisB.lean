/-
  How the fields of an object are seen. Conditions: none.
-/
import Derived.Test.YthmijakellfbiaaDoorVisA
namespace Go.Proofs.YthmijakellfbiaaDoor
open Go.RowKit
set_option linter.unusedVariables false
set_option linter.unusedSimpArgs false

def intv (G : ByteArray → Option Int) : ByteArray → Option Value := fun s => (G s).map (Value.int .i64)
theorem intv_some {G : ByteArray → Option Int} {s : ByteArray} {v : Value} (h : intv G s = some v) : ∃ x, G s = some x ∧ v = .int .i64 x := by
  unfold intv at h
  cases hg : G s with
  | none => rw [hg] at h; cases h
  | some x => rw [hg] at h; injection h with h; exact ⟨x, rfl, h.symm⟩
theorem fv_some {G : ByteArray → Option Int} {s : ByteArray} {v : Value} (h : fv G s = some v) : ∃ x, G s = some x ∧ v = .agg #[.nilIface, .int .i64 x] := by
  unfold fv at h
  cases hg : G s with
  | none => rw [hg] at h; cases h
  | some x => rw [hg] at h; injection h with h; exact ⟨x, rfl, h.symm⟩
/-- Those entries of f that have been met, the others from g. -/
def Met (D : List ByteArray) (f g h : ByteArray → Option Value) : Prop := ∀ s, (s ∈ D → h s = f s) ∧ (s ∉ D → h s = g s)
theorem Met.nil (f g : ByteArray → Option Value) : Met [] f g g := fun s => ⟨fun h => by simp at h, fun _ => rfl⟩
theorem Met.step {D : List ByteArray} {f g h : ByteArray → Option Value} {s : ByteArray} {v : Value} (hm : Met D f g h) (hv : f s = some v) : Met (D ++ [s]) f g (fun x => if s = x then some v else h x) := fun x => by
  by_cases e : s = x
  · subst e
    simp only [if_pos]
    exact ⟨fun _ => hv.symm, fun h => absurd (by simp) h⟩
  · simp only [if_neg e]
    refine ⟨fun hx => (hm x).1 ?_, fun hx => (hm x).2 fun hd => hx (by simp [hd])⟩
    rcases List.mem_append.1 hx with hx | hx
    · exact hx
    · simp at hx
      exact absurd hx.symm e
theorem Met.same {D : List ByteArray} {f g h : ByteArray → Option Value} {s : ByteArray} (hm : Met D f g h) (hs : s ∉ D) (hv : f s = g s) : Met (D ++ [s]) f g h := fun x => by
  by_cases e : s = x
  · subst e
    exact ⟨fun _ => ((hm s).2 hs).trans hv.symm, fun h => absurd (by simp) h⟩
  · refine ⟨fun hx => (hm x).1 ?_, fun hx => (hm x).2 fun hd => hx (by simp [hd])⟩
    rcases List.mem_append.1 hx with hx | hx
    · exact hx
    · simp at hx
      exact absurd hx.symm e
/-- All that f has been met from P on: h is f wherever f or P holds something. -/
theorem Met.all {D : List ByteArray} {f g h : ByteArray → Option Value} (hm : Met D f g h) (hall : ∀ s, s ∉ D → f s = g s) : ∀ s, h s = f s := fun s => by
  by_cases hd : s ∈ D
  · exact (hm s).1 hd
  · rw [(hm s).2 hd, hall s hd]
def VisTo (w : World) (n : Nat) (G : ByteArray → Option Int) (e : Ending) (w' : World) : Prop := ∃ b, e = .returned (.map (some b)) ∧ w.heap.size ≤ b ∧ RMap w' b n (intv G) ∧ Below w.heap.size w w'
theorem make_hides (w : World) : (Instr.makeMap 85 none).run Tryd.prog w = .ok (.map (some w.heap.size)) (w.alloc (.map #[] 0)) := by
  simp [Instr.makeMap, run_underlying Tryd.underlying85]
set_option maxRecDepth 100000 in
set_option maxHeartbeats 1000000 in
theorem visSim_any (v : Value) (n : Nat) (G : ByteArray → Option Int) (w : World) (h : SimR w v n G) : Calls Tryd.prog 35 #[v] w (VisTo w n G) := by
  obtain ⟨p, b, rfl, hb, hm⟩ := h
  have hmk := make_hides
  have t1 : ∀ w, (Instr.typeAssert (.iface 93 (.pointer (some ⟨p, 0, none⟩))) 58 90 true).run Tryd.prog w = .ok (.tuple #[.pointer none, .bool false]) w := fun _ => by kernel_rfl
  have t2 : ∀ w, (Instr.typeAssert (.iface 93 (.pointer (some ⟨p, 0, none⟩))) 58 88 true).run Tryd.prog w = .ok (.tuple #[.pointer none, .bool false]) w := fun _ => by kernel_rfl
  have t3 : ∀ w, (Instr.typeAssert (.iface 93 (.pointer (some ⟨p, 0, none⟩))) 58 93 true).run Tryd.prog w = .ok (.tuple #[.pointer (some ⟨p, 0, none⟩), .bool true]) w := fun _ => by kernel_rfl
  have c1 : w.cell? ⟨p, 1, none⟩ = some (.map (some b)) := hb.cell 1
  have hp := hb.lt
  have hbw := hm.lt
  have HM := Lib.hid hm
  clear hb hm
  go_enter Tryd.func35, Tryd.ntmps35
  go_wp2_with (at_range; refine wpList_rrange _ rfl (.tmp 78) 96 rfl _ _ Tryd.underlying96 b n (fv G) rfl (HM.out.alloc _) ?_; intro w1 cnt1 hr1 hb1 hs1)
  have e1 : (w.alloc (Obj.map #[] 0)).heap.size = w.heap.size + 1 := by simp
  rw [e1] at hr1 hb1 hs1
  have HR1 := Lib.hid hr1
  have HB1 := Lib.hid (((Below.refl w.heap.size w).alloc (Nat.le_refl _) (.map #[] 0)).trans (hb1.mono (by simp)))
  have HM1 := Lib.hid ((RMap.new w 0).below (by rw [e1]; exact hb1))
  clear hr1 hb1
  go_frame
  simp only [e1]
  clear e1
  go_loopw [14] (fun _ wr => ∃ (D : List ByteArray) (cnt : Nat) (h : ByteArray → Option Value), Rit wr (w.heap.size + 1) b n (fv G) D cnt ∧ RMap wr w.heap.size D.length h ∧ Met D (intv G) (fun _ => none) h ∧ Below w.heap.size w wr) (fun _ wr => wr.rangeLeft b (w.heap.size + 1))
  case atStart => exact ⟨[], _, _, HR1.out, HM1.out, Met.nil _ _, HB1.out⟩
  case round =>
    obtain ⟨D, cnt, h, hr, hm, hmet, hbw'⟩ := hrel
    obtain ⟨wo, rfl⟩ : ∃ wo : World, wo = wr := ⟨_, rfl⟩
    have HR := Lib.hid hr
    have HM := Lib.hid hm
    have HMet := Lib.hid hmet
    have HB := Lib.hid hbw'
    have hsz := hbw'.size
    have hlm := hm.lt
    clear hr hm hmet hbw'
    go_wp2_with (first
      | (at_next; refine wpList_rnext _ rfl (.tmp 79) rfl b (w.heap.size + 1) n (fv G) D cnt rfl HR.out (fun hl => ?_) (fun s v w2 cnt2 hx hen => ?_); rotate_left; obtain ⟨x, hgx, rfl⟩ := fv_some hx.out.1; have HGX := Lib.hid hgx; clear hgx; rotate_left)
      | (at_mapUpdate; refine wpList_rput _ rfl (.tmp 85) (.tmp 86) (.tmp 88) 85 rfl 9 49 Tryd.underlying85 Tryd.underlying9 w.heap.size D.length h rfl ((HM.out.grown hx.out.2.2.2.2.1 (by intro e; injection e; omega)).alloc _) s (.int .i64 x) rfl rfl ?_; intro w3 hm3 hg3))
    · have HME : Hid (∀ s, h s = intv G s) := HMet.out.all fun s hs => by
        cases hg : G s with
        | none => unfold intv; rw [hg]; rfl
        | some x => exact absurd (hl.out s (by unfold fv; rw [hg]; rfl)) hs
      have hDn := HR.out.len
      clear hl
      go_wp2
      go_ret
      exact ⟨_, rfl, Nat.le_refl _, (HM.out.more hDn).eq_ HME.out, HB.out⟩
    · have HX := Lib.hid hx.out
      have hs2 := HX.out.2.2.2.2.2
      have HR3 := Lib.hid ((HX.out.2.2.1.alloc (.cells #[.nilIface, .int .i64 x] 66)).kept hg3 (by intro e; injection e; omega) (by intro e; injection e; omega))
      have HM3 := Lib.hid hm3
      have HB3 := Lib.hid (((HB.out.grown HX.out.2.2.2.2.1 hsz (fun a ha => by injection ha; omega)).alloc (by omega) (.cells #[.nilIface, .int .i64 x] 66)).grown hg3 (by simp; omega) (fun a ha => by injection ha; omega))
      have HMet3 := Lib.hid (HMet.out.step (v := .int .i64 x) (by unfold intv; rw [HGX.out]; rfl) : Met (D ++ [s]) (intv G) (fun _ => none) _)
      have hle := HR.out.left_eq
      have hle3 := HR3.out.left_eq
      have hlt3 := HX.out.2.2.2.1
      have HLE : Hid (w3.rangeLeft b (w.heap.size + 1) < wo.rangeLeft b (w.heap.size + 1)) := Lib.hid (by rw [hle, hle3]; exact hlt3)
      clear hx hm3 hg3 hen hle hle3 hlt3 hs2
      go_frame
      go_wp2
      go_roundw
      case rel => exact ⟨D ++ [s], _, _, HR3.out, (by rw [List.length_append]; exact HM3.out), HMet3.out, HB3.out⟩
      case measure => exact HLE.out
end Go.Proofs.YthmijakellfbiaaDoor
