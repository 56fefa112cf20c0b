/-
  Calls without arguments. Conditions: none.
-/
import Derived.Test.YtionkdlcagikaaaPrcM
namespace Go.Proofs.Ytionkdlcagikaaa
open Go.RowKit
set_option linter.unusedVariables false
set_option linter.unusedSimpArgs false

def ArgsTo (w : World) (e : Ending) (w' : World) : Prop := e = .returned (.agg #[.slice none 0 0, .slice none 0 0]) ∧ Below w.heap.size w w'
set_option maxRecDepth 100000 in
set_option maxHeartbeats 500000 in
theorem args_none (gb : Nat) (A : Option Addr) (c7 : Nat) (w : World) :
    Calls Try.prog 24 #[.pointer (some ⟨gb, 0, none⟩), .slice A 0 c7] w (ArgsTo w) := by
  go_enter Try.func24, Try.ntmps24
  go_wp2
  go_loopw [12] (fun i wr => i = .int .i64 0 ∧ Blk wr w.heap.size 122 #[.slice none 0 0, .slice none 0 0] ∧ Blk wr (w.heap.size + 1) 122 #[.slice none 0 0, .slice none 0 0] ∧ Below w.heap.size w wr) (fun _ _ => 0)
  case atStart =>
    exact ⟨rfl, (Blk.new w _ _).alloc _, by simpa using Blk.new (w.alloc (.cells #[.slice none 0 0, .slice none 0 0] 122)) 122 #[.slice none 0 0, .slice none 0 0], ((Below.refl _ _).alloc (Nat.le_refl _) _).alloc (by simp) _⟩
  case round =>
    obtain ⟨rfl, hA, hB, hb⟩ := hrel
    have y0 := hA.cell 0
    have y1 := hA.cell 1
    have z0 := hB.cell 0
    have z1 := hB.cell 1
    have f0 := hA.frozen 0
    have f1 := hA.frozen 1
    have HB := Lib.hid hb
    have hE := (hA.set_ 0 (.slice none 0 0)).set_ 1 (.slice none 0 0)
    have E0 := Lib.hid (hE.cell 0)
    have E1 := Lib.hid (hE.cell 1)
    clear hA hB hb hE
    go_wp2
    have e0 := E0.out
    have e1 := E1.out
    simp only [Array.setIfInBounds, List.setIfInBounds_toArray] at e0 e1
    refine bodyPost_ret (v := .agg #[.slice none 0 0, .slice none 0 0]) (by simp [results, Try.results24, go_sem, e0, e1]) rfl ⟨rfl, ?_⟩
    exact (HB.out.setCell (Nat.le_refl _) _).setCell (Nat.le_refl _) _
theorem slice_one (ad : Addr) (c7 : Nat) (h7 : 1 ≤ c7) : ∃ A', ∀ W, (Instr.sliceAt 40 (.slice (some ad) 1 c7) (some (.int .i64 1)) none none).run Try.prog W = .ok (.slice A' 0 (c7 - 1)) W := by
  refine ⟨if c7 = 1 then some ad else some (ad.add 1), fun W => ?_⟩
  rw [run_sliceAt_slice W 40 _ _ _ _ (by kernel_rfl), run_slice_l W 40 (some ad) 1 c7 (by kernel_rfl) .i64 1 (by omega) (by omega), show (sizeOf (Try.prog.elem 40)).run Try.prog W = .ok 1 W from by kernel_rfl]
  simp [sliced, Result.andThen]
theorem BldP.row {w : World} {base gb gp c : Nat} {A : Option Addr} {T : List Nd} (h : BldP w base gb gp A c T) : w.cell? ⟨gb, 0, none⟩ = some (.slice A T.length c) := h.2.2.2.1.cell 0
set_option maxRecDepth 100000 in
set_option maxHeartbeats 500000 in
theorem both_app (base gb gp c : Nat) (A : Option Addr) (T : List Nd) (op : Int) (s : ByteArray) (fl sz : Int) (p : Nat) (t : TypeId) (ad : Addr) (c7 : Nat) (w : World) (h : BldP w base gb gp A c T) (hT : 1 ≤ T.length) (hl : ad.block < w.heap.size) (hn : ad.block ≠ gp) (h7 : 1 ≤ c7)
    (hp : w.cell? ad = some (.int .i64 p)) (hk : NodeOf base gb gp c A T p t) :
    Calls Try.prog 18 #[.pointer (some ⟨gb, 0, none⟩), .agg #[.int .i64 18, .int .i64 op, .string s, .int .i64 fl, .int .i64 sz], .slice (some ad) 1 c7] w (NodeTo base gb gp c A T 47 (fun _ _ => True) w) := by
  have HB := Lib.hid h
  have HK : Hid (∀ w1 : World, BldP w1 base gb gp A c T → Calls Try.prog 12 #[.pointer (some ⟨gb, 0, none⟩), .int .i64 p] w1 (NodeTo base gb gp c A T t (fun _ _ => True) w1)) := hk
  have y0 := cell_al (.cells #[.int .i64 18, .int .i64 op, .string s, .int .i64 fl, .int .i64 sz] 23) hp
  have y2 := cell_al (.cells #[.int .i64 18, .int .i64 op, .string s, .int .i64 fl, .int .i64 sz] 23) h.row
  have y1 : (w.alloc (.cells #[.int .i64 18, .int .i64 op, .string s, .int .i64 fl, .int .i64 sz] 23)).cell? ⟨w.heap.size, 3, none⟩ = some (.int .i64 fl) := (Blk.new w 23 #[.int .i64 18, .int .i64 op, .string s, .int .i64 fl, .int .i64 sz]).cell 3
  have hl1 : ad.block < (w.alloc (.cells #[.int .i64 18, .int .i64 op, .string s, .int .i64 fl, .int .i64 sz] 23)).drew.heap.size := Nat.lt_of_lt_of_le hl ((Below.refl w.heap.size w).alloc (Nat.le_refl _) _).size
  have hgl : w.heap.size < (w.alloc (.cells #[.int .i64 18, .int .i64 op, .string s, .int .i64 fl, .int .i64 sz] 23)).drew.heap.size := by show w.heap.size < (w.alloc _).heap.size; simp
  have hgp : w.heap.size ≠ gp := by have := h.2.2.2.2; obtain ⟨ps, h5, _⟩ := this; have := h5.lt; omega
  obtain ⟨A8, hsl⟩ := slice_one ad c7 h7
  have HN := Lib.hid hn
  have HL1 := Lib.hid hl1
  have HGL := Lib.hid hgl
  have HGP := Lib.hid hgp
  clear h hk hp hn hl1 hl hgl hgp
  go_enter Try.func18, Try.ntmps18
  go_wp2_with (go_at_call 22; refine (count_any gb _ 1 _ 1 _ (by omega) (by omega) _).mono ?_; rintro e w' ⟨rfl, rfl⟩)
  clear y2
  go_region_held3 (fun w' => w'.cell? ad = some (.int .i64 p) ∧ w'.cell? ⟨w.heap.size, 3, none⟩ = some (.int .i64 fl))
    (first | with_reducible exact ⟨y0, y1⟩ | with_reducible exact ⟨cell_dr y0, cell_dr y1⟩ | with_reducible exact ⟨z0, z1⟩ | with_reducible exact ⟨x0, x1⟩ | with_reducible exact ⟨cell_al _ x0, cell_al _ x1⟩ | fail)
    (first
      | (go_at_call 24; refine (args_none gb _ _ _).mono ?_; rintro e w3 ⟨rfl, hb3⟩; have HB3 := Lib.hid (HB2.out.below hb3); have HBe3 := Lib.hid (But.of_below hb3 (Nat.le_refl _) (fun k => k = gp)); have x0 := cell_below z0 hb3; have x1 := cell_below z1 hb3; clear hb3)
      | (go_at_call 12; refine (HK.out _ ((HB.out.alloc _).drew)).mono ?_; rintro e w2 ⟨g2, rfl, hb2, hB2, hq2⟩; have HB2 := Lib.hid hB2; have HBe2 := Lib.hid hb2; have z0 := cell_bt (cell_dr y0) hb2 HL1.out HN.out; have z1 := cell_bt (cell_dr y1) hb2 HGL.out HGP.out; clear hb2 hB2 hq2))
  all_goals
    go_wp2
    go_ret
    exact ⟨_, rfl, (((((But.refl _ w).alloc _).drew).trans HBe2.out).trans HBe3.out).alloc _, HB3.out.alloc _, trivial⟩
end Go.Proofs.Ytionkdlcagikaaa
