/-
  Local expressions. Conditions: none.
-/
import Derived.Test.YtionkdlcagikaaaPrcP
namespace Go.Proofs.Ytionkdlcagikaaa
open Go.RowKit
set_option linter.unusedVariables false
set_option linter.unusedSimpArgs false

theorem slice_front (ad : Addr) (c7 : Nat) (h7 : 2 ≤ c7) : ∀ W, (Instr.sliceAt 40 (.slice (some ad) 2 c7) none (some (.int .i64 1)) none).run Try.prog W = .ok (.slice (some ad) 1 c7) W := by
  intro W
  rw [run_sliceAt_slice W 40 _ _ _ _ (by kernel_rfl), run_slice_h W 40 (some ad) 2 c7 (by kernel_rfl) .i64 1 (by omega) (by omega), show (sizeOf (Try.prog.elem 40)).run Try.prog W = .ok 1 W from by kernel_rfl]
  have : ¬ (c7 = 0) := by omega
  simp [sliced, Result.andThen, this]
  try rfl
set_option maxRecDepth 100000 in
set_option maxHeartbeats 500000 in
theorem both_loc (base gb gp c : Nat) (A : Option Addr) (T : List Nd) (op : Int) (s : ByteArray) (fl sz : Int) (a p q : Nat) (n : Nd) (t t' : TypeId) (ad : Addr) (c7 : Nat) (w : World) (h : BldP w base gb gp A c T) (hT : 2 ≤ T.length) (hl : ad.block < w.heap.size) (hnp : ad.block ≠ gp) (h7 : 2 ≤ c7)
    (hp : w.cell? ad = some (.int .i64 a)) (hp' : w.cell? ⟨ad.block, ad.off + 1, none⟩ = some (.int .i64 q))
    (hF : Fit T) (hn : T[a]? = some n) (hk : kidsOf T a = [p]) (h32 : n.kind = 32) (h0 : n.flag = 0) (hnd : NodeOf base gb gp c A T p t) (hk' : NodeOf base gb gp c A T q t') :
    Calls Try.prog 18 #[.pointer (some ⟨gb, 0, none⟩), .agg #[.int .i64 20, .int .i64 op, .string s, .int .i64 fl, .int .i64 sz], .slice (some ad) 2 c7] w (NodeTo base gb gp c A T 72 (fun _ _ => True) w) := by
  have HB := Lib.hid h
  have HBs : Hid (∀ w1 : World, BldP w1 base gb gp A c T → w1.cell? ad = some (.int .i64 a) → Calls Try.prog 26 #[.pointer (some ⟨gb, 0, none⟩), .slice (some ad) 1 c7] w1 (BindsTo base gb gp c A T w1)) := fun w1 h1 h2 => binds_any base gb gp c A T a p n t ad c7 w1 h1 hF hn hk h32 h0 hnd h2
  have HK' : Hid (∀ w1 : World, BldP w1 base gb gp A c T → Calls Try.prog 12 #[.pointer (some ⟨gb, 0, none⟩), .int .i64 q] w1 (NodeTo base gb gp c A T t' (fun _ _ => True) w1)) := hk'
  have y0 := cell_al (.cells #[.int .i64 20, .int .i64 op, .string s, .int .i64 fl, .int .i64 sz] 23) hp
  have y1 := cell_al (.cells #[.int .i64 20, .int .i64 op, .string s, .int .i64 fl, .int .i64 sz] 23) hp'
  have y2 := cell_al (.cells #[.int .i64 20, .int .i64 op, .string s, .int .i64 fl, .int .i64 sz] 23) h.row
  have hl1 : ad.block < (w.alloc (.cells #[.int .i64 20, .int .i64 op, .string s, .int .i64 fl, .int .i64 sz] 23)).drew.heap.size := Nat.lt_of_lt_of_le hl ((Below.refl w.heap.size w).alloc (Nat.le_refl _) _).size
  have hsl := slice_front ad c7 h7
  have HN := Lib.hid hnp
  have HL1 := Lib.hid hl1
  clear h hk hk' hp hp' hn hnp hl1 hl hnd hF h32 h0
  go_enter Try.func18, Try.ntmps18
  go_wp2_with (go_at_call 22; refine (count_any gb _ 2 _ 2 _ (by omega) (by omega) _).mono ?_; rintro e w' ⟨rfl, rfl⟩)
  clear y2
  have hw : IntKind.i64.wrap ((2 : Int) - 1) = 1 := by rfl
  have hw2 : IntKind.i64.wrap 1 = 1 := by rfl
  go_region_held3 (fun w' => w'.cell? ad = some (.int .i64 a) ∧ w'.cell? ⟨ad.block, ad.off + 1, none⟩ = some (.int .i64 q))
    (first | with_reducible exact ⟨y0, y1⟩ | with_reducible exact ⟨cell_dr y0, cell_dr y1⟩ | with_reducible exact ⟨z0, z1⟩ | with_reducible exact ⟨x0, x1⟩ | with_reducible exact ⟨cell_al _ x0, cell_al _ x1⟩ | fail)
    (first
      | (go_at_call 12; refine (HK'.out _ HB2.out).mono ?_; rintro e w3 ⟨g3, rfl, hb3, hB3, hq3⟩; have HB3 := Lib.hid hB3; have HBe3 := Lib.hid hb3; have x0 := cell_bt z0 hb3 HL2.out HN.out; have x1 := cell_bt z1 hb3 HL2.out HN.out; clear hb3 hB3 hq3)
      | (go_at_call 26; refine (HBs.out _ ((HB.out.alloc _).drew) (cell_dr y0)).mono ?_; rintro e w2 ⟨g2, cp2, rfl, hb2, hB2⟩; have HB2 := Lib.hid hB2; have HBe2 := Lib.hid hb2; have z0 := cell_bt (cell_dr y0) hb2 HL1.out HN.out; have z1 := cell_bt (cell_dr y1) hb2 HL1.out HN.out; have HL2 := Lib.hid (Nat.lt_of_lt_of_le HL1.out hb2.size); clear hb2 hB2))
  all_goals
    go_wp2
    go_ret
    exact ⟨_, rfl, (((((But.refl _ w).alloc _).drew).trans HBe2.out).trans HBe3.out).alloc _, HB3.out.alloc _, trivial⟩
end Go.Proofs.Ytionkdlcagikaaa
