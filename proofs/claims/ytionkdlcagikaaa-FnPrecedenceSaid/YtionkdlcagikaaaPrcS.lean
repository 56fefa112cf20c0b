/-
  build, Precedence. Conditions: none.
-/
import Derived.Test.YtionkdlcagikaaaPrcR
import Derived.Laws.MakeOwn
import Derived.Laws.OwnMore
namespace Go.Proofs.Ytionkdlcagikaaa
open Go.RowKit
set_option linter.unusedVariables false
set_option linter.unusedSimpArgs false

theorem info_node : (Try.prog.info? 34).map (fun i => (i.zero, i.size, i.bytes)) = some (some .nilIface, 1, 16) := by kernel_rfl
theorem made_cells' (z : Value) (n : Nat) : madeCells #[z] n = (List.replicate n z).toArray := by
  rw [← Array.toList_inj]
  exact toList_madeCells_one z n
theorem make_nodes (n : Nat) (hn : n ≤ 100) (w : World) :
    (Instr.makeSlice 43 (.int .i64 (n : Int)) (.int .i64 (n : Int))).run Try.prog w = .ok (.slice (some ⟨w.heap.size, 0, none⟩) n n) (w.alloc (.cells (List.replicate n Value.nilIface).toArray 34)) := by
  obtain ⟨i, hi, hz0, hz1, hz2⟩ := info_parts info_node
  have hb' : (i.bytes : Int) * (n : Int) ≤ 281474976710656 := by rw [hz2]; omega
  have hr := run_make (P := Try.prog) w 43 34 i .nilIface (by kernel_rfl) hi hz0 .i64 .i64 n n (by omega) (by omega) hb' (by omega)
  simp only [Int.toNat_natCast] at hr
  rw [hr, hz1, Nat.mul_one, show Value.nilIface.cells = #[Value.nilIface] from rfl, made_cells']
theorem first_bld {w w1 : World} (A : Option Addr) (c : Nat) (T : List Nd) (hR : Reads w w.heap.size 5 A T.length (flatN T)) (hb : Below w.heap.size w w1) :
    BldP ((w1.alloc (.cells (List.replicate T.length Value.nilIface).toArray 34)).alloc (.cells #[.slice A T.length c, .bool false, .bool false, .slice (some ⟨w1.heap.size, 0, none⟩) T.length T.length] 45)) w.heap.size (w1.heap.size + 1) w1.heap.size A c T := by
  have h1 := hb.size
  have hp : Blk (w1.alloc (.cells (List.replicate T.length Value.nilIface).toArray 34)) w1.heap.size 34 (List.replicate T.length Value.nilIface).toArray := Blk.new _ _ _
  have hg := Blk.new (w1.alloc (.cells (List.replicate T.length Value.nilIface).toArray 34)) 45 #[.slice A T.length c, .bool false, .bool false, .slice (some ⟨w1.heap.size, 0, none⟩) T.length T.length]
  rw [World.size_alloc] at hg
  refine ⟨by omega, h1, hR.keep fun p hp => ?_, hg, _, hp.alloc _, by simp⟩
  exact ((hb.alloc h1 _).alloc (by simp; omega) _).cell hp
def BuildTo (t : TypeId) (Q : World → Nat → Prop) (w : World) (e : Ending) (w' : World) : Prop :=
  ∃ g : Nat, e = .returned (.tuple #[.iface t (.pointer (some ⟨g, 0, none⟩)), .bool true]) ∧ Q w' g ∧ Below w.heap.size w w'
set_option maxRecDepth 100000 in
set_option maxHeartbeats 1000000 in
theorem build_any (A : Option Addr) (c : Nat) (T : List Nd) (t : TypeId) (Q : World → Nat → Prop) (w : World) (h : Reads w w.heap.size 5 A T.length (flatN T)) (hF : Fit T) (hQd : ∀ (w : World) (n g : Nat), Q w g → Q (w.drewN n) g)
    (hm : ∀ (gb gp : Nat) (w1 : World), BldP w1 w.heap.size gb gp A c T → Calls Try.prog 12 #[.pointer (some ⟨gb, 0, none⟩), .int .i64 0] w1 (NodeTo w.heap.size gb gp c A T t Q w1)) :
    Calls Try.prog 9 #[.slice A T.length c, .bool false] w (BuildTo t Q w) := by
  have HS := Lib.hid (shaped_any A c T w h hF)
  have HM := Lib.hid hm
  have HR := Lib.hid h
  have hmk := make_nodes T.length hF.1
  have HL := Lib.hid hF.1
  have HQd := Lib.hid hQd
  clear h hF hm hQd
  go_enter Try.func9, Try.ntmps9
  go_wp2_with (first
    | (go_at_call 11; refine HS.out.mono ?_; rintro e w1 ⟨rfl, hb1⟩; have HBe1 := Lib.hid hb1; clear hb1)
    | (go_at_call 12; refine (HM.out _ w1.heap.size _ (first_bld A c T HR.out HBe1.out)).mono ?_; rintro e w2 ⟨g, rfl, hb2, hB2, hq2⟩; have HBe2 := Lib.hid hb2; have HB2 := Lib.hid hB2; have HQ2 := Lib.hid hq2; have hbad := hB2.2.2.2.1.cell 2; clear hb2 hB2 hq2)
    | fail)
  go_quiet (fail)
  go_wp2
  go_ret2
  refine ⟨g, rfl, HQd.out _ _ _ HQ2.out, below_drewN' (Below.then_but ((HBe1.out.alloc HBe1.out.size _).alloc (by have := HBe1.out.size; simp; omega) _) HBe2.out (fun i hi he => ?_) (by have := HBe1.out.size; simp; omega)) _⟩
  have h1 := HBe1.out.size
  have h2 : i = w1.heap.size := he
  omega
/-- How the root is made. -/
def RootOf (T : List Nd) (t : TypeId) (Q : World → Nat → Prop) : Prop :=
  ∀ (base gb gp c : Nat) (A : Option Addr) (w : World), BldP w base gb gp A c T → Calls Try.prog 12 #[.pointer (some ⟨gb, 0, none⟩), .int .i64 0] w (NodeTo base gb gp c A T t Q w)
def PrecTo (z : Int) (w : World) (e : Ending) (w' : World) : Prop := e = .returned (.int .i64 z) ∧ Below w.heap.size w w'
theorem size_nd (W : World) : (sizeOf (Try.prog.elem 24)).run Try.prog W = .ok 5 W := by kernel_rfl
theorem slice_all {w : World} {B : Nat} {A : Option Addr} {n c : Nat} {vs : List Value} (h : Reads w B 5 A n vs) (hn : 0 < n) (hc : n ≤ c) :
    ∃ A', Reads w B 5 A' n vs ∧ ∀ W, (Instr.sliceAt 24 (.slice A n c) (some (.int .i64 0)) (some (.int .i64 (n : Int))) none).run Try.prog W = .ok (.slice A' n c) W := by
  have hc0 : ¬ (c = 0) := by omega
  refine ⟨A.map (·.add (0 * 5)), ⟨h.1, fun hn => ?_⟩, fun W => ?_⟩
  · obtain ⟨ad, rfl, hb, hcell⟩ := h.2 hn
    refine ⟨ad.add (0 * 5), rfl, by rw [block_of_add]; exact hb, fun j u hu => ?_⟩
    rw [add_of_add, show 0 * 5 + j = j by omega]
    exact hcell j u hu
  · rw [run_sliceAt_slice W 24 _ _ _ _ (by kernel_rfl), run_slice_lh W 24 A n c (by kernel_rfl) .i64 .i64 (0 : Int) (n : Int) (by omega) (by omega) (by omega), size_nd]
    simp [sliced, Result.andThen, hc0]
set_option maxRecDepth 100000 in
set_option maxHeartbeats 1000000 in
theorem prec_any (A : Option Addr) (c : Nat) (T : List Nd) (t : TypeId) (Q : World → Nat → Prop) (z : Int) (w : World) (h : Reads w w.heap.size 5 A T.length (flatN T)) (hc : T.length ≤ c) (hF : Fit T) (hQd : ∀ (w : World) (n g : Nat), Q w g → Q (w.drewN n) g)
    (hm : RootOf T t Q) (hp : ∀ (w1 : World) (g : Nat), Q w1 g → Calls Try.prog 10 #[.iface t (.pointer (some ⟨g, 0, none⟩))] w1 fun e w' => e = .returned (.int .i64 z) ∧ w1 = w') :
    Calls Try.prog 5 #[.slice A T.length c, .int .i64 0] w (PrecTo z w) := by
  have HF := Lib.hid hF
  obtain ⟨hl, ⟨r, hr, hrs⟩, hfit⟩ := hF
  have hpos := (List.getElem?_eq_some_iff.1 hr).1
  obtain ⟨A', hR', hsl⟩ := slice_all h hpos hc
  have HB := Lib.hid (build_any A' c T t Q w hR' HF.out hQd fun gb gp w1 h1 => hm _ gb gp c A' w1 h1)
  have HPr := Lib.hid hp
  obtain ⟨ad, rfl, hb, r0, r1, r2, r3, r4⟩ := h.node hr
  rw [hrs] at r4
  replace r4 : w.cell? ⟨ad.block, ad.off + 4, none⟩ = some (.int .i64 T.length) := r4
  have hz : ¬ ((T.length : Int) < 1) := by omega
  have hz2 : (0 : Int) < (T.length : Int) := by omega
  have hw : IntKind.i64.wrap (T.length : Int) = (T.length : Int) := by rw [IntKind.wrap_i64]; omega
  have hz3 : ¬ ((T.length : Int) ≤ 0) := by omega
  have hz4 : ¬ (T.length = 0) := by omega
  clear h hm hp hR' r0 r1 r2 r3 hrs hr hfit hQd hb
  go_enter Try.func5, Try.ntmps5
  go_wp2_with (first
    | (go_at_call 9; refine HB.out.mono ?_; rintro e w1 ⟨g, rfl, hq1, hb1⟩; have HBe1 := Lib.hid hb1; have HQ1 := Lib.hid hq1; clear hb1 hq1)
    | (go_at_call 10; refine (HPr.out _ _ HQ1.out).mono ?_; rintro e w2 ⟨rfl, rfl⟩))
  go_ret
  exact ⟨rfl, HBe1.out⟩
end Go.Proofs.Ytionkdlcagikaaa
